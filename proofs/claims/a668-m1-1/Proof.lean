import JvmDerived
import JvmDerived.Pilot.@@N@@Statement
import JvmDerived.Pilot.@@N@@Code
set_option linter.unusedVariables false
set_option linter.unusedSimpArgs false
@@BLOCK:NumsL.lean.txt@@
@@BLOCK:LamKit.lean.txt@@
namespace Jvm.Pilot.@@N@@
open Jvm Jvm.ClassFile Sem Op Lib Jvm.Free Jvm.Stand Jvm.LawKit Jvm.RoadKit Bundle Jvm.Pilot.@@N@@.Jvm.D
section Own
variable {p : Program} {l : Launch} {e : Env} {R : Room} {s : State} {m : MethodId} {args : Array Value} {below : List Frame} {meth : Method} {c : Code} {T : State} {locs : List Loc} {cells slots : Nat}
/-- the walk from the state t ends as the contract Q says; End: the narrow frame or the wide one -/
def Go (End : State → Outcome → State → List Loc → Nat → Nat → Prop) (p : Program) (e : Env) (below : List Frame) (s : State) (rc rs : Nat) (Q : Option Value → Heap → List Loc → Prop) (t : State) : Prop :=
  ∃ s₂ o, Steps p.tables e below t s₂ ∧ s₂.status = .running ∧ Ended s₂ below o ∧ ∃ v L, o = .returned v ∧ Q v s₂.heap L ∧ End s o s₂ L rc rs
variable {End : State → Outcome → State → List Loc → Nat → Nat → Prop}
theorem go {rc rs : Nat} {Q : Option Value → Heap → List Loc → Prop} {t t' : State} (k : ∀ target, Steps p.tables e below t' target → Steps p.tables e below t target) (h : Go End p e below s rc rs Q t') : Go End p e below s rc rs Q t := by
  obtain ⟨s₂, o, h1, h2⟩ := h
  exact ⟨s₂, o, k _ h1, h2⟩
theorem goT {rc rs : Nat} {Q : Option Value → Heap → List Loc → Prop} {t t' : State} (k : Steps p.tables e below t t') (h : Go End p e below s rc rs Q t') : Go End p e below s rc rs Q t := by
  obtain ⟨s₂, o, h1, h2⟩ := h
  exact ⟨s₂, o, k.trans h1, h2⟩
theorem goRet {rc rs : Nat} {Q : Option Value → Heap → List Loc → Prop} (X : Stand p l e R s m args below meth c T locs cells slots) (hx : p.tables.exec = Jvm.exec) (hlk : meth.locks = false) {pc : Nat} {Ls : Array Slot} {w : Value} {t : FieldType} {i : Instr} {rest : List Value} (hret : meth.sig.returnType = some t) (hn : narrow t w = w)
    (hi : (i = .ireturn ∧ (t = .int ∨ t = .boolean ∨ t = .byte ∨ t = .char ∨ t = .short) ∧ ∃ z, w = .int z) ∨ (i = .lreturn ∧ t = .long ∧ ∃ z, w = .long z) ∨ (i = .dreturn ∧ t = .double ∧ ∃ z, w = .double z) ∨ (i = .freturn ∧ t = .float ∧ ∃ z, w = .float z) ∨ (i = .areturn ∧ t.isReference = true ∧ w.isRef = true))
    (hd : decode c.code pc = .ok (i, 1)) (hc : cells ≤ rc) (hs : slots ≤ rs) (hq : Q (some w) T.heap locs) : Go FrameEnd p e below s rc rs Q (T.setTop (mkF m pc Ls (w :: rest))) := by
  obtain ⟨fs, hr, hrun, hended, hW, hsame⟩ := X.leave (v := some w) (fun h => by rw [hret] at h; cases h) hlk
  refine ⟨_, _, retOut X hx hret hn hi hd hr, hrun, hended, _, _, rfl, ?_, ⟨_, rfl⟩, hW, hsame.mono hc hs⟩
  show Q _ T.heap _
  exact hq
theorem goRetN {rc rs : Nat} {Q : Option Value → Heap → List Loc → Prop} (X : Stand p l e R s m args below meth c T locs cells slots) (hx : p.tables.exec = Jvm.exec) (hlk : meth.locks = false) {pc : Nat} {Ls : Array Slot} {z : Int32} {t : FieldType} {rest : List Value} (hret : meth.sig.returnType = some t) (ht : t = .boolean ∨ t = .byte ∨ t = .char ∨ t = .short)
    (hd : decode c.code pc = .ok (.ireturn, 1)) (hc : cells ≤ rc) (hs : slots ≤ rs) (hq : Q (some (.int (nar t z))) T.heap locs) : Go FrameEnd p e below s rc rs Q (T.setTop (mkF m pc Ls (.int z :: rest))) := by
  obtain ⟨fs, hr, hrun, hended, hW, hsame⟩ := X.leave (v := some (.int (nar t z))) (fun h => by rw [hret] at h; cases h) hlk
  refine ⟨_, _, retN X hx hret ht hd hr, hrun, hended, _, _, rfl, ?_, ⟨_, rfl⟩, hW, hsame.mono hc hs⟩
  show Q _ T.heap _
  exact hq
theorem goRet0 {rc rs : Nat} {Q : Option Value → Heap → List Loc → Prop} (X : Stand p l e R s m args below meth c T locs cells slots) (hx : p.tables.exec = Jvm.exec) (hlk : meth.locks = false) {pc : Nat} {Ls : Array Slot} (hret : meth.sig.returnType = none)
    (hd : decode c.code pc = .ok (.return_, 1)) (hc : cells ≤ rc) (hs : slots ≤ rs) (hq : Q none T.heap locs) : Go FrameEnd p e below s rc rs Q (T.setTop (mkF m pc Ls [])) := by
  obtain ⟨fs, hr, hrun, hended, hW, hsame⟩ := X.leave (v := none) (fun _ => rfl) hlk
  refine ⟨_, _, X.returnOut hx hret hd hr, hrun, hended, _, _, rfl, ?_, ⟨_, rfl⟩, hW, hsame.mono hc hs⟩
  show Q _ T.heap _
  exact hq
end Own
section OwnWH
open Jvm.LamKit
variable {p : Program} {l : Launch} {e : Env} {R : Room} {s Z : State} {m : MethodId} {args a0 : Array Value} {below : List Frame} {meth : Method} {c : Code} {T : State} {locs : List Loc} {cells slots : Nat} {h : Heap}
theorem own_backWH {y : MethodName} {bytes : ByteArray} {maxL : Nat} {ret : Option FieldType} {rm : Room} {len W : Nat} {as' : Array Value} {Q : Option Value → Heap → List Loc → Prop}
    (hM : MetFree l y (head1 [Cond.code y bytes maxL ret] rm) (fun a U => a = as' ∧ Z.Warmed39 U.vm ∧ U.heap = h ∧ Z.WarmedH U.vm) (fun _ _ _ _ _ => True) (fun _ U o U' => ∃ v L, o = .returned v ∧ Q v U'.heap L ∧ FrameEnd U o U' L rm.cells rm.slots))
    (hZ : Z.Warmed39 s.vm) (hWH : Z.WarmedH s.vm) (wc : (Cond.code y bytes maxL ret).before a0 Z = true) (wz : (Cond.initialized y.cls).before a0 Z = true) (hf : rm.frames + 1 ≤ R.frames) (hl : W + (maxL + 11) + rm.locals ≤ R.locals) :
    Back l R p e below s args y len W (fun A a => a = as' ∧ A.U.heap = h ∧ A.cells + rm.cells ≤ R.cells ∧ A.slots + rm.slots ≤ R.slots)
      (fun A _ v B => ∃ L, Q v B.U.heap L ∧ B.locs = A.locs ++ L ∧ B.cells = A.cells + rm.cells ∧ B.slots = A.slots + rm.slots) := by
  refine Back.of_free (bytes := bytes) (maxL := maxL) (ret := ret) (E := fun _ _ o t L k n => k = rm.cells ∧ n = rm.slots ∧ ∃ v, o = .returned v ∧ Q v t.heap L) hM hf hl ?_ ?_ (fun _ _ _ _ _ _ _ _ _ => trivial) ?_ ?_
  · intro m meth c A a Y hp
    have hU : Z.Warmed39 A.U.vm := wtrans hZ Y.warmed
    refine ⟨?_, mvT hU wc, mvT hU wz, hp.2.2.1, hp.2.2.2⟩
    show (Cond.and _ .tt).before a A.U = true
    rw [Cond.before_and, mvT hU wc]; rfl
  · intro m meth c A a g mk Y hp
    exact ⟨hp.1, wtrans hZ Y.warmed, hp.2.1, State.WarmedH.trans hWH Y.warmed⟩
  · rintro _ _ _ _ ⟨v, L, q1, q2, q3⟩
    exact ⟨L, _, _, q3, rfl, rfl, v, q1, q2⟩
  · rintro m meth c A a g mk v t L k n Y hp _ _ ⟨q1, q2, v', q3, q4⟩
    cases q3; subst q1 q2
    exact ⟨L, q4, rfl, rfl, rfl⟩
theorem own_made {host : String} {sh : Lambda.Shape} {cK : ClassId} (hW : Z.WarmedH s.vm) (q : Jvm.LamKit.Made Z host sh cK) : Jvm.LamKit.Made s host sh cK := by
  obtain ⟨d, dk, h1, h2, h3, h4⟩ := q
  obtain ⟨dk', h5, h6⟩ := hW.alike.2.2 _ _ h1
  have hA := hW.alike
  refine ⟨d, dk', h5, by rw [h6]; exact h2, Lambda.isMade_warmer hW h3, ?_⟩
  simpa only [State.lambdaCallable, hA.findClass, hA.assignable, hA.superclasses, hA.declaredIn] using h4
theorem own_lamAt {x : MethodName} {pc index : Nat} {sh : Lambda.Shape} (hW : Z.WarmedH s.vm) (q : (Cond.lambdaSite x pc index sh).before a0 Z = true) (hcap : sh.captured ≠ []) {mm : MethodId} (hn : s.methodNamed? x = some mm) :
    ∃ (cK : ClassId) (k : Class) (cf : ClassFile) (i0 p0 : Nat), Jvm.LamKit.Made Z x.cls sh cK ∧ Jvm.LamKit.Made s x.cls sh cK ∧ s.vm.classes[mm.cls]? = some k ∧ k.name = x.cls ∧ k.cf = some cf ∧ Lambda.shapeOf? cf index = some sh ∧
      (k.callSites.find? fun y => y.1 == mm.idx && y.2.1 == pc) = some (i0, p0, .makes cK) ∧ Lambda.isMade { classPath := fun _ => none } s.vm mm.cls sh cK = true := by
  have hA := hW.alike
  obtain ⟨cK, one, hat⟩ := Cond.lambdaSite_spec q
  obtain ⟨m1, k1, cf1, i0, p0, lk, hm1, hk1, hcf1, hsh, -, hfind, hmade, hcan, hl⟩ := State.lambdaAt?_spec hat
  have hmm : m1 = mm := by
    have h1 : (Z.setVm s.vm).methodNamed? x = Z.methodNamed? x := State.methodNamed?_setVm hA x
    have h2 : (Z.setVm s.vm).methodNamed? x = some mm := hn
    rw [h1, hm1] at h2; exact Option.some.inj h2
  subst hmm
  obtain ⟨k2, hk2, hnm⟩ := className_of_methodNamed hm1
  cases hk1.symm.trans hk2
  have hlk : lk = .makes cK := by
    rcases hl with ⟨_, _, _, _, hc, _⟩ | ⟨h, _⟩
    · exact absurd hc hcap
    · exact h
  subst hlk
  obtain ⟨k3, hk3, h3⟩ := hA.2.2 _ _ hk1
  have MZ : Jvm.LamKit.Made Z x.cls sh cK := ⟨_, k1, hk1, hnm, hmade, hcan⟩
  exact ⟨cK, k3, cf1, i0, p0, MZ, own_made hW MZ, hk3, by rw [h3]; exact hnm, by rw [h3]; exact hcf1, hsh, by rw [h3]; exact hfind, Lambda.isMade_warmer hW hmade⟩
/-- an invokedynamic whose site holds one captured long -/
theorem own_makes1 (X : Stand p l e R s m args below meth c T locs cells slots) (hx : p.tables.exec = Jvm.exec) {x : MethodName} {pc index fi : Nat} {sh : Lambda.Shape} (hW : Z.WarmedH s.vm) (q : (Cond.lambdaSite x pc index sh).before a0 Z = true) (hn : s.methodNamed? x = some m)
    (hcap : sh.captured = [.long]) (hok : capOK sh x.cls fi 0 = true) (hO : (Cond.instantiable "java/lang/Object" 0).before args s = true) {g : JFrame} (hg : g.method = m) (hpc : g.pc = pc) (hsz : g.locals.size = c.maxLocals) (hd : decode c.code g.pc = .ok (.invokedynamic index, 5))
    {z : Int64} {rest : List Value} (hst : g.stack = .long z :: rest) (hw : 2 * g.monitorRoom + (g.stack.map fun v => v.category).sum + 3072 ≤ R.locals) (hc : cells + 1 ≤ R.cells) (hs : slots + 1 ≤ R.slots) (eT : T.heap = h) :
    ∃ (cK : ClassId) (T' : State) (h' : Heap), Jvm.LamKit.Made Z x.cls sh cK ∧ Stand p l e R s m args below meth c T' locs (cells + 1) (slots + 1) ∧ T'.heap = h' ∧ Ext h h' ∧ h'[h.size]? = some { cls := cK, slots := #[.long z], vm := .none } ∧
      ∀ target, Steps p.tables e below (T'.setTop { g with pc := g.pc + 5, stack := .ref h.size :: rest }) target → Steps p.tables e below (T.setTop g) target := by
  subst eT
  obtain ⟨cK, k, cf, i0, p0, MZ, -, hk, hnm, hcf, hsh, hfind, hmade⟩ := own_lamAt hW q (by rw [hcap]; exact List.cons_ne_nil _ _) hn
  obtain ⟨b1, b2, b3, b4, s1, s2, s3, s4⟩ := Jvm.Lambda.shapeOf?_site hsh
  obtain ⟨kc, ff, hkc, hkd, hty, -⟩ := made_cap hok hk hnm hmade (noFields hO (State.WarmedH.refl s))
  have hz : ((kc.instanceTypes.toList.zip [Value.long z]).map fun (t, v) => narrow t v) = [Value.long z] := by rw [hty, hcap]; rfl
  have hL : e.platform.lambdaLinkWords = 3072 := by rw [X.admits.platform]
  have r := X.lambdaMakes hx hg hsz hd (vals := [Value.long z]) (rest := rest) hk (by rw [hpc]; exact hfind) hcf s1 s2 (parseLong_of_parse s3) (by rw [s4, hcap]; rfl) hst hkc (by rw [hL]; exact hw) hc (by rw [hz]; exact hs) (fun i v hv => by
    rw [hz] at hv
    match i, hv with
    | 0, hv =>
      obtain rfl : Value.long z = v := by simpa using hv
      simp [State.fitsSlot, State.slotType?, hkc, hkd, hty, hcap, fits]
    | n + 1, hv => simp at hv)
  rw [hz] at r
  refine ⟨cK, _, _, MZ, r.1, rfl, ⟨by simp, fun a cl ha => ?_⟩, by simp, r.2⟩
  have hlt : a < T.heap.size := (Array.getElem?_eq_some_iff.mp ha).1
  rw [State.heap_pushCell_of_lt _ _ hlt]; exact ha
end OwnWH
section OwnStart
variable {args : Array Value} {s : State} {a : Addr} {t : Term} {C n d : String} {k : Int32}
theorem own_eqI (h : (Cond.eq t (.int k)).value args s none s [] = some true) : t.eval args s none [] s = some (.int k) := by
  cases ht : t.eval args s none [] s with
  | none => simp [Cond.value, ht] at h
  | some x => cases x <;> simp [Cond.value, ht, Term.int_eval] at h ⊢; exact h
theorem own_neI (h : (Cond.not (Cond.eq t (.int k))).value args s none s [] = some true) {x : Int32} (e : t.eval args s none [] s = some (.int x)) : ¬ x = k := fun q => by
  subst q; simp [Cond.value, e, Term.int_eval] at h
theorem own_fI (ev : t.eval args s none [] s = some (.ref a)) (h : (Cond.eq (.field t C n d) (.int k)).value args s none s [] = some true) : Fld s s.heap a C n d (.int k) :=
  Fld.start ((fld_at ev).symm.trans (own_eqI h))
theorem own_fR {b : Addr} (ev : t.eval args s none [] s = some (.ref a)) (h : (Term.field t C n d).eval args s none [] s = some (.ref b)) : Fld s s.heap a C n d (.ref b) :=
  Fld.start ((fld_at ev).symm.trans h)
theorem own_len {c : Cell} {ty : FieldType} (ev : t.eval args s none [] s = some (.ref a)) (A : Arr s s.heap a c ty) (h : (Cond.eq (.length t) (.int k)).value args s none s [] = some true) : c.slots.size < 2 ^ 31 ∧ c.slots.size.toInt32 = k := by
  have e := own_eqI h
  have ha : s.arrayAt? a = some c := IntBox.arrayAt_of A.1 A.2.1 A.2.2
  by_cases hl : c.slots.size < 2 ^ 31
  · rw [len_f ev ha hl] at e; exact ⟨hl, by injection e with e; injection e⟩
  · simp [Term.eval, ev, ha, hl] at e
theorem own_el {c : Cell} {ty : FieldType} {j : Int32} {v : Int32} (ev : t.eval args s none [] s = some (.ref a)) (A : Arr s s.heap a c ty) (h : (Cond.eq (.elem t (.int j)) (.int v)).value args s none s [] = some true) : c.slots[j.toNatClampNeg]? = some (.int v) :=
  (elem_in (own_eqI h) ev (Term.int_eval j) A.1).2
end OwnStart
abbrev own_sh : Lambda.Shape := (Lambda.Shape.mk "com/example/lim1/lim1/DelayModel$Delays" "of" (MethodDescriptor.mk ([FieldType.int, FieldType.int, FieldType.long] : List FieldType) (Option.some FieldType.long)) ([FieldType.long] : List FieldType) 6 "com/example/lim1/lim1/DelayModel" "lambda$delays$0" (MethodDescriptor.mk ([FieldType.long, FieldType.int, FieldType.int, FieldType.long] : List FieldType) (Option.some FieldType.long)) false (MethodDescriptor.mk ([FieldType.int, FieldType.int, FieldType.long] : List FieldType) (Option.some FieldType.long)))
def own_fc : ByteArray := ⟨#[0x2a, 0xb4, 0x00, 0x0f, 0x1b, 0x1c, 0x21, 0xb8, 0x00, 0x17, 0xad]⟩
theorem own_f0 : decode own_fc 0 = .ok (.aload_n 0, 1) := by decide +kernel
theorem own_f1 : decode own_fc 1 = .ok (.getfield 15, 3) := by decide +kernel
theorem own_f4 : decode own_fc 4 = .ok (.iload_n 1, 1) := by decide +kernel
theorem own_f5 : decode own_fc 5 = .ok (.iload_n 2, 1) := by decide +kernel
theorem own_f6 : decode own_fc 6 = .ok (.lload_n 3, 1) := by decide +kernel
theorem own_f7 : decode own_fc 7 = .ok (.invokestatic 23, 3) := by decide +kernel
theorem own_f10 : decode own_fc (7 + 3) = .ok (.lreturn, 1) := by decide +kernel
theorem own_fwd : Jvm.LamKit.fwdOK own_sh "com/example/lim1/lim1/DelayModel" own_fc 5 (some .long) 23 19 = true := by decide +kernel
theorem own_cap : Jvm.LamKit.capOK own_sh "com/example/lim1/lim1/DelayModel" 15 0 = true := by decide +kernel
def own_minL (a b : Int64) : Int64 := if b < a then b else a
def own_maxL (a b : Int64) : Int64 := if a < b then b else a
theorem own_m62 (z : Int64) : 0 ≤ (z &&& (4611686018427387903 : Int64)).toInt ∧ (z &&& (4611686018427387903 : Int64)).toInt < 4611686018427387904 := by
  have h := Jvm.Kit.i64_mask z (4611686018427387903 : Int64) (k := 62) (by decide) (by decide)
  rw [h]; omega
theorem own_d (q2 : Int64) : 1 ≤ ((1 : Int64) + ((q2 &&& (2147483647 : Int64)) - ((q2 &&& (2147483647 : Int64)) / (2147483647 : Int64)) * (2147483647 : Int64))).toInt ∧ ((1 : Int64) + ((q2 &&& (2147483647 : Int64)) - ((q2 &&& (2147483647 : Int64)) / (2147483647 : Int64)) * (2147483647 : Int64))).toInt ≤ 2147483648 := by
  have h := Jvm.Kit.i64_mask q2 (2147483647 : Int64) (k := 31) (by decide) (by decide)
  have h0 : 0 ≤ ((q2 &&& (2147483647 : Int64))).toInt := by rw [h]; omega
  have h2 := Jvm.Kit.i64_rem_nonneg (y := (2147483647 : Int64)) h0
  rw [show ((2147483647 : Int64)).toInt = 2147483647 from by decide] at h2
  have h3 : (1 : Int64).toInt = 1 := by decide
  rw [Int64.toInt_add, h2, h3, Int.bmod_eq_of_le (by omega) (by omega)]; omega
theorem own_pos (q2 : Int64) : (0 : Int64) < ((1 : Int64) + ((q2 &&& (2147483647 : Int64)) - ((q2 &&& (2147483647 : Int64)) / (2147483647 : Int64)) * (2147483647 : Int64))) := by
  rw [Int64.lt_iff_toInt_lt, show (0 : Int64).toInt = 0 from by decide]; have := (own_d q2).1; omega
theorem own_fin (q2 q4 q5 : Int64) : ¬ (own_maxL (q4 &&& (4611686018427387903 : Int64)) (q5 &&& (4611686018427387903 : Int64)) + ((1 : Int64) + ((q2 &&& (2147483647 : Int64)) - ((q2 &&& (2147483647 : Int64)) / (2147483647 : Int64)) * (2147483647 : Int64)))) < (own_minL (q4 &&& (4611686018427387903 : Int64)) (q5 &&& (4611686018427387903 : Int64)) + ((1 : Int64) + ((q2 &&& (2147483647 : Int64)) - ((q2 &&& (2147483647 : Int64)) / (2147483647 : Int64)) * (2147483647 : Int64)))) := by
  have h1 := own_m62 q4; have h2 := own_m62 q5; have h3 := own_d q2
  generalize (q4 &&& (4611686018427387903 : Int64)) = z1 at *; generalize (q5 &&& (4611686018427387903 : Int64)) = z2 at *; generalize ((1 : Int64) + ((q2 &&& (2147483647 : Int64)) - ((q2 &&& (2147483647 : Int64)) / (2147483647 : Int64)) * (2147483647 : Int64))) = z3 at *
  unfold own_maxL own_minL
  rw [Int64.lt_iff_toInt_lt]
  by_cases k1 : z1 < z2
  · have k2 : ¬ z2 < z1 := by rw [Int64.lt_iff_toInt_lt] at k1 ⊢; omega
    rw [if_pos k1, if_neg k2]; rw [Int64.lt_iff_toInt_lt] at k1
    rw [Int64.toInt_add, Int64.toInt_add, Int.bmod_eq_of_le (by omega) (by omega), Int.bmod_eq_of_le (by omega) (by omega)]; omega
  · rw [if_neg k1]; rw [Int64.lt_iff_toInt_lt] at k1
    by_cases k2 : z2 < z1
    · rw [if_pos k2]
      rw [Int64.toInt_add, Int64.toInt_add, Int.bmod_eq_of_le (by omega) (by omega), Int.bmod_eq_of_le (by omega) (by omega)]; omega
    · rw [if_neg k2]; omega
theorem d5_0 : decode jdk_37_method_2_code 0 = .ok (.aload_n 0, 1) := by decide +kernel
theorem d5_1 : decode jdk_37_method_2_code 1 = .ok (.getfield 7, 3) := by decide +kernel
theorem d5_4 : decode jdk_37_method_2_code 4 = .ok (.ireturn, 1) := by decide +kernel
theorem pn_5 : plainName "java/lang/Enum" = true := by first | (simp [plainName, overriddenIn]; done) | decide +kernel
theorem ef_5 (m : MethodId) (a1 : Addr) : entryFrame m #[(.ref a1)] 1 = mkF m 0 #[.val (.ref a1)] [] := by first | (simp [entryFrame, mkF, argsToLocals, Value.category]; done) | rfl
def Q5 (Z : State) (a1 : Addr) (h0 : Heap) (n0 : Nat) (v : Option Value) (h : Heap) (L : List Loc) : Prop := v = some (.int (0 : Int32)) ∧ Fr n0 L ∧ (h = h0)
set_option maxRecDepth 65536 in
set_option maxHeartbeats 40000000 in
theorem rm5 (l : Launch) (Z : State) (a0 : Array Value) (hw : ∀ d ∈ tables_1, d.before a0 Z = true) (ws : List Jvm.Cond) (a1 : Addr) (h0 : Heap) (n0 : Nat) (Z0 : n0 ≤ h0.size) (P0 : Fld Z h0 a1 "java/lang/Enum" "ordinal" "I" (.int (0 : Int32))) :
    MetFree l (⟨"java/lang/Enum", "ordinal", "()I"⟩ : MethodName) (head1 (Jvm.Cond.code (⟨"java/lang/Enum", "ordinal", "()I"⟩ : MethodName) jdk_37_method_2_code 1 (some .int) :: ws) ({ frames := 0, cells := 0, slots := 0, locals := 0 } : Room)) (fun a U => a = #[(.ref a1)] ∧ Z.Warmed39 U.vm ∧ U.heap = h0) (fun _ _ _ _ _ => True) (fun _ U o U' => ∃ v L, o = .returned v ∧ Q5 Z a1 h0 n0 v U'.heap L ∧ FrameEnd U o U' L ({ frames := 0, cells := 0, slots := 0, locals := 0 } : Room).cells ({ frames := 0, cells := 0, slots := 0, locals := 0 } : Room).slots) := by
  refine MetFree.of_bodySF (plainFor_of_name pn_5) hisR ?_
  intro p e s m args below meth c s₁ Bd hml0 hP hK
  obtain ⟨rfl, hZ, hh⟩ := hP
  have hx := Bd.exec
  have hby := Bd.bytes
  have hml : c.maxLocals = 1 := hml0
  have hown : s.vm.findClass "java/lang/Enum" = some m.cls := findClass_of_methodNamed Bd.named
  have hnm := (name_of_methodNamed Bd.named Bd.method).1
  have X0 : Stand p l e ({ frames := 0, cells := 0, slots := 0, locals := 0 } : Room) s m #[(.ref a1)] below meth c s₁ [] 0 0 := Stand.of_body Bd
  have e0 : s₁.heap = h0 := by rw [← hh, Bd.state]; rfl
  have N0 := Fr.nil n0
  have hS0 : s.Since s.vm 0 := (State.WarmedH.refl s).since 0
  show Go (FrameEnd) p e below s ({ frames := 0, cells := 0, slots := 0, locals := 0 } : Room).cells ({ frames := 0, cells := 0, slots := 0, locals := 0 } : Room).slots (Q5 Z a1 h0 n0) (s₁.setTop (entryFrame m #[(.ref a1)] 1))
  refine go (fun _ k => castTop (ef_5 m a1) k) ?_
  show Go _ p e below s _ _ _ (s₁.setTop (mkF m 0 #[.val (.ref a1)] []))
  refine go (fun _ => XS.aloadN X0.here hx rfl (hb hby d5_0) rfl rfl) ?_
  show Go _ p e below s _ _ _ (s₁.setTop (mkF m 1 #[.val (.ref a1)] [(.ref a1)]))
  obtain ⟨T2, X2, e2, st2⟩ := getF X0 hx hZ hown (host := "") (Or.inl (hw _ (List.mem_of_getElem? (i := 30) rfl))) Via.refl e0 P0 (g := (mkF m 1 #[.val (.ref a1)] [(.ref a1)])) rfl rfl (hb hby d5_1)
  refine go st2 ?_
  show Go _ p e below s _ _ _ (T2.setTop (mkF m 4 #[.val (.ref a1)] [(.int (0 : Int32))]))
  refine goRet X2 hx Bd.notSynchronized Bd.returns rfl (Or.inl ⟨rfl, Or.inl rfl, _, rfl⟩) (hb hby d5_4) (by decide) (by decide) (by rw [e2]; refine ⟨rfl, N0, rfl⟩)
theorem d1_0 : decode prog_9_method_6_code 0 = .ok (.aload_n 0, 1) := by decide +kernel
theorem d1_1 : decode prog_9_method_6_code 1 = .ok (.getstatic 3, 3) := by decide +kernel
theorem d1_4 : decode prog_9_method_6_code 4 = .ok (.if_acmp .ne 7, 3) := by decide +kernel
theorem d1_7 : decode prog_9_method_6_code 7 = .ok (.iconst 1, 1) := by decide +kernel
theorem d1_8 : decode prog_9_method_6_code 8 = .ok (.goto 4, 3) := by decide +kernel
theorem d1_12 : decode prog_9_method_6_code 12 = .ok (.ireturn, 1) := by decide +kernel
theorem pn_KY : plainName "com/example/lim1/lim1/DelayModel" = true := by first | (simp [plainName, overriddenIn]; done) | decide +kernel
theorem ef_KY (m : MethodId) (f0 : Addr) : entryFrame m #[(.ref f0)] 1 = mkF m 0 #[.val (.ref f0)] [] := by first | (simp [entryFrame, mkF, argsToLocals, Value.category]; done) | rfl
def QKY (Z : State) (f0 : Addr) (h0 : Heap) (n0 : Nat) (v : Option Value) (h : Heap) (L : List Loc) : Prop := v = some (.int (1 : Int32)) ∧ Fr n0 L ∧ (h = h0)
set_option maxRecDepth 65536 in
set_option maxHeartbeats 40000000 in
theorem rmKY (l : Launch) (Z : State) (a0 : Array Value) (hw : ∀ d ∈ tables_1, d.before a0 Z = true) (ws : List Jvm.Cond) (f0 : Addr) (h0 : Heap) (n0 : Nat) (Z0 : n0 ≤ h0.size) (P0 : Sta Z Z.heap "com/example/lim1/lim1/DelayModel" "FIXED" "Lcom/example/lim1/lim1/DelayModel;" (.ref f0)) (P1 : Old Z n0 h0) :
    MetFree l (⟨"com/example/lim1/lim1/DelayModel", "keepsOrderAcrossSenders", "()Z"⟩ : MethodName) (head1 (Jvm.Cond.code (⟨"com/example/lim1/lim1/DelayModel", "keepsOrderAcrossSenders", "()Z"⟩ : MethodName) prog_9_method_6_code 1 (some .boolean) :: ws) ({ frames := 0, cells := 0, slots := 0, locals := 0 } : Room)) (fun a U => a = #[(.ref f0)] ∧ Z.Warmed39 U.vm ∧ U.heap = h0) (fun _ _ _ _ _ => True) (fun _ U o U' => ∃ v L, o = .returned v ∧ QKY Z f0 h0 n0 v U'.heap L ∧ FrameEnd U o U' L ({ frames := 0, cells := 0, slots := 0, locals := 0 } : Room).cells ({ frames := 0, cells := 0, slots := 0, locals := 0 } : Room).slots) := by
  refine MetFree.of_bodySF (plainFor_of_name pn_KY) hisR ?_
  intro p e s m args below meth c s₁ Bd hml0 hP hK
  obtain ⟨rfl, hZ, hh⟩ := hP
  have hx := Bd.exec
  have hby := Bd.bytes
  have hml : c.maxLocals = 1 := hml0
  have hown : s.vm.findClass "com/example/lim1/lim1/DelayModel" = some m.cls := findClass_of_methodNamed Bd.named
  have hnm := (name_of_methodNamed Bd.named Bd.method).1
  have X0 : Stand p l e ({ frames := 0, cells := 0, slots := 0, locals := 0 } : Room) s m #[(.ref f0)] below meth c s₁ [] 0 0 := Stand.of_body Bd
  have e0 : s₁.heap = h0 := by rw [← hh, Bd.state]; rfl
  have N0 := Fr.nil n0
  have hS0 : s.Since s.vm 0 := (State.WarmedH.refl s).since 0
  show Go (FrameEnd) p e below s ({ frames := 0, cells := 0, slots := 0, locals := 0 } : Room).cells ({ frames := 0, cells := 0, slots := 0, locals := 0 } : Room).slots (QKY Z f0 h0 n0) (s₁.setTop (entryFrame m #[(.ref f0)] 1))
  refine go (fun _ k => castTop (ef_KY m f0) k) ?_
  show Go _ p e below s _ _ _ (s₁.setTop (mkF m 0 #[.val (.ref f0)] []))
  refine go (fun _ => XS.aloadN X0.here hx rfl (hb hby d1_0) rfl rfl) ?_
  show Go _ p e below s _ _ _ (s₁.setTop (mkF m 1 #[.val (.ref f0)] [(.ref f0)]))
  obtain ⟨T4, X4, e4, st4⟩ := getS2 X0 hx hZ hown (host := "") (Or.inl (hw _ (List.mem_of_getElem? (i := 8) rfl))) Via.refl e0 (P0.ext P1.2) (g := (mkF m 1 #[.val (.ref f0)] [(.ref f0)])) rfl (hb hby d1_1)
  refine go st4 ?_
  show Go _ p e below s _ _ _ (T4.setTop (mkF m 4 #[.val (.ref f0)] [(.ref f0), (.ref f0)]))
  refine go (fun _ => Jvm.RoadKit.acmp (g := (mkF m 4 #[.val (.ref f0)] [(.ref f0), (.ref f0)])) X4 hx rfl rfl rfl (pc0 := 4) (pc' := 7) (same := true) rfl (hb hby d1_4) rfl (decide_eq_true rfl) (by decide) (by decide)) ?_
  show Go _ p e below s _ _ _ (T4.setTop (mkF m 7 #[.val (.ref f0)] []))
  refine go (fun _ => XS.iconst X4.here hx rfl (hb hby d1_7)) ?_
  show Go _ p e below s _ _ _ (T4.setTop (mkF m 8 #[.val (.ref f0)] [(.int (1 : Int32))]))
  refine go (fun _ => XS.goto X4.here hx rfl (pc0 := 8) (pc' := 12) rfl (hb hby d1_8) (by decide) (by decide)) ?_
  show Go _ p e below s _ _ _ (T4.setTop (mkF m 12 #[.val (.ref f0)] [(.int (1 : Int32))]))
  refine goRet X4 hx Bd.notSynchronized Bd.returns rfl (Or.inl ⟨rfl, Or.inr (Or.inl rfl), _, rfl⟩) (hb hby d1_12) (by decide) (by decide) (by rw [e4]; refine ⟨rfl, N0, rfl⟩)
theorem d1_11 : decode prog_9_method_6_code 11 = .ok (.iconst 0, 1) := by decide +kernel
theorem pn_KN : plainName "com/example/lim1/lim1/DelayModel" = true := by first | (simp [plainName, overriddenIn]; done) | decide +kernel
theorem ef_KN (m : MethodId) (a1 : Addr) : entryFrame m #[(.ref a1)] 1 = mkF m 0 #[.val (.ref a1)] [] := by first | (simp [entryFrame, mkF, argsToLocals, Value.category]; done) | rfl
def QKN (Z : State) (a1 : Addr) (f0 : Addr) (h0 : Heap) (n0 : Nat) (v : Option Value) (h : Heap) (L : List Loc) : Prop := v = some (.int (0 : Int32)) ∧ Fr n0 L ∧ (h = h0)
set_option maxRecDepth 65536 in
set_option maxHeartbeats 40000000 in
theorem rmKN (l : Launch) (Z : State) (a0 : Array Value) (hw : ∀ d ∈ tables_1, d.before a0 Z = true) (ws : List Jvm.Cond) (a1 : Addr) (f0 : Addr) (h0 : Heap) (n0 : Nat) (Z0 : n0 ≤ h0.size) (P0 : Sta Z Z.heap "com/example/lim1/lim1/DelayModel" "FIXED" "Lcom/example/lim1/lim1/DelayModel;" (.ref f0)) (P1 : Old Z n0 h0) (P2 : a1 ≠ f0) :
    MetFree l (⟨"com/example/lim1/lim1/DelayModel", "keepsOrderAcrossSenders", "()Z"⟩ : MethodName) (head1 (Jvm.Cond.code (⟨"com/example/lim1/lim1/DelayModel", "keepsOrderAcrossSenders", "()Z"⟩ : MethodName) prog_9_method_6_code 1 (some .boolean) :: ws) ({ frames := 0, cells := 0, slots := 0, locals := 0 } : Room)) (fun a U => a = #[(.ref a1)] ∧ Z.Warmed39 U.vm ∧ U.heap = h0) (fun _ _ _ _ _ => True) (fun _ U o U' => ∃ v L, o = .returned v ∧ QKN Z a1 f0 h0 n0 v U'.heap L ∧ FrameEnd U o U' L ({ frames := 0, cells := 0, slots := 0, locals := 0 } : Room).cells ({ frames := 0, cells := 0, slots := 0, locals := 0 } : Room).slots) := by
  refine MetFree.of_bodySF (plainFor_of_name pn_KN) hisR ?_
  intro p e s m args below meth c s₁ Bd hml0 hP hK
  obtain ⟨rfl, hZ, hh⟩ := hP
  have hx := Bd.exec
  have hby := Bd.bytes
  have hml : c.maxLocals = 1 := hml0
  have hown : s.vm.findClass "com/example/lim1/lim1/DelayModel" = some m.cls := findClass_of_methodNamed Bd.named
  have hnm := (name_of_methodNamed Bd.named Bd.method).1
  have X0 : Stand p l e ({ frames := 0, cells := 0, slots := 0, locals := 0 } : Room) s m #[(.ref a1)] below meth c s₁ [] 0 0 := Stand.of_body Bd
  have e0 : s₁.heap = h0 := by rw [← hh, Bd.state]; rfl
  have N0 := Fr.nil n0
  have hS0 : s.Since s.vm 0 := (State.WarmedH.refl s).since 0
  show Go (FrameEnd) p e below s ({ frames := 0, cells := 0, slots := 0, locals := 0 } : Room).cells ({ frames := 0, cells := 0, slots := 0, locals := 0 } : Room).slots (QKN Z a1 f0 h0 n0) (s₁.setTop (entryFrame m #[(.ref a1)] 1))
  refine go (fun _ k => castTop (ef_KN m a1) k) ?_
  show Go _ p e below s _ _ _ (s₁.setTop (mkF m 0 #[.val (.ref a1)] []))
  refine go (fun _ => XS.aloadN X0.here hx rfl (hb hby d1_0) rfl rfl) ?_
  show Go _ p e below s _ _ _ (s₁.setTop (mkF m 1 #[.val (.ref a1)] [(.ref a1)]))
  obtain ⟨T6, X6, e6, st6⟩ := getS2 X0 hx hZ hown (host := "") (Or.inl (hw _ (List.mem_of_getElem? (i := 8) rfl))) Via.refl e0 (P0.ext P1.2) (g := (mkF m 1 #[.val (.ref a1)] [(.ref a1)])) rfl (hb hby d1_1)
  refine go st6 ?_
  show Go _ p e below s _ _ _ (T6.setTop (mkF m 4 #[.val (.ref a1)] [(.ref f0), (.ref a1)]))
  refine go (fun _ => Jvm.RoadKit.acmp (g := (mkF m 4 #[.val (.ref a1)] [(.ref f0), (.ref a1)])) X6 hx rfl rfl rfl (pc0 := 4) (pc' := 11) (same := false) rfl (hb hby d1_4) rfl (decide_eq_false fun qq => P2 (Value.ref.inj qq)) (by decide) (by decide)) ?_
  show Go _ p e below s _ _ _ (T6.setTop (mkF m 11 #[.val (.ref a1)] []))
  refine go (fun _ => XS.iconst X6.here hx rfl (hb hby d1_11)) ?_
  show Go _ p e below s _ _ _ (T6.setTop (mkF m 12 #[.val (.ref a1)] [(.int (0 : Int32))]))
  refine goRet X6 hx Bd.notSynchronized Bd.returns rfl (Or.inl ⟨rfl, Or.inr (Or.inl rfl), _, rfl⟩) (hb hby d1_12) (by decide) (by decide) (by rw [e6]; refine ⟨rfl, N0, rfl⟩)
theorem d2_0 : decode jdk_29_method_70_code 0 = .ok (.lload_n 0, 1) := by decide +kernel
theorem d2_1 : decode jdk_29_method_70_code 1 = .ok (.lload_n 2, 1) := by decide +kernel
theorem d2_2 : decode jdk_29_method_70_code 2 = .ok (.lcmp, 1) := by decide +kernel
theorem d2_3 : decode jdk_29_method_70_code 3 = .ok (.ifCond .gt 7, 3) := by decide +kernel
theorem d2_6 : decode jdk_29_method_70_code 6 = .ok (.lload_n 0, 1) := by decide +kernel
theorem d2_7 : decode jdk_29_method_70_code 7 = .ok (.goto 4, 3) := by decide +kernel
theorem d2_10 : decode jdk_29_method_70_code 10 = .ok (.lload_n 2, 1) := by decide +kernel
theorem d2_11 : decode jdk_29_method_70_code 11 = .ok (.lreturn, 1) := by decide +kernel
theorem ef_2 (m : MethodId) (q1 : Int64) (q2 : Int64) : entryFrame m #[(.long q1), (.long q2)] 4 = mkF m 0 #[.val (.long q1), .second, .val (.long q2), .second] [] := by first | (simp [entryFrame, mkF, argsToLocals, Value.category]; done) | rfl
def Q2 (Z : State) (q1 : Int64) (q2 : Int64) (h0 : Heap) (n0 : Nat) (v : Option Value) (h : Heap) (L : List Loc) : Prop := v = some (.long (own_minL q1 q2)) ∧ Fr n0 L ∧ (h = h0)
set_option maxRecDepth 65536 in
set_option maxHeartbeats 40000000 in
theorem rm2 (l : Launch) (Z : State) (a0 : Array Value) (hw : ∀ d ∈ tables_1, d.before a0 Z = true) (ws : List Jvm.Cond) (q1 : Int64) (q2 : Int64) (h0 : Heap) (n0 : Nat) (Z0 : n0 ≤ h0.size)  :
    MetFree l (⟨"java/lang/Math", "min", "(JJ)J"⟩ : MethodName) (head1 (Jvm.Cond.code (⟨"java/lang/Math", "min", "(JJ)J"⟩ : MethodName) jdk_29_method_70_code 4 (some .long) :: ws) ({ frames := 0, cells := 0, slots := 0, locals := 0 } : Room)) (fun a U => a = #[(.long q1), (.long q2)] ∧ Z.Warmed39 U.vm ∧ U.heap = h0) (fun _ _ _ _ _ => True) (fun _ U o U' => ∃ v L, o = .returned v ∧ Q2 Z q1 q2 h0 n0 v U'.heap L ∧ FrameEnd U o U' L ({ frames := 0, cells := 0, slots := 0, locals := 0 } : Room).cells ({ frames := 0, cells := 0, slots := 0, locals := 0 } : Room).slots) := by
  refine MetFree.of_bodySF (Jvm.Free.JP.mathPlain rfl (by decide +kernel)) hisR ?_
  intro p e s m args below meth c s₁ Bd hml0 hP hK
  obtain ⟨rfl, hZ, hh⟩ := hP
  have hx := Bd.exec
  have hby := Bd.bytes
  have hml : c.maxLocals = 4 := hml0
  have hown : s.vm.findClass "java/lang/Math" = some m.cls := findClass_of_methodNamed Bd.named
  have hnm := (name_of_methodNamed Bd.named Bd.method).1
  have X0 : Stand p l e ({ frames := 0, cells := 0, slots := 0, locals := 0 } : Room) s m #[(.long q1), (.long q2)] below meth c s₁ [] 0 0 := Stand.of_body Bd
  have e0 : s₁.heap = h0 := by rw [← hh, Bd.state]; rfl
  have N0 := Fr.nil n0
  have hS0 : s.Since s.vm 0 := (State.WarmedH.refl s).since 0
  show Go (FrameEnd) p e below s ({ frames := 0, cells := 0, slots := 0, locals := 0 } : Room).cells ({ frames := 0, cells := 0, slots := 0, locals := 0 } : Room).slots (Q2 Z q1 q2 h0 n0) (s₁.setTop (entryFrame m #[(.long q1), (.long q2)] 4))
  refine go (fun _ k => castTop (ef_2 m q1 q2) k) ?_
  show Go _ p e below s _ _ _ (s₁.setTop (mkF m 0 #[.val (.long q1), .second, .val (.long q2), .second] []))
  refine go (fun _ => XS.lloadN X0.here hx rfl (hb hby d2_0) rfl) ?_
  show Go _ p e below s _ _ _ (s₁.setTop (mkF m 1 #[.val (.long q1), .second, .val (.long q2), .second] [(.long q1)]))
  refine go (fun _ => XS.lloadN X0.here hx rfl (hb hby d2_1) rfl) ?_
  show Go _ p e below s _ _ _ (s₁.setTop (mkF m 2 #[.val (.long q1), .second, .val (.long q2), .second] [(.long q2), (.long q1)]))
  refine go (fun _ => XS.lcmp X0.here hx rfl (hb hby d2_2) rfl) ?_
  show Go _ p e below s _ _ _ (s₁.setTop (mkF m 3 #[.val (.long q1), .second, .val (.long q2), .second] [(.int (lcmpW q1 q2))]))
  by_cases hc3_8 : q2 < q1
  · refine go (fun _ => XS.ifYes X0.here hx rfl (pc0 := 3) (pc' := 10) rfl (hb hby d2_3) rfl ((if0 _ _).trans (tlt ((lw_gt q1 q2).mpr hc3_8)).2.2.1) (by decide) (by decide)) ?_
    show Go _ p e below s _ _ _ (s₁.setTop (mkF m 10 #[.val (.long q1), .second, .val (.long q2), .second] []))
    refine go (fun _ => XS.lloadN X0.here hx rfl (hb hby d2_10) rfl) ?_
    show Go _ p e below s _ _ _ (s₁.setTop (mkF m 11 #[.val (.long q1), .second, .val (.long q2), .second] [(.long q2)]))
    refine goRet X0 hx Bd.notSynchronized Bd.returns rfl (Or.inr (Or.inl ⟨rfl, rfl, _, rfl⟩)) (hb hby d2_11) (by decide) (by decide) (by rw [e0]; refine ⟨(by unfold own_minL; rw [if_pos hc3_8]), N0, rfl⟩)
  · refine go (fun _ => XS.ifNo X0.here hx rfl (hb hby d2_3) rfl ((if0 _ _).trans (flt (fun qq => hc3_8 ((lw_gt q1 q2).mp qq))).2.2.1)) ?_
    show Go _ p e below s _ _ _ (s₁.setTop (mkF m 6 #[.val (.long q1), .second, .val (.long q2), .second] []))
    refine go (fun _ => XS.lloadN X0.here hx rfl (hb hby d2_6) rfl) ?_
    show Go _ p e below s _ _ _ (s₁.setTop (mkF m 7 #[.val (.long q1), .second, .val (.long q2), .second] [(.long q1)]))
    refine go (fun _ => XS.goto X0.here hx rfl (pc0 := 7) (pc' := 11) rfl (hb hby d2_7) (by decide) (by decide)) ?_
    show Go _ p e below s _ _ _ (s₁.setTop (mkF m 11 #[.val (.long q1), .second, .val (.long q2), .second] [(.long q1)]))
    refine goRet X0 hx Bd.notSynchronized Bd.returns rfl (Or.inr (Or.inl ⟨rfl, rfl, _, rfl⟩)) (hb hby d2_11) (by decide) (by decide) (by rw [e0]; refine ⟨(by unfold own_minL; rw [if_neg hc3_8]), N0, rfl⟩)
theorem d3_0 : decode jdk_29_method_66_code 0 = .ok (.lload_n 0, 1) := by decide +kernel
theorem d3_1 : decode jdk_29_method_66_code 1 = .ok (.lload_n 2, 1) := by decide +kernel
theorem d3_2 : decode jdk_29_method_66_code 2 = .ok (.lcmp, 1) := by decide +kernel
theorem d3_3 : decode jdk_29_method_66_code 3 = .ok (.ifCond .lt 7, 3) := by decide +kernel
theorem d3_6 : decode jdk_29_method_66_code 6 = .ok (.lload_n 0, 1) := by decide +kernel
theorem d3_7 : decode jdk_29_method_66_code 7 = .ok (.goto 4, 3) := by decide +kernel
theorem d3_10 : decode jdk_29_method_66_code 10 = .ok (.lload_n 2, 1) := by decide +kernel
theorem d3_11 : decode jdk_29_method_66_code 11 = .ok (.lreturn, 1) := by decide +kernel
theorem ef_3 (m : MethodId) (q1 : Int64) (q2 : Int64) : entryFrame m #[(.long q1), (.long q2)] 4 = mkF m 0 #[.val (.long q1), .second, .val (.long q2), .second] [] := by first | (simp [entryFrame, mkF, argsToLocals, Value.category]; done) | rfl
def Q3 (Z : State) (q1 : Int64) (q2 : Int64) (h0 : Heap) (n0 : Nat) (v : Option Value) (h : Heap) (L : List Loc) : Prop := v = some (.long (own_maxL q1 q2)) ∧ Fr n0 L ∧ (h = h0)
set_option maxRecDepth 65536 in
set_option maxHeartbeats 40000000 in
theorem rm3 (l : Launch) (Z : State) (a0 : Array Value) (hw : ∀ d ∈ tables_1, d.before a0 Z = true) (ws : List Jvm.Cond) (q1 : Int64) (q2 : Int64) (h0 : Heap) (n0 : Nat) (Z0 : n0 ≤ h0.size)  :
    MetFree l (⟨"java/lang/Math", "max", "(JJ)J"⟩ : MethodName) (head1 (Jvm.Cond.code (⟨"java/lang/Math", "max", "(JJ)J"⟩ : MethodName) jdk_29_method_66_code 4 (some .long) :: ws) ({ frames := 0, cells := 0, slots := 0, locals := 0 } : Room)) (fun a U => a = #[(.long q1), (.long q2)] ∧ Z.Warmed39 U.vm ∧ U.heap = h0) (fun _ _ _ _ _ => True) (fun _ U o U' => ∃ v L, o = .returned v ∧ Q3 Z q1 q2 h0 n0 v U'.heap L ∧ FrameEnd U o U' L ({ frames := 0, cells := 0, slots := 0, locals := 0 } : Room).cells ({ frames := 0, cells := 0, slots := 0, locals := 0 } : Room).slots) := by
  refine MetFree.of_bodySF (Jvm.Free.JP.mathPlain rfl (by decide +kernel)) hisR ?_
  intro p e s m args below meth c s₁ Bd hml0 hP hK
  obtain ⟨rfl, hZ, hh⟩ := hP
  have hx := Bd.exec
  have hby := Bd.bytes
  have hml : c.maxLocals = 4 := hml0
  have hown : s.vm.findClass "java/lang/Math" = some m.cls := findClass_of_methodNamed Bd.named
  have hnm := (name_of_methodNamed Bd.named Bd.method).1
  have X0 : Stand p l e ({ frames := 0, cells := 0, slots := 0, locals := 0 } : Room) s m #[(.long q1), (.long q2)] below meth c s₁ [] 0 0 := Stand.of_body Bd
  have e0 : s₁.heap = h0 := by rw [← hh, Bd.state]; rfl
  have N0 := Fr.nil n0
  have hS0 : s.Since s.vm 0 := (State.WarmedH.refl s).since 0
  show Go (FrameEnd) p e below s ({ frames := 0, cells := 0, slots := 0, locals := 0 } : Room).cells ({ frames := 0, cells := 0, slots := 0, locals := 0 } : Room).slots (Q3 Z q1 q2 h0 n0) (s₁.setTop (entryFrame m #[(.long q1), (.long q2)] 4))
  refine go (fun _ k => castTop (ef_3 m q1 q2) k) ?_
  show Go _ p e below s _ _ _ (s₁.setTop (mkF m 0 #[.val (.long q1), .second, .val (.long q2), .second] []))
  refine go (fun _ => XS.lloadN X0.here hx rfl (hb hby d3_0) rfl) ?_
  show Go _ p e below s _ _ _ (s₁.setTop (mkF m 1 #[.val (.long q1), .second, .val (.long q2), .second] [(.long q1)]))
  refine go (fun _ => XS.lloadN X0.here hx rfl (hb hby d3_1) rfl) ?_
  show Go _ p e below s _ _ _ (s₁.setTop (mkF m 2 #[.val (.long q1), .second, .val (.long q2), .second] [(.long q2), (.long q1)]))
  refine go (fun _ => XS.lcmp X0.here hx rfl (hb hby d3_2) rfl) ?_
  show Go _ p e below s _ _ _ (s₁.setTop (mkF m 3 #[.val (.long q1), .second, .val (.long q2), .second] [(.int (lcmpW q1 q2))]))
  by_cases hc3_10 : q1 < q2
  · refine go (fun _ => XS.ifYes X0.here hx rfl (pc0 := 3) (pc' := 10) rfl (hb hby d3_3) rfl ((if0 _ _).trans (tlt ((lw_lt q1 q2).mpr hc3_10)).1) (by decide) (by decide)) ?_
    show Go _ p e below s _ _ _ (s₁.setTop (mkF m 10 #[.val (.long q1), .second, .val (.long q2), .second] []))
    refine go (fun _ => XS.lloadN X0.here hx rfl (hb hby d3_10) rfl) ?_
    show Go _ p e below s _ _ _ (s₁.setTop (mkF m 11 #[.val (.long q1), .second, .val (.long q2), .second] [(.long q2)]))
    refine goRet X0 hx Bd.notSynchronized Bd.returns rfl (Or.inr (Or.inl ⟨rfl, rfl, _, rfl⟩)) (hb hby d3_11) (by decide) (by decide) (by rw [e0]; refine ⟨(by unfold own_maxL; rw [if_pos hc3_10]), N0, rfl⟩)
  · refine go (fun _ => XS.ifNo X0.here hx rfl (hb hby d3_3) rfl ((if0 _ _).trans (flt (fun qq => hc3_10 ((lw_lt q1 q2).mp qq))).1)) ?_
    show Go _ p e below s _ _ _ (s₁.setTop (mkF m 6 #[.val (.long q1), .second, .val (.long q2), .second] []))
    refine go (fun _ => XS.lloadN X0.here hx rfl (hb hby d3_6) rfl) ?_
    show Go _ p e below s _ _ _ (s₁.setTop (mkF m 7 #[.val (.long q1), .second, .val (.long q2), .second] [(.long q1)]))
    refine go (fun _ => XS.goto X0.here hx rfl (pc0 := 7) (pc' := 11) rfl (hb hby d3_7) (by decide) (by decide)) ?_
    show Go _ p e below s _ _ _ (s₁.setTop (mkF m 11 #[.val (.long q1), .second, .val (.long q2), .second] [(.long q1)]))
    refine goRet X0 hx Bd.notSynchronized Bd.returns rfl (Or.inr (Or.inl ⟨rfl, rfl, _, rfl⟩)) (hb hby d3_11) (by decide) (by decide) (by rw [e0]; refine ⟨(by unfold own_maxL; rw [if_neg hc3_10]), N0, rfl⟩)
theorem d6_0 : decode prog_9_method_8_code 0 = .ok (.lload_n 0, 1) := by decide +kernel
theorem d6_1 : decode prog_9_method_8_code 1 = .ok (.lreturn, 1) := by decide +kernel
theorem pn_6 : plainName "com/example/lim1/lim1/DelayModel" = true := by first | (simp [plainName, overriddenIn]; done) | decide +kernel
theorem ef_6 (m : MethodId) (q1 : Int64) (p2 : Int32) (p3 : Int32) (q4 : Int64) : entryFrame m #[(.long q1), (.int p2), (.int p3), (.long q4)] 6 = mkF m 0 #[.val (.long q1), .second, .val (.int p2), .val (.int p3), .val (.long q4), .second] [] := by first | (simp [entryFrame, mkF, argsToLocals, Value.category]; done) | rfl
def Q6 (Z : State) (q1 : Int64) (p2 : Int32) (p3 : Int32) (q4 : Int64) (h0 : Heap) (n0 : Nat) (v : Option Value) (h : Heap) (L : List Loc) : Prop := v = some (.long q1) ∧ Fr n0 L ∧ (h = h0)
set_option maxRecDepth 65536 in
set_option maxHeartbeats 40000000 in
theorem rm6 (l : Launch) (Z : State) (a0 : Array Value) (hw : ∀ d ∈ tables_1, d.before a0 Z = true) (ws : List Jvm.Cond) (q1 : Int64) (p2 : Int32) (p3 : Int32) (q4 : Int64) (h0 : Heap) (n0 : Nat) (Z0 : n0 ≤ h0.size)  :
    MetFree l (⟨"com/example/lim1/lim1/DelayModel", "lambda$delays$0", "(JIIJ)J"⟩ : MethodName) (head1 (Jvm.Cond.code (⟨"com/example/lim1/lim1/DelayModel", "lambda$delays$0", "(JIIJ)J"⟩ : MethodName) prog_9_method_8_code 6 (some .long) :: ws) ({ frames := 0, cells := 0, slots := 0, locals := 0 } : Room)) (fun a U => a = #[(.long q1), (.int p2), (.int p3), (.long q4)] ∧ Z.Warmed39 U.vm ∧ U.heap = h0) (fun _ _ _ _ _ => True) (fun _ U o U' => ∃ v L, o = .returned v ∧ Q6 Z q1 p2 p3 q4 h0 n0 v U'.heap L ∧ FrameEnd U o U' L ({ frames := 0, cells := 0, slots := 0, locals := 0 } : Room).cells ({ frames := 0, cells := 0, slots := 0, locals := 0 } : Room).slots) := by
  refine MetFree.of_bodySF (plainFor_of_name pn_6) hisR ?_
  intro p e s m args below meth c s₁ Bd hml0 hP hK
  obtain ⟨rfl, hZ, hh⟩ := hP
  have hx := Bd.exec
  have hby := Bd.bytes
  have hml : c.maxLocals = 6 := hml0
  have hown : s.vm.findClass "com/example/lim1/lim1/DelayModel" = some m.cls := findClass_of_methodNamed Bd.named
  have hnm := (name_of_methodNamed Bd.named Bd.method).1
  have X0 : Stand p l e ({ frames := 0, cells := 0, slots := 0, locals := 0 } : Room) s m #[(.long q1), (.int p2), (.int p3), (.long q4)] below meth c s₁ [] 0 0 := Stand.of_body Bd
  have e0 : s₁.heap = h0 := by rw [← hh, Bd.state]; rfl
  have N0 := Fr.nil n0
  have hS0 : s.Since s.vm 0 := (State.WarmedH.refl s).since 0
  show Go (FrameEnd) p e below s ({ frames := 0, cells := 0, slots := 0, locals := 0 } : Room).cells ({ frames := 0, cells := 0, slots := 0, locals := 0 } : Room).slots (Q6 Z q1 p2 p3 q4 h0 n0) (s₁.setTop (entryFrame m #[(.long q1), (.int p2), (.int p3), (.long q4)] 6))
  refine go (fun _ k => castTop (ef_6 m q1 p2 p3 q4) k) ?_
  show Go _ p e below s _ _ _ (s₁.setTop (mkF m 0 #[.val (.long q1), .second, .val (.int p2), .val (.int p3), .val (.long q4), .second] []))
  refine go (fun _ => XS.lloadN X0.here hx rfl (hb hby d6_0) rfl) ?_
  show Go _ p e below s _ _ _ (s₁.setTop (mkF m 1 #[.val (.long q1), .second, .val (.int p2), .val (.int p3), .val (.long q4), .second] [(.long q1)]))
  refine goRet X0 hx Bd.notSynchronized Bd.returns rfl (Or.inr (Or.inl ⟨rfl, rfl, _, rfl⟩)) (hb hby d6_1) (by decide) (by decide) (by rw [e0]; refine ⟨rfl, N0, rfl⟩)
theorem own_met (l : Launch) (Z : State) (a0 : Array Value) (hw : ∀ d ∈ tables_1, d.before a0 Z = true) (q1 : Int64) (p2 p3 : Int32) (q4 : Int64) (h0 : Heap) (n0 : Nat) (Z0 : n0 ≤ h0.size) :
    Jvm.LawKit.Met l (⟨"com/example/lim1/lim1/DelayModel", "lambda$delays$0", "(JIIJ)J"⟩ : MethodName) [Jvm.Cond.code (⟨"com/example/lim1/lim1/DelayModel", "lambda$delays$0", "(JIIJ)J"⟩ : MethodName) prog_9_method_8_code 6 (some .long)] ({ frames := 0, cells := 0, slots := 0, locals := 0 } : Room) (fun a U => a = #[.long q1, .int p2, .int p3, .long q4] ∧ Z.Warmed39 U.vm ∧ U.heap = h0) (fun _ _ o U' => o = .returned (some (.long q1)) ∧ U'.heap = h0) 0 0 (fun b => n0 ≤ b) := by
  intro p e ha hc hk s m args below hf hap hP hK
  obtain ⟨n, o, r1, r2, r3, v, L, rfl, ⟨rfl, r4, r5⟩, r6⟩ := rm6 l Z a0 hw [] q1 p2 p3 q4 h0 n0 Z0 p e ha hc hk s m args below hf hap hP hK
  exact ⟨n, _, r1, r2, r3, ⟨rfl, r5⟩, L, r6, r4⟩
theorem d4_0 : decode prog_9_method_7_code 0 = .ok (.aload_n 0, 1) := by decide +kernel
theorem d4_1 : decode prog_9_method_7_code 1 = .ok (.invokevirtual 41, 3) := by decide +kernel
theorem d4_4 : decode prog_9_method_7_code 4 = .ok (.lookupswitch 50 #[(0, 28), (1, 35)], 28) := by decide +kernel
theorem d4_32 : decode prog_9_method_7_code 32 = .ok (.lload_n 1, 1) := by decide +kernel
theorem d4_33 : decode prog_9_method_7_code 33 = .ok (.invokedynamic 45, 5) := by decide +kernel
theorem d4_38 : decode prog_9_method_7_code 38 = .ok (.areturn, 1) := by decide +kernel
theorem pn_4 : plainName "com/example/lim1/lim1/DelayModel" = true := by first | (simp [plainName, overriddenIn]; done) | decide +kernel
theorem pd_4_0 : parseMethodDescriptor "()I" = some ⟨[], some .int⟩ := by decide +kernel
theorem ef_4 (m : MethodId) (f0 : Addr) (q2 : Int64) (q3 : Int64) (p4 : Int32) : entryFrame m #[(.ref f0), (.long q2), (.long q3), (.int p4)] 6 = mkF m 0 #[.val (.ref f0), .val (.long q2), .second, .val (.long q3), .second, .val (.int p4)] [] := by first | (simp [entryFrame, mkF, argsToLocals, Value.category]; done) | rfl
def Q4 (Z : State) (f0 : Addr) (q2 : Int64) (q3 : Int64) (p4 : Int32) (h0 : Heap) (n0 : Nat) (v : Option Value) (h : Heap) (L : List Loc) : Prop := ∃ (b : Addr), v = some (.ref b) ∧ Fr n0 L ∧ (h0.size ≤ b) ∧ (n0 ≤ b) ∧ (Keep h0 h []) ∧ (∃ cK : ClassId, Jvm.LamKit.Made Z "com/example/lim1/lim1/DelayModel" own_sh cK ∧ h[b]? = some { cls := cK, slots := #[.long q2], vm := .none })
set_option maxRecDepth 65536 in
set_option maxHeartbeats 40000000 in
theorem rm4 (l : Launch) (Z : State) (a0 : Array Value) (hw : ∀ d ∈ tables_1, d.before a0 Z = true) (ws : List Jvm.Cond) (f0 : Addr) (q2 : Int64) (q3 : Int64) (p4 : Int32) (h0 : Heap) (n0 : Nat) (Z0 : n0 ≤ h0.size) (P0 : Exa Z Z.heap f0 "com/example/lim1/lim1/DelayModel") (P1 : Fld Z Z.heap f0 "java/lang/Enum" "ordinal" "I" (.int (0 : Int32))) (P2 : Old Z n0 h0) :
    MetFree l (⟨"com/example/lim1/lim1/DelayModel", "delays", "(JJI)Lcom/example/lim1/lim1/DelayModel$Delays;"⟩ : MethodName) (head1 (Jvm.Cond.code (⟨"com/example/lim1/lim1/DelayModel", "delays", "(JJI)Lcom/example/lim1/lim1/DelayModel$Delays;"⟩ : MethodName) prog_9_method_7_code 6 (some (.object "com/example/lim1/lim1/DelayModel$Delays")) :: ws) ({ frames := 1, cells := 1, slots := 1, locals := 3074 } : Room)) (fun a U => a = #[(.ref f0), (.long q2), (.long q3), (.int p4)] ∧ Z.Warmed39 U.vm ∧ U.heap = h0 ∧ Z.WarmedH U.vm) (fun _ _ _ _ _ => True) (fun _ U o U' => ∃ v L, o = .returned v ∧ Q4 Z f0 q2 q3 p4 h0 n0 v U'.heap L ∧ FrameEnd U o U' L ({ frames := 1, cells := 1, slots := 1, locals := 3074 } : Room).cells ({ frames := 1, cells := 1, slots := 1, locals := 3074 } : Room).slots) := by
  refine MetFree.of_bodySF (plainFor_of_name pn_4) hisR ?_
  intro p e s m args below meth c s₁ Bd hml0 hP hK
  obtain ⟨rfl, hZ, hh, hWH⟩ := hP
  have hx := Bd.exec
  have hby := Bd.bytes
  have hml : c.maxLocals = 6 := hml0
  have hown : s.vm.findClass "com/example/lim1/lim1/DelayModel" = some m.cls := findClass_of_methodNamed Bd.named
  have hnm := (name_of_methodNamed Bd.named Bd.method).1
  have X0 : Stand p l e ({ frames := 1, cells := 1, slots := 1, locals := 3074 } : Room) s m #[(.ref f0), (.long q2), (.long q3), (.int p4)] below meth c s₁ [] 0 0 := Stand.of_body Bd
  have e0 : s₁.heap = h0 := by rw [← hh, Bd.state]; rfl
  have N0 := Fr.nil n0
  have hS0 : s.Since s.vm 0 := (State.WarmedH.refl s).since 0
  show Go (FrameEnd) p e below s ({ frames := 1, cells := 1, slots := 1, locals := 3074 } : Room).cells ({ frames := 1, cells := 1, slots := 1, locals := 3074 } : Room).slots (Q4 Z f0 q2 q3 p4 h0 n0) (s₁.setTop (entryFrame m #[(.ref f0), (.long q2), (.long q3), (.int p4)] 6))
  refine go (fun _ k => castTop (ef_4 m f0 q2 q3 p4) k) ?_
  show Go _ p e below s _ _ _ (s₁.setTop (mkF m 0 #[.val (.ref f0), .val (.long q2), .second, .val (.long q3), .second, .val (.int p4)] []))
  refine go (fun _ => XS.aloadN X0.here hx rfl (hb hby d4_0) rfl rfl) ?_
  show Go _ p e below s _ _ _ (s₁.setTop (mkF m 1 #[.val (.ref f0), .val (.long q2), .second, .val (.long q3), .second, .val (.int p4)] [(.ref f0)]))
  obtain ⟨cq13, kq13, q13a, q13b, q13c⟩ := isOf hZ e0 (P0.ext P2.2)
  obtain ⟨_, _, ⟨T13, L13, k13, n13⟩, -, X13, ⟨Lc13, hQ13, l13, y13, z13⟩, st13⟩ := X0.virtualBackUp hx (x := (⟨"com/example/lim1/lim1/DelayModel", "ordinal", "()I"⟩ : MethodName)) (y := (⟨"java/lang/Enum", "ordinal", "()I"⟩ : MethodName)) (owner := "java/lang/Enum") hown (mvT hZ (hw _ (List.mem_of_getElem? (i := 23) rfl))) (mvT hZ (hw _ (List.mem_of_getElem? (i := 24) rfl))) (mvT hZ (hw _ (List.mem_of_getElem? (i := 25) rfl))) (by decide) (mvT hZ (hw _ (List.mem_of_getElem? (i := 27) rfl))) (mvT hZ (hw _ (List.mem_of_getElem? (i := 26) rfl))) (backOf (W := 0) (rm5 l Z a0 hw [] f0 h0 n0 Z0 (P1.ext P2.2)) hZ (hw _ (List.mem_of_getElem? (i := 29) rfl)) (hw _ (List.mem_of_getElem? (i := 28) rfl)) (by decide) (by decide)) q13a q13c (g := (mkF m 1 #[.val (.ref f0), .val (.long q2), .second, .val (.long q3), .second, .val (.int p4)] [(.ref f0)])) rfl (by rw [hml]; rfl) (Steps.refl _) (argsL := []) (rest := []) (lenOf pd_4_0 rfl) rfl (by show 2 * 0 + _ ≤ _; exact Nat.le_of_eq rfl) (hb hby d4_1) (fun _ _ => ⟨rfl, e0, (by decide : 0 + 0 ≤ _), (by decide : 0 + 0 ≤ _)⟩)
  dsimp only [Pt.U, Pt.locs, Pt.cells, Pt.slots] at X13 l13 y13 z13 st13 hQ13
  subst l13 y13 z13
  obtain ⟨rfl, N13q, e13⟩ := hQ13
  have N13 := Fr.app N0 N13q
  refine goT st13 ?_
  show Go _ p e below s _ _ _ (T13.setTop (mkF m 4 #[.val (.ref f0), .val (.long q2), .second, .val (.long q3), .second, .val (.int p4)] [(.int (0 : Int32))]))
  refine go (X13.lookupswitchHit hx (g := (mkF m 4 #[.val (.ref f0), .val (.long q2), .second, .val (.long q3), .second, .val (.int p4)] [(.int (0 : Int32))])) rfl (k := (0 : Int32)) (rest := []) rfl (hb hby d4_4) (by decide) (a := 0) (off := 28) (by decide) (by show (0 : Int) ≤ (4 : Nat) + 28; decide)) ?_
  show Go _ p e below s _ _ _ (T13.setTop (mkF m 32 #[.val (.ref f0), .val (.long q2), .second, .val (.long q3), .second, .val (.int p4)] []))
  refine go (fun _ => XS.lloadN X13.here hx rfl (hb hby d4_32) rfl) ?_
  show Go _ p e below s _ _ _ (T13.setTop (mkF m 33 #[.val (.ref f0), .val (.long q2), .second, .val (.long q3), .second, .val (.int p4)] [(.long q2)]))
  obtain ⟨cK14, T14, h14, md14, X14, e14, E14, hc14, st14⟩ := own_makes1 X13 hx (x := (⟨"com/example/lim1/lim1/DelayModel", "delays", "(JJI)Lcom/example/lim1/lim1/DelayModel$Delays;"⟩ : MethodName)) hWH (hw _ (List.mem_of_getElem? (i := 32) rfl)) Bd.named rfl own_cap (mvT hZ (hw _ (List.mem_of_getElem? (i := 35) rfl))) (g := (mkF m 33 #[.val (.ref f0), .val (.long q2), .second, .val (.long q3), .second, .val (.int p4)] [(.long q2)])) rfl rfl (by rw [hml]; rfl) (hb hby d4_33) rfl (by show 2 * 0 + (2 + 0) + 3072 ≤ _; decide) (by decide) (by decide) e13
  obtain ⟨b14, g14⟩ : ∃ z, z = h0.size := ⟨_, rfl⟩
  rw [← g14] at hc14 st14
  have G_b14 : n0 ≤ b14 := Nat.le_trans Z0 (Nat.le_of_eq g14.symm)
  have SZ_b14 : h0.size ≤ b14 := Nat.le_trans (Keep.refl h0 []).1 (Nat.le_of_eq g14.symm)
  have KK14 : Keep h0 h14 [] := (Keep.refl h0 []).ext E14
  have ZN14 : n0 ≤ h14.size := Nat.le_trans Z0 E14.1
  have OL14 := P2.ext E14
  refine go st14 ?_
  show Go _ p e below s _ _ _ (T14.setTop (mkF m 38 #[.val (.ref f0), .val (.long q2), .second, .val (.long q3), .second, .val (.int p4)] [(.ref b14)]))
  refine goRet X14 hx Bd.notSynchronized Bd.returns rfl (Or.inr (Or.inr (Or.inr (Or.inr ⟨rfl, rfl, rfl⟩)))) (hb hby d4_38) (by decide) (by decide) (by rw [e14]; refine ⟨b14, rfl, N13, SZ_b14, G_b14, KK14, ⟨_, md14, hc14⟩⟩)
theorem pn_0 : plainName "com/example/lim1/lim1/DelayModelKeepsOrderAcrossSendersPinLaw" = true := by first | (simp [plainName, overriddenIn]; done) | decide +kernel
theorem pd_0_0 : parseMethodDescriptor "()Z" = some ⟨[], some .boolean⟩ := by decide +kernel
theorem pd_0_1 : parseMethodDescriptor "(JJ)J" = some ⟨[.long, .long], some .long⟩ := by decide +kernel
theorem pd_0_2 : parseMethodDescriptor "(JJI)Lcom/example/lim1/lim1/DelayModel$Delays;" = some ⟨[.long, .long, .int], some (.object "com/example/lim1/lim1/DelayModel$Delays")⟩ := by decide +kernel
theorem pd_0_3 : parseMethodDescriptor "(IIJ)J" = some ⟨[.int, .int, .long], some .long⟩ := by decide +kernel
theorem pd_0_4 : parseMethodDescriptor "(JIIJ)J" = some ⟨[.long, .int, .int, .long], some .long⟩ := by decide +kernel
theorem ef_0 (m : MethodId) (p1 : Int32) (q2 : Int64) (q3 : Int64) (q4 : Int64) (q5 : Int64) : entryFrame m #[(.int p1), (.long q2), (.long q3), (.long q4), (.long q5)] maxLocals = mkF m 0 #[.val (.int p1), .val (.long q2), .second, .val (.long q3), .second, .val (.long q4), .second, .val (.long q5), .second, .unset, .unset, .unset, .unset, .unset, .unset, .unset, .unset, .unset, .unset, .unset, .unset, .unset, .unset, .unset, .unset, .unset, .unset] [] := by first | (simp [entryFrame, mkF, argsToLocals, Value.category, maxLocals]; done) | rfl
def Q0 (Z : State) (p1 : Int32) (q2 : Int64) (q3 : Int64) (q4 : Int64) (q5 : Int64) (f0 : Addr) (u0 : Addr) (h0 : Heap) (n0 : Nat) (v : Option Value) (h : Heap) (L : List Loc) : Prop := v = some (.int (1 : Int32)) ∧ Fr n0 L
set_option maxRecDepth 65536 in
set_option maxHeartbeats 40000000 in
theorem rm0 (l : Launch) (Z : State) (a0 : Array Value) (hw : ∀ d ∈ tables_1, d.before a0 Z = true) (ws : List Jvm.Cond) (p1 : Int32) (q2 : Int64) (q3 : Int64) (q4 : Int64) (q5 : Int64) (f0 : Addr) (u0 : Addr) (h0 : Heap) (n0 : Nat) (Z0 : n0 ≤ h0.size) (P0 : Old Z n0 h0) (P1 : Sta Z Z.heap "com/example/lim1/lim1/DelayModel" "FIXED" "Lcom/example/lim1/lim1/DelayModel;" (.ref f0)) (P2 : Sta Z Z.heap "com/example/lim1/lim1/DelayModel" "UNIFORM" "Lcom/example/lim1/lim1/DelayModel;" (.ref u0)) (P3 : Exa Z Z.heap f0 "com/example/lim1/lim1/DelayModel") (P4 : Fld Z Z.heap f0 "java/lang/Enum" "ordinal" "I" (.int (0 : Int32))) (P5 : Exa Z Z.heap u0 "com/example/lim1/lim1/DelayModel") (P6 : u0 ≠ f0) :
    MetFree l x (head1 (Jvm.Cond.code x code maxLocals ret :: ws) room_1) (fun a U => a = #[(.int p1), (.long q2), (.long q3), (.long q4), (.long q5)] ∧ Z.Warmed39 U.vm ∧ U.heap = h0 ∧ Z.WarmedH U.vm) (fun _ _ _ _ _ => True) (fun _ U o U' => ∃ v L, o = .returned v ∧ Q0 Z p1 q2 q3 q4 q5 f0 u0 h0 n0 v U'.heap L ∧ FrameEnd U o U' L room_1.cells room_1.slots) := by
  refine MetFree.of_bodySF (plainFor_of_name pn_0) hisR ?_
  intro p e s m args below meth c s₁ Bd hml0 hP hK
  obtain ⟨rfl, hZ, hh, hWH⟩ := hP
  have hx := Bd.exec
  have hby := Bd.bytes
  have hml : c.maxLocals = 27 := hml0
  have hown : s.vm.findClass "com/example/lim1/lim1/DelayModelKeepsOrderAcrossSendersPinLaw" = some m.cls := findClass_of_methodNamed Bd.named
  have hnm := (name_of_methodNamed Bd.named Bd.method).1
  have X0 : Stand p l e room_1 s m #[(.int p1), (.long q2), (.long q3), (.long q4), (.long q5)] below meth c s₁ [] 0 0 := Stand.of_body Bd
  have e0 : s₁.heap = h0 := by rw [← hh, Bd.state]; rfl
  have N0 := Fr.nil n0
  have hS0 : s.Since s.vm 0 := (State.WarmedH.refl s).since 0
  show Go (FrameEnd) p e below s room_1.cells room_1.slots (Q0 Z p1 q2 q3 q4 q5 f0 u0 h0 n0) (s₁.setTop (entryFrame m #[(.int p1), (.long q2), (.long q3), (.long q4), (.long q5)] maxLocals))
  refine go (fun _ k => castTop (ef_0 m p1 q2 q3 q4 q5) k) ?_
  show Go _ p e below s _ _ _ (s₁.setTop (mkF m 0 #[.val (.int p1), .val (.long q2), .second, .val (.long q3), .second, .val (.long q4), .second, .val (.long q5), .second, .unset, .unset, .unset, .unset, .unset, .unset, .unset, .unset, .unset, .unset, .unset, .unset, .unset, .unset, .unset, .unset, .unset, .unset] []))
  refine go (fun _ => XS.iloadN X0.here hx rfl (hb hby at_0) rfl) ?_
  show Go _ p e below s _ _ _ (s₁.setTop (mkF m 1 #[.val (.int p1), .val (.long q2), .second, .val (.long q3), .second, .val (.long q4), .second, .val (.long q5), .second, .unset, .unset, .unset, .unset, .unset, .unset, .unset, .unset, .unset, .unset, .unset, .unset, .unset, .unset, .unset, .unset, .unset, .unset] [(.int p1)]))
  refine go (fun _ => XS.iconst X0.here hx rfl (hb hby at_1)) ?_
  show Go _ p e below s _ _ _ (s₁.setTop (mkF m 2 #[.val (.int p1), .val (.long q2), .second, .val (.long q3), .second, .val (.long q4), .second, .val (.long q5), .second, .unset, .unset, .unset, .unset, .unset, .unset, .unset, .unset, .unset, .unset, .unset, .unset, .unset, .unset, .unset, .unset, .unset, .unset] [(.int (1 : Int32)), (.int p1)]))
  refine go (fun _ => XS.iand X0.here hx rfl (hb hby at_2) rfl) ?_
  show Go _ p e below s _ _ _ (s₁.setTop (mkF m 3 #[.val (.int p1), .val (.long q2), .second, .val (.long q3), .second, .val (.long q4), .second, .val (.long q5), .second, .unset, .unset, .unset, .unset, .unset, .unset, .unset, .unset, .unset, .unset, .unset, .unset, .unset, .unset, .unset, .unset, .unset, .unset] [(.int (p1 &&& (1 : Int32)))]))
  by_cases hc3_15 : (p1 &&& (1 : Int32)) = (0 : Int32)
  · refine go (fun _ => XS.ifNo X0.here hx rfl (hb hby at_3) rfl ((if0 _ _).trans (teq hc3_15).2)) ?_
    show Go _ p e below s _ _ _ (s₁.setTop (mkF m 6 #[.val (.int p1), .val (.long q2), .second, .val (.long q3), .second, .val (.long q4), .second, .val (.long q5), .second, .unset, .unset, .unset, .unset, .unset, .unset, .unset, .unset, .unset, .unset, .unset, .unset, .unset, .unset, .unset, .unset, .unset, .unset] []))
    refine go (fun _ => XS.iconst X0.here hx rfl (hb hby at_6)) ?_
    show Go _ p e below s _ _ _ (s₁.setTop (mkF m 7 #[.val (.int p1), .val (.long q2), .second, .val (.long q3), .second, .val (.long q4), .second, .val (.long q5), .second, .unset, .unset, .unset, .unset, .unset, .unset, .unset, .unset, .unset, .unset, .unset, .unset, .unset, .unset, .unset, .unset, .unset, .unset] [(.int (1 : Int32))]))
    refine go (fun _ => XS.goto X0.here hx rfl (pc0 := 7) (pc' := 11) rfl (hb hby at_7) (by decide) (by decide)) ?_
    show Go _ p e below s _ _ _ (s₁.setTop (mkF m 11 #[.val (.int p1), .val (.long q2), .second, .val (.long q3), .second, .val (.long q4), .second, .val (.long q5), .second, .unset, .unset, .unset, .unset, .unset, .unset, .unset, .unset, .unset, .unset, .unset, .unset, .unset, .unset, .unset, .unset, .unset, .unset] [(.int (1 : Int32))]))
    refine go (fun _ => XS.istore X0.here hx rfl (hb hby at_11) rfl (l' := #[.val (.int p1), .val (.long q2), .second, .val (.long q3), .second, .val (.long q4), .second, .val (.long q5), .second, .val (.int (1 : Int32)), .unset, .unset, .unset, .unset, .unset, .unset, .unset, .unset, .unset, .unset, .unset, .unset, .unset, .unset, .unset, .unset, .unset]) rfl) ?_
    show Go _ p e below s _ _ _ (s₁.setTop (mkF m 13 #[.val (.int p1), .val (.long q2), .second, .val (.long q3), .second, .val (.long q4), .second, .val (.long q5), .second, .val (.int (1 : Int32)), .unset, .unset, .unset, .unset, .unset, .unset, .unset, .unset, .unset, .unset, .unset, .unset, .unset, .unset, .unset, .unset, .unset] []))
    refine go (fun _ => XS.iload X0.here hx rfl (hb hby at_13) rfl) ?_
    show Go _ p e below s _ _ _ (s₁.setTop (mkF m 15 #[.val (.int p1), .val (.long q2), .second, .val (.long q3), .second, .val (.long q4), .second, .val (.long q5), .second, .val (.int (1 : Int32)), .unset, .unset, .unset, .unset, .unset, .unset, .unset, .unset, .unset, .unset, .unset, .unset, .unset, .unset, .unset, .unset, .unset] [(.int (1 : Int32))]))
    refine go (fun _ => XS.ifNo X0.here hx rfl (hb hby at_15) rfl ((if0 _ _).trans (feq (by decide : ¬ ((1 : Int32) = (0 : Int32)))).1)) ?_
    show Go _ p e below s _ _ _ (s₁.setTop (mkF m 18 #[.val (.int p1), .val (.long q2), .second, .val (.long q3), .second, .val (.long q4), .second, .val (.long q5), .second, .val (.int (1 : Int32)), .unset, .unset, .unset, .unset, .unset, .unset, .unset, .unset, .unset, .unset, .unset, .unset, .unset, .unset, .unset, .unset, .unset] []))
    obtain ⟨T16, X16, e16, st16⟩ := getS2 X0 hx hZ hown (host := "") (Or.inl (hw _ (List.mem_of_getElem? (i := 0) rfl))) Via.refl e0 (P1.ext P0.2) (g := (mkF m 18 #[.val (.int p1), .val (.long q2), .second, .val (.long q3), .second, .val (.long q4), .second, .val (.long q5), .second, .val (.int (1 : Int32)), .unset, .unset, .unset, .unset, .unset, .unset, .unset, .unset, .unset, .unset, .unset, .unset, .unset, .unset, .unset, .unset, .unset] [])) rfl (hb hby at_18)
    refine go st16 ?_
    show Go _ p e below s _ _ _ (T16.setTop (mkF m 21 #[.val (.int p1), .val (.long q2), .second, .val (.long q3), .second, .val (.long q4), .second, .val (.long q5), .second, .val (.int (1 : Int32)), .unset, .unset, .unset, .unset, .unset, .unset, .unset, .unset, .unset, .unset, .unset, .unset, .unset, .unset, .unset, .unset, .unset] [(.ref f0)]))
    refine go (fun _ => XS.goto X16.here hx rfl (pc0 := 21) (pc' := 27) rfl (hb hby at_21) (by decide) (by decide)) ?_
    show Go _ p e below s _ _ _ (T16.setTop (mkF m 27 #[.val (.int p1), .val (.long q2), .second, .val (.long q3), .second, .val (.long q4), .second, .val (.long q5), .second, .val (.int (1 : Int32)), .unset, .unset, .unset, .unset, .unset, .unset, .unset, .unset, .unset, .unset, .unset, .unset, .unset, .unset, .unset, .unset, .unset] [(.ref f0)]))
    refine go (fun _ => XS.astore X16.here hx rfl (hb hby at_27) rfl rfl (l' := #[.val (.int p1), .val (.long q2), .second, .val (.long q3), .second, .val (.long q4), .second, .val (.long q5), .second, .val (.int (1 : Int32)), .val (.ref f0), .unset, .unset, .unset, .unset, .unset, .unset, .unset, .unset, .unset, .unset, .unset, .unset, .unset, .unset, .unset, .unset]) rfl) ?_
    show Go _ p e below s _ _ _ (T16.setTop (mkF m 29 #[.val (.int p1), .val (.long q2), .second, .val (.long q3), .second, .val (.long q4), .second, .val (.long q5), .second, .val (.int (1 : Int32)), .val (.ref f0), .unset, .unset, .unset, .unset, .unset, .unset, .unset, .unset, .unset, .unset, .unset, .unset, .unset, .unset, .unset, .unset] []))
    refine go (fun _ => XS.aload X16.here hx rfl (hb hby at_29) rfl rfl) ?_
    show Go _ p e below s _ _ _ (T16.setTop (mkF m 31 #[.val (.int p1), .val (.long q2), .second, .val (.long q3), .second, .val (.long q4), .second, .val (.long q5), .second, .val (.int (1 : Int32)), .val (.ref f0), .unset, .unset, .unset, .unset, .unset, .unset, .unset, .unset, .unset, .unset, .unset, .unset, .unset, .unset, .unset, .unset] [(.ref f0)]))
    obtain ⟨cq17, kq17, q17a, q17b, q17c⟩ := isOf hZ e16 (P3.ext P0.2)
    obtain ⟨_, _, ⟨T17, L17, k17, n17⟩, -, X17, ⟨Lc17, hQ17, l17, y17, z17⟩, st17⟩ := X16.virtualBack hx (y := (⟨"com/example/lim1/lim1/DelayModel", "keepsOrderAcrossSenders", "()Z"⟩ : MethodName)) (z := (⟨"com/example/lim1/lim1/DelayModel", "keepsOrderAcrossSenders", "()Z"⟩ : MethodName)) hown (mvT hZ (hw _ (List.mem_of_getElem? (i := 3) rfl))) (mvT hZ (hw _ (List.mem_of_getElem? (i := 4) rfl))) (notFace_of_selects (args := #[]) (mvT hZ (hw _ (List.mem_of_getElem? (i := 6) rfl)))) (mvT hZ (hw _ (List.mem_of_getElem? (i := 6) rfl))) (mvT hZ (hw _ (List.mem_of_getElem? (i := 5) rfl))) (by decide) (backOf (W := 0) (rmKY l Z a0 hw [] f0 h0 n0 Z0 P1 P0) hZ (hw _ (List.mem_of_getElem? (i := 7) rfl)) (hw _ (List.mem_of_getElem? (i := 1) rfl)) (by decide) (by decide)) q17a q17c (g := (mkF m 31 #[.val (.int p1), .val (.long q2), .second, .val (.long q3), .second, .val (.long q4), .second, .val (.long q5), .second, .val (.int (1 : Int32)), .val (.ref f0), .unset, .unset, .unset, .unset, .unset, .unset, .unset, .unset, .unset, .unset, .unset, .unset, .unset, .unset, .unset, .unset] [(.ref f0)])) rfl (by rw [hml]; rfl) (Steps.refl _) (argsL := []) (rest := []) (lenOf pd_0_0 rfl) rfl (by show 2 * 0 + _ ≤ _; exact Nat.le_of_eq rfl) (hb hby at_31) (fun _ _ => ⟨rfl, e16, (by decide : 0 + 0 ≤ _), (by decide : 0 + 0 ≤ _)⟩)
    dsimp only [Pt.U, Pt.locs, Pt.cells, Pt.slots] at X17 l17 y17 z17 st17 hQ17
    subst l17 y17 z17
    obtain ⟨rfl, N17q, e17⟩ := hQ17
    have N17 := Fr.app N0 N17q
    refine goT st17 ?_
    show Go _ p e below s _ _ _ (T17.setTop (mkF m 34 #[.val (.int p1), .val (.long q2), .second, .val (.long q3), .second, .val (.long q4), .second, .val (.long q5), .second, .val (.int (1 : Int32)), .val (.ref f0), .unset, .unset, .unset, .unset, .unset, .unset, .unset, .unset, .unset, .unset, .unset, .unset, .unset, .unset, .unset, .unset] [(.int (1 : Int32))]))
    refine go (fun _ => XS.istore X17.here hx rfl (hb hby at_34) rfl (l' := #[.val (.int p1), .val (.long q2), .second, .val (.long q3), .second, .val (.long q4), .second, .val (.long q5), .second, .val (.int (1 : Int32)), .val (.ref f0), .val (.int (1 : Int32)), .unset, .unset, .unset, .unset, .unset, .unset, .unset, .unset, .unset, .unset, .unset, .unset, .unset, .unset, .unset]) rfl) ?_
    show Go _ p e below s _ _ _ (T17.setTop (mkF m 36 #[.val (.int p1), .val (.long q2), .second, .val (.long q3), .second, .val (.long q4), .second, .val (.long q5), .second, .val (.int (1 : Int32)), .val (.ref f0), .val (.int (1 : Int32)), .unset, .unset, .unset, .unset, .unset, .unset, .unset, .unset, .unset, .unset, .unset, .unset, .unset, .unset, .unset] []))
    refine go (fun _ => XS.iload X17.here hx rfl (hb hby at_36) rfl) ?_
    show Go _ p e below s _ _ _ (T17.setTop (mkF m 38 #[.val (.int p1), .val (.long q2), .second, .val (.long q3), .second, .val (.long q4), .second, .val (.long q5), .second, .val (.int (1 : Int32)), .val (.ref f0), .val (.int (1 : Int32)), .unset, .unset, .unset, .unset, .unset, .unset, .unset, .unset, .unset, .unset, .unset, .unset, .unset, .unset, .unset] [(.int (1 : Int32))]))
    refine go (fun _ => XS.iload X17.here hx rfl (hb hby at_38) rfl) ?_
    show Go _ p e below s _ _ _ (T17.setTop (mkF m 40 #[.val (.int p1), .val (.long q2), .second, .val (.long q3), .second, .val (.long q4), .second, .val (.long q5), .second, .val (.int (1 : Int32)), .val (.ref f0), .val (.int (1 : Int32)), .unset, .unset, .unset, .unset, .unset, .unset, .unset, .unset, .unset, .unset, .unset, .unset, .unset, .unset, .unset] [(.int (1 : Int32)), (.int (1 : Int32))]))
    refine go (fun _ => XS.icmpYes X17.here hx rfl (pc0 := 40) (pc' := 45) rfl (hb hby at_40) rfl (teq (rfl : (1 : Int32) = (1 : Int32))).1 (by decide) (by decide)) ?_
    show Go _ p e below s _ _ _ (T17.setTop (mkF m 45 #[.val (.int p1), .val (.long q2), .second, .val (.long q3), .second, .val (.long q4), .second, .val (.long q5), .second, .val (.int (1 : Int32)), .val (.ref f0), .val (.int (1 : Int32)), .unset, .unset, .unset, .unset, .unset, .unset, .unset, .unset, .unset, .unset, .unset, .unset, .unset, .unset, .unset] []))
    refine go (fun _ => XS.iload X17.here hx rfl (hb hby at_45) rfl) ?_
    show Go _ p e below s _ _ _ (T17.setTop (mkF m 47 #[.val (.int p1), .val (.long q2), .second, .val (.long q3), .second, .val (.long q4), .second, .val (.long q5), .second, .val (.int (1 : Int32)), .val (.ref f0), .val (.int (1 : Int32)), .unset, .unset, .unset, .unset, .unset, .unset, .unset, .unset, .unset, .unset, .unset, .unset, .unset, .unset, .unset] [(.int (1 : Int32))]))
    refine go (fun _ => XS.ifYes X17.here hx rfl (pc0 := 47) (pc' := 52) rfl (hb hby at_47) rfl ((if0 _ _).trans (feq (by decide : ¬ ((1 : Int32) = (0 : Int32)))).2) (by decide) (by decide)) ?_
    show Go _ p e below s _ _ _ (T17.setTop (mkF m 52 #[.val (.int p1), .val (.long q2), .second, .val (.long q3), .second, .val (.long q4), .second, .val (.long q5), .second, .val (.int (1 : Int32)), .val (.ref f0), .val (.int (1 : Int32)), .unset, .unset, .unset, .unset, .unset, .unset, .unset, .unset, .unset, .unset, .unset, .unset, .unset, .unset, .unset] []))
    refine go (fun _ => XS.lconst X17.here hx rfl (hb hby at_52)) ?_
    show Go _ p e below s _ _ _ (T17.setTop (mkF m 53 #[.val (.int p1), .val (.long q2), .second, .val (.long q3), .second, .val (.long q4), .second, .val (.long q5), .second, .val (.int (1 : Int32)), .val (.ref f0), .val (.int (1 : Int32)), .unset, .unset, .unset, .unset, .unset, .unset, .unset, .unset, .unset, .unset, .unset, .unset, .unset, .unset, .unset] [(.long (1 : Int64))]))
    refine go (fun _ => XS.lloadN X17.here hx rfl (hb hby at_53) rfl) ?_
    show Go _ p e below s _ _ _ (T17.setTop (mkF m 54 #[.val (.int p1), .val (.long q2), .second, .val (.long q3), .second, .val (.long q4), .second, .val (.long q5), .second, .val (.int (1 : Int32)), .val (.ref f0), .val (.int (1 : Int32)), .unset, .unset, .unset, .unset, .unset, .unset, .unset, .unset, .unset, .unset, .unset, .unset, .unset, .unset, .unset] [(.long q2), (.long (1 : Int64))]))
    refine go (X17.ldc2Long hx hown (mvT hZ (hw _ (List.mem_of_getElem? (i := 9) rfl))) (g := (mkF m 54 #[.val (.int p1), .val (.long q2), .second, .val (.long q3), .second, .val (.long q4), .second, .val (.long q5), .second, .val (.int (1 : Int32)), .val (.ref f0), .val (.int (1 : Int32)), .unset, .unset, .unset, .unset, .unset, .unset, .unset, .unset, .unset, .unset, .unset, .unset, .unset, .unset, .unset] [(.long q2), (.long (1 : Int64))])) rfl (hb hby at_54)) ?_
    show Go _ p e below s _ _ _ (T17.setTop (mkF m 57 #[.val (.int p1), .val (.long q2), .second, .val (.long q3), .second, .val (.long q4), .second, .val (.long q5), .second, .val (.int (1 : Int32)), .val (.ref f0), .val (.int (1 : Int32)), .unset, .unset, .unset, .unset, .unset, .unset, .unset, .unset, .unset, .unset, .unset, .unset, .unset, .unset, .unset] [(.long (2147483647 : Int64)), (.long q2), (.long (1 : Int64))]))
    refine go (fun _ => XS.land X17.here hx rfl (hb hby at_57) rfl) ?_
    show Go _ p e below s _ _ _ (T17.setTop (mkF m 58 #[.val (.int p1), .val (.long q2), .second, .val (.long q3), .second, .val (.long q4), .second, .val (.long q5), .second, .val (.int (1 : Int32)), .val (.ref f0), .val (.int (1 : Int32)), .unset, .unset, .unset, .unset, .unset, .unset, .unset, .unset, .unset, .unset, .unset, .unset, .unset, .unset, .unset] [(.long (q2 &&& (2147483647 : Int64))), (.long (1 : Int64))]))
    refine go (X17.ldc2Long hx hown (mvT hZ (hw _ (List.mem_of_getElem? (i := 9) rfl))) (g := (mkF m 58 #[.val (.int p1), .val (.long q2), .second, .val (.long q3), .second, .val (.long q4), .second, .val (.long q5), .second, .val (.int (1 : Int32)), .val (.ref f0), .val (.int (1 : Int32)), .unset, .unset, .unset, .unset, .unset, .unset, .unset, .unset, .unset, .unset, .unset, .unset, .unset, .unset, .unset] [(.long (q2 &&& (2147483647 : Int64))), (.long (1 : Int64))])) rfl (hb hby at_58)) ?_
    show Go _ p e below s _ _ _ (T17.setTop (mkF m 61 #[.val (.int p1), .val (.long q2), .second, .val (.long q3), .second, .val (.long q4), .second, .val (.long q5), .second, .val (.int (1 : Int32)), .val (.ref f0), .val (.int (1 : Int32)), .unset, .unset, .unset, .unset, .unset, .unset, .unset, .unset, .unset, .unset, .unset, .unset, .unset, .unset, .unset] [(.long (2147483647 : Int64)), (.long (q2 &&& (2147483647 : Int64))), (.long (1 : Int64))]))
    refine go (fun _ => XS.lrem X17.here hx rfl (hb hby at_61) rfl (by decide)) ?_
    show Go _ p e below s _ _ _ (T17.setTop (mkF m 62 #[.val (.int p1), .val (.long q2), .second, .val (.long q3), .second, .val (.long q4), .second, .val (.long q5), .second, .val (.int (1 : Int32)), .val (.ref f0), .val (.int (1 : Int32)), .unset, .unset, .unset, .unset, .unset, .unset, .unset, .unset, .unset, .unset, .unset, .unset, .unset, .unset, .unset] [(.long ((q2 &&& (2147483647 : Int64)) - ((q2 &&& (2147483647 : Int64)) / (2147483647 : Int64)) * (2147483647 : Int64))), (.long (1 : Int64))]))
    refine go (fun _ => XS.ladd X17.here hx rfl (hb hby at_62) rfl) ?_
    show Go _ p e below s _ _ _ (T17.setTop (mkF m 63 #[.val (.int p1), .val (.long q2), .second, .val (.long q3), .second, .val (.long q4), .second, .val (.long q5), .second, .val (.int (1 : Int32)), .val (.ref f0), .val (.int (1 : Int32)), .unset, .unset, .unset, .unset, .unset, .unset, .unset, .unset, .unset, .unset, .unset, .unset, .unset, .unset, .unset] [(.long ((1 : Int64) + ((q2 &&& (2147483647 : Int64)) - ((q2 &&& (2147483647 : Int64)) / (2147483647 : Int64)) * (2147483647 : Int64))))]))
    refine go (fun _ => XS.lstore X17.here hx rfl (hb hby at_63) rfl (l' := #[.val (.int p1), .val (.long q2), .second, .val (.long q3), .second, .val (.long q4), .second, .val (.long q5), .second, .val (.int (1 : Int32)), .val (.ref f0), .val (.int (1 : Int32)), .val (.long ((1 : Int64) + ((q2 &&& (2147483647 : Int64)) - ((q2 &&& (2147483647 : Int64)) / (2147483647 : Int64)) * (2147483647 : Int64)))), .second, .unset, .unset, .unset, .unset, .unset, .unset, .unset, .unset, .unset, .unset, .unset, .unset, .unset]) rfl) ?_
    show Go _ p e below s _ _ _ (T17.setTop (mkF m 65 #[.val (.int p1), .val (.long q2), .second, .val (.long q3), .second, .val (.long q4), .second, .val (.long q5), .second, .val (.int (1 : Int32)), .val (.ref f0), .val (.int (1 : Int32)), .val (.long ((1 : Int64) + ((q2 &&& (2147483647 : Int64)) - ((q2 &&& (2147483647 : Int64)) / (2147483647 : Int64)) * (2147483647 : Int64)))), .second, .unset, .unset, .unset, .unset, .unset, .unset, .unset, .unset, .unset, .unset, .unset, .unset, .unset] []))
    refine go (fun _ => XS.lload X17.here hx rfl (hb hby at_65) rfl) ?_
    show Go _ p e below s _ _ _ (T17.setTop (mkF m 67 #[.val (.int p1), .val (.long q2), .second, .val (.long q3), .second, .val (.long q4), .second, .val (.long q5), .second, .val (.int (1 : Int32)), .val (.ref f0), .val (.int (1 : Int32)), .val (.long ((1 : Int64) + ((q2 &&& (2147483647 : Int64)) - ((q2 &&& (2147483647 : Int64)) / (2147483647 : Int64)) * (2147483647 : Int64)))), .second, .unset, .unset, .unset, .unset, .unset, .unset, .unset, .unset, .unset, .unset, .unset, .unset, .unset] [(.long q4)]))
    refine go (X17.ldc2Long hx hown (mvT hZ (hw _ (List.mem_of_getElem? (i := 10) rfl))) (g := (mkF m 67 #[.val (.int p1), .val (.long q2), .second, .val (.long q3), .second, .val (.long q4), .second, .val (.long q5), .second, .val (.int (1 : Int32)), .val (.ref f0), .val (.int (1 : Int32)), .val (.long ((1 : Int64) + ((q2 &&& (2147483647 : Int64)) - ((q2 &&& (2147483647 : Int64)) / (2147483647 : Int64)) * (2147483647 : Int64)))), .second, .unset, .unset, .unset, .unset, .unset, .unset, .unset, .unset, .unset, .unset, .unset, .unset, .unset] [(.long q4)])) rfl (hb hby at_67)) ?_
    show Go _ p e below s _ _ _ (T17.setTop (mkF m 70 #[.val (.int p1), .val (.long q2), .second, .val (.long q3), .second, .val (.long q4), .second, .val (.long q5), .second, .val (.int (1 : Int32)), .val (.ref f0), .val (.int (1 : Int32)), .val (.long ((1 : Int64) + ((q2 &&& (2147483647 : Int64)) - ((q2 &&& (2147483647 : Int64)) / (2147483647 : Int64)) * (2147483647 : Int64)))), .second, .unset, .unset, .unset, .unset, .unset, .unset, .unset, .unset, .unset, .unset, .unset, .unset, .unset] [(.long (4611686018427387903 : Int64)), (.long q4)]))
    refine go (fun _ => XS.land X17.here hx rfl (hb hby at_70) rfl) ?_
    show Go _ p e below s _ _ _ (T17.setTop (mkF m 71 #[.val (.int p1), .val (.long q2), .second, .val (.long q3), .second, .val (.long q4), .second, .val (.long q5), .second, .val (.int (1 : Int32)), .val (.ref f0), .val (.int (1 : Int32)), .val (.long ((1 : Int64) + ((q2 &&& (2147483647 : Int64)) - ((q2 &&& (2147483647 : Int64)) / (2147483647 : Int64)) * (2147483647 : Int64)))), .second, .unset, .unset, .unset, .unset, .unset, .unset, .unset, .unset, .unset, .unset, .unset, .unset, .unset] [(.long (q4 &&& (4611686018427387903 : Int64)))]))
    refine go (fun _ => XS.lstore X17.here hx rfl (hb hby at_71) rfl (l' := #[.val (.int p1), .val (.long q2), .second, .val (.long q3), .second, .val (.long q4), .second, .val (.long q5), .second, .val (.int (1 : Int32)), .val (.ref f0), .val (.int (1 : Int32)), .val (.long ((1 : Int64) + ((q2 &&& (2147483647 : Int64)) - ((q2 &&& (2147483647 : Int64)) / (2147483647 : Int64)) * (2147483647 : Int64)))), .second, .val (.long (q4 &&& (4611686018427387903 : Int64))), .second, .unset, .unset, .unset, .unset, .unset, .unset, .unset, .unset, .unset, .unset, .unset]) rfl) ?_
    show Go _ p e below s _ _ _ (T17.setTop (mkF m 73 #[.val (.int p1), .val (.long q2), .second, .val (.long q3), .second, .val (.long q4), .second, .val (.long q5), .second, .val (.int (1 : Int32)), .val (.ref f0), .val (.int (1 : Int32)), .val (.long ((1 : Int64) + ((q2 &&& (2147483647 : Int64)) - ((q2 &&& (2147483647 : Int64)) / (2147483647 : Int64)) * (2147483647 : Int64)))), .second, .val (.long (q4 &&& (4611686018427387903 : Int64))), .second, .unset, .unset, .unset, .unset, .unset, .unset, .unset, .unset, .unset, .unset, .unset] []))
    refine go (fun _ => XS.lload X17.here hx rfl (hb hby at_73) rfl) ?_
    show Go _ p e below s _ _ _ (T17.setTop (mkF m 75 #[.val (.int p1), .val (.long q2), .second, .val (.long q3), .second, .val (.long q4), .second, .val (.long q5), .second, .val (.int (1 : Int32)), .val (.ref f0), .val (.int (1 : Int32)), .val (.long ((1 : Int64) + ((q2 &&& (2147483647 : Int64)) - ((q2 &&& (2147483647 : Int64)) / (2147483647 : Int64)) * (2147483647 : Int64)))), .second, .val (.long (q4 &&& (4611686018427387903 : Int64))), .second, .unset, .unset, .unset, .unset, .unset, .unset, .unset, .unset, .unset, .unset, .unset] [(.long q5)]))
    refine go (X17.ldc2Long hx hown (mvT hZ (hw _ (List.mem_of_getElem? (i := 10) rfl))) (g := (mkF m 75 #[.val (.int p1), .val (.long q2), .second, .val (.long q3), .second, .val (.long q4), .second, .val (.long q5), .second, .val (.int (1 : Int32)), .val (.ref f0), .val (.int (1 : Int32)), .val (.long ((1 : Int64) + ((q2 &&& (2147483647 : Int64)) - ((q2 &&& (2147483647 : Int64)) / (2147483647 : Int64)) * (2147483647 : Int64)))), .second, .val (.long (q4 &&& (4611686018427387903 : Int64))), .second, .unset, .unset, .unset, .unset, .unset, .unset, .unset, .unset, .unset, .unset, .unset] [(.long q5)])) rfl (hb hby at_75)) ?_
    show Go _ p e below s _ _ _ (T17.setTop (mkF m 78 #[.val (.int p1), .val (.long q2), .second, .val (.long q3), .second, .val (.long q4), .second, .val (.long q5), .second, .val (.int (1 : Int32)), .val (.ref f0), .val (.int (1 : Int32)), .val (.long ((1 : Int64) + ((q2 &&& (2147483647 : Int64)) - ((q2 &&& (2147483647 : Int64)) / (2147483647 : Int64)) * (2147483647 : Int64)))), .second, .val (.long (q4 &&& (4611686018427387903 : Int64))), .second, .unset, .unset, .unset, .unset, .unset, .unset, .unset, .unset, .unset, .unset, .unset] [(.long (4611686018427387903 : Int64)), (.long q5)]))
    refine go (fun _ => XS.land X17.here hx rfl (hb hby at_78) rfl) ?_
    show Go _ p e below s _ _ _ (T17.setTop (mkF m 79 #[.val (.int p1), .val (.long q2), .second, .val (.long q3), .second, .val (.long q4), .second, .val (.long q5), .second, .val (.int (1 : Int32)), .val (.ref f0), .val (.int (1 : Int32)), .val (.long ((1 : Int64) + ((q2 &&& (2147483647 : Int64)) - ((q2 &&& (2147483647 : Int64)) / (2147483647 : Int64)) * (2147483647 : Int64)))), .second, .val (.long (q4 &&& (4611686018427387903 : Int64))), .second, .unset, .unset, .unset, .unset, .unset, .unset, .unset, .unset, .unset, .unset, .unset] [(.long (q5 &&& (4611686018427387903 : Int64)))]))
    refine go (fun _ => XS.lstore X17.here hx rfl (hb hby at_79) rfl (l' := #[.val (.int p1), .val (.long q2), .second, .val (.long q3), .second, .val (.long q4), .second, .val (.long q5), .second, .val (.int (1 : Int32)), .val (.ref f0), .val (.int (1 : Int32)), .val (.long ((1 : Int64) + ((q2 &&& (2147483647 : Int64)) - ((q2 &&& (2147483647 : Int64)) / (2147483647 : Int64)) * (2147483647 : Int64)))), .second, .val (.long (q4 &&& (4611686018427387903 : Int64))), .second, .val (.long (q5 &&& (4611686018427387903 : Int64))), .second, .unset, .unset, .unset, .unset, .unset, .unset, .unset, .unset, .unset]) rfl) ?_
    show Go _ p e below s _ _ _ (T17.setTop (mkF m 81 #[.val (.int p1), .val (.long q2), .second, .val (.long q3), .second, .val (.long q4), .second, .val (.long q5), .second, .val (.int (1 : Int32)), .val (.ref f0), .val (.int (1 : Int32)), .val (.long ((1 : Int64) + ((q2 &&& (2147483647 : Int64)) - ((q2 &&& (2147483647 : Int64)) / (2147483647 : Int64)) * (2147483647 : Int64)))), .second, .val (.long (q4 &&& (4611686018427387903 : Int64))), .second, .val (.long (q5 &&& (4611686018427387903 : Int64))), .second, .unset, .unset, .unset, .unset, .unset, .unset, .unset, .unset, .unset] []))
    refine go (fun _ => XS.lload X17.here hx rfl (hb hby at_81) rfl) ?_
    show Go _ p e below s _ _ _ (T17.setTop (mkF m 83 #[.val (.int p1), .val (.long q2), .second, .val (.long q3), .second, .val (.long q4), .second, .val (.long q5), .second, .val (.int (1 : Int32)), .val (.ref f0), .val (.int (1 : Int32)), .val (.long ((1 : Int64) + ((q2 &&& (2147483647 : Int64)) - ((q2 &&& (2147483647 : Int64)) / (2147483647 : Int64)) * (2147483647 : Int64)))), .second, .val (.long (q4 &&& (4611686018427387903 : Int64))), .second, .val (.long (q5 &&& (4611686018427387903 : Int64))), .second, .unset, .unset, .unset, .unset, .unset, .unset, .unset, .unset, .unset] [(.long (q4 &&& (4611686018427387903 : Int64)))]))
    refine go (fun _ => XS.lload X17.here hx rfl (hb hby at_83) rfl) ?_
    show Go _ p e below s _ _ _ (T17.setTop (mkF m 85 #[.val (.int p1), .val (.long q2), .second, .val (.long q3), .second, .val (.long q4), .second, .val (.long q5), .second, .val (.int (1 : Int32)), .val (.ref f0), .val (.int (1 : Int32)), .val (.long ((1 : Int64) + ((q2 &&& (2147483647 : Int64)) - ((q2 &&& (2147483647 : Int64)) / (2147483647 : Int64)) * (2147483647 : Int64)))), .second, .val (.long (q4 &&& (4611686018427387903 : Int64))), .second, .val (.long (q5 &&& (4611686018427387903 : Int64))), .second, .unset, .unset, .unset, .unset, .unset, .unset, .unset, .unset, .unset] [(.long (q5 &&& (4611686018427387903 : Int64))), (.long (q4 &&& (4611686018427387903 : Int64)))]))
    obtain ⟨_, _, ⟨T18, L18, k18, n18⟩, -, X18, ⟨Lc18, hQ18, l18, y18, z18⟩, st18⟩ := Jvm.LawKit.callS X17 hx (y := (⟨"java/lang/Math", "min", "(JJ)J"⟩ : MethodName)) hown (mvT hZ (hw _ (List.mem_of_getElem? (i := 11) rfl))) (mvT hZ (hw _ (List.mem_of_getElem? (i := 12) rfl))) (mvT hZ (hw _ (List.mem_of_getElem? (i := 13) rfl))) (mvT hZ (hw _ (List.mem_of_getElem? (i := 14) rfl))) (by decide) (backOf (W := 0) (rm2 l Z a0 hw [] (q4 &&& (4611686018427387903 : Int64)) (q5 &&& (4611686018427387903 : Int64)) h0 n0 Z0 ) hZ (hw _ (List.mem_of_getElem? (i := 14) rfl)) (hw _ (List.mem_of_getElem? (i := 13) rfl)) (by decide) (by decide)) (g := (mkF m 85 #[.val (.int p1), .val (.long q2), .second, .val (.long q3), .second, .val (.long q4), .second, .val (.long q5), .second, .val (.int (1 : Int32)), .val (.ref f0), .val (.int (1 : Int32)), .val (.long ((1 : Int64) + ((q2 &&& (2147483647 : Int64)) - ((q2 &&& (2147483647 : Int64)) / (2147483647 : Int64)) * (2147483647 : Int64)))), .second, .val (.long (q4 &&& (4611686018427387903 : Int64))), .second, .val (.long (q5 &&& (4611686018427387903 : Int64))), .second, .unset, .unset, .unset, .unset, .unset, .unset, .unset, .unset, .unset] [(.long (q5 &&& (4611686018427387903 : Int64))), (.long (q4 &&& (4611686018427387903 : Int64)))])) rfl (by rw [hml]; rfl) (argsL := [(.long (q4 &&& (4611686018427387903 : Int64))), (.long (q5 &&& (4611686018427387903 : Int64)))]) (rest := []) (lenOf pd_0_1 rfl) rfl (by show 2 * 0 + _ ≤ _; exact Nat.le_of_eq rfl) (hb hby at_85) (fun _ _ => ⟨rfl, e17, (by decide : 0 + 0 ≤ _), (by decide : 0 + 0 ≤ _)⟩)
    dsimp only [Pt.U, Pt.locs, Pt.cells, Pt.slots] at X18 l18 y18 z18 st18 hQ18
    subst l18 y18 z18
    obtain ⟨rfl, N18q, e18⟩ := hQ18
    have N18 := Fr.app N17 N18q
    refine go st18 ?_
    show Go _ p e below s _ _ _ (T18.setTop (mkF m 88 #[.val (.int p1), .val (.long q2), .second, .val (.long q3), .second, .val (.long q4), .second, .val (.long q5), .second, .val (.int (1 : Int32)), .val (.ref f0), .val (.int (1 : Int32)), .val (.long ((1 : Int64) + ((q2 &&& (2147483647 : Int64)) - ((q2 &&& (2147483647 : Int64)) / (2147483647 : Int64)) * (2147483647 : Int64)))), .second, .val (.long (q4 &&& (4611686018427387903 : Int64))), .second, .val (.long (q5 &&& (4611686018427387903 : Int64))), .second, .unset, .unset, .unset, .unset, .unset, .unset, .unset, .unset, .unset] [(.long (own_minL (q4 &&& (4611686018427387903 : Int64)) (q5 &&& (4611686018427387903 : Int64))))]))
    refine go (fun _ => XS.lstore X18.here hx rfl (hb hby at_88) rfl (l' := #[.val (.int p1), .val (.long q2), .second, .val (.long q3), .second, .val (.long q4), .second, .val (.long q5), .second, .val (.int (1 : Int32)), .val (.ref f0), .val (.int (1 : Int32)), .val (.long ((1 : Int64) + ((q2 &&& (2147483647 : Int64)) - ((q2 &&& (2147483647 : Int64)) / (2147483647 : Int64)) * (2147483647 : Int64)))), .second, .val (.long (q4 &&& (4611686018427387903 : Int64))), .second, .val (.long (q5 &&& (4611686018427387903 : Int64))), .second, .val (.long (own_minL (q4 &&& (4611686018427387903 : Int64)) (q5 &&& (4611686018427387903 : Int64)))), .second, .unset, .unset, .unset, .unset, .unset, .unset, .unset]) rfl) ?_
    show Go _ p e below s _ _ _ (T18.setTop (mkF m 90 #[.val (.int p1), .val (.long q2), .second, .val (.long q3), .second, .val (.long q4), .second, .val (.long q5), .second, .val (.int (1 : Int32)), .val (.ref f0), .val (.int (1 : Int32)), .val (.long ((1 : Int64) + ((q2 &&& (2147483647 : Int64)) - ((q2 &&& (2147483647 : Int64)) / (2147483647 : Int64)) * (2147483647 : Int64)))), .second, .val (.long (q4 &&& (4611686018427387903 : Int64))), .second, .val (.long (q5 &&& (4611686018427387903 : Int64))), .second, .val (.long (own_minL (q4 &&& (4611686018427387903 : Int64)) (q5 &&& (4611686018427387903 : Int64)))), .second, .unset, .unset, .unset, .unset, .unset, .unset, .unset] []))
    refine go (fun _ => XS.lload X18.here hx rfl (hb hby at_90) rfl) ?_
    show Go _ p e below s _ _ _ (T18.setTop (mkF m 92 #[.val (.int p1), .val (.long q2), .second, .val (.long q3), .second, .val (.long q4), .second, .val (.long q5), .second, .val (.int (1 : Int32)), .val (.ref f0), .val (.int (1 : Int32)), .val (.long ((1 : Int64) + ((q2 &&& (2147483647 : Int64)) - ((q2 &&& (2147483647 : Int64)) / (2147483647 : Int64)) * (2147483647 : Int64)))), .second, .val (.long (q4 &&& (4611686018427387903 : Int64))), .second, .val (.long (q5 &&& (4611686018427387903 : Int64))), .second, .val (.long (own_minL (q4 &&& (4611686018427387903 : Int64)) (q5 &&& (4611686018427387903 : Int64)))), .second, .unset, .unset, .unset, .unset, .unset, .unset, .unset] [(.long (q4 &&& (4611686018427387903 : Int64)))]))
    refine go (fun _ => XS.lload X18.here hx rfl (hb hby at_92) rfl) ?_
    show Go _ p e below s _ _ _ (T18.setTop (mkF m 94 #[.val (.int p1), .val (.long q2), .second, .val (.long q3), .second, .val (.long q4), .second, .val (.long q5), .second, .val (.int (1 : Int32)), .val (.ref f0), .val (.int (1 : Int32)), .val (.long ((1 : Int64) + ((q2 &&& (2147483647 : Int64)) - ((q2 &&& (2147483647 : Int64)) / (2147483647 : Int64)) * (2147483647 : Int64)))), .second, .val (.long (q4 &&& (4611686018427387903 : Int64))), .second, .val (.long (q5 &&& (4611686018427387903 : Int64))), .second, .val (.long (own_minL (q4 &&& (4611686018427387903 : Int64)) (q5 &&& (4611686018427387903 : Int64)))), .second, .unset, .unset, .unset, .unset, .unset, .unset, .unset] [(.long (q5 &&& (4611686018427387903 : Int64))), (.long (q4 &&& (4611686018427387903 : Int64)))]))
    obtain ⟨_, _, ⟨T19, L19, k19, n19⟩, -, X19, ⟨Lc19, hQ19, l19, y19, z19⟩, st19⟩ := Jvm.LawKit.callS X18 hx (y := (⟨"java/lang/Math", "max", "(JJ)J"⟩ : MethodName)) hown (mvT hZ (hw _ (List.mem_of_getElem? (i := 15) rfl))) (mvT hZ (hw _ (List.mem_of_getElem? (i := 16) rfl))) (mvT hZ (hw _ (List.mem_of_getElem? (i := 13) rfl))) (mvT hZ (hw _ (List.mem_of_getElem? (i := 17) rfl))) (by decide) (backOf (W := 0) (rm3 l Z a0 hw [] (q4 &&& (4611686018427387903 : Int64)) (q5 &&& (4611686018427387903 : Int64)) h0 n0 Z0 ) hZ (hw _ (List.mem_of_getElem? (i := 17) rfl)) (hw _ (List.mem_of_getElem? (i := 13) rfl)) (by decide) (by decide)) (g := (mkF m 94 #[.val (.int p1), .val (.long q2), .second, .val (.long q3), .second, .val (.long q4), .second, .val (.long q5), .second, .val (.int (1 : Int32)), .val (.ref f0), .val (.int (1 : Int32)), .val (.long ((1 : Int64) + ((q2 &&& (2147483647 : Int64)) - ((q2 &&& (2147483647 : Int64)) / (2147483647 : Int64)) * (2147483647 : Int64)))), .second, .val (.long (q4 &&& (4611686018427387903 : Int64))), .second, .val (.long (q5 &&& (4611686018427387903 : Int64))), .second, .val (.long (own_minL (q4 &&& (4611686018427387903 : Int64)) (q5 &&& (4611686018427387903 : Int64)))), .second, .unset, .unset, .unset, .unset, .unset, .unset, .unset] [(.long (q5 &&& (4611686018427387903 : Int64))), (.long (q4 &&& (4611686018427387903 : Int64)))])) rfl (by rw [hml]; rfl) (argsL := [(.long (q4 &&& (4611686018427387903 : Int64))), (.long (q5 &&& (4611686018427387903 : Int64)))]) (rest := []) (lenOf pd_0_1 rfl) rfl (by show 2 * 0 + _ ≤ _; exact Nat.le_of_eq rfl) (hb hby at_94) (fun _ _ => ⟨rfl, e18, (by decide : 0 + 0 ≤ _), (by decide : 0 + 0 ≤ _)⟩)
    dsimp only [Pt.U, Pt.locs, Pt.cells, Pt.slots] at X19 l19 y19 z19 st19 hQ19
    subst l19 y19 z19
    obtain ⟨rfl, N19q, e19⟩ := hQ19
    have N19 := Fr.app N18 N19q
    refine go st19 ?_
    show Go _ p e below s _ _ _ (T19.setTop (mkF m 97 #[.val (.int p1), .val (.long q2), .second, .val (.long q3), .second, .val (.long q4), .second, .val (.long q5), .second, .val (.int (1 : Int32)), .val (.ref f0), .val (.int (1 : Int32)), .val (.long ((1 : Int64) + ((q2 &&& (2147483647 : Int64)) - ((q2 &&& (2147483647 : Int64)) / (2147483647 : Int64)) * (2147483647 : Int64)))), .second, .val (.long (q4 &&& (4611686018427387903 : Int64))), .second, .val (.long (q5 &&& (4611686018427387903 : Int64))), .second, .val (.long (own_minL (q4 &&& (4611686018427387903 : Int64)) (q5 &&& (4611686018427387903 : Int64)))), .second, .unset, .unset, .unset, .unset, .unset, .unset, .unset] [(.long (own_maxL (q4 &&& (4611686018427387903 : Int64)) (q5 &&& (4611686018427387903 : Int64))))]))
    refine go (fun _ => XS.lstore X19.here hx rfl (hb hby at_97) rfl (l' := #[.val (.int p1), .val (.long q2), .second, .val (.long q3), .second, .val (.long q4), .second, .val (.long q5), .second, .val (.int (1 : Int32)), .val (.ref f0), .val (.int (1 : Int32)), .val (.long ((1 : Int64) + ((q2 &&& (2147483647 : Int64)) - ((q2 &&& (2147483647 : Int64)) / (2147483647 : Int64)) * (2147483647 : Int64)))), .second, .val (.long (q4 &&& (4611686018427387903 : Int64))), .second, .val (.long (q5 &&& (4611686018427387903 : Int64))), .second, .val (.long (own_minL (q4 &&& (4611686018427387903 : Int64)) (q5 &&& (4611686018427387903 : Int64)))), .second, .val (.long (own_maxL (q4 &&& (4611686018427387903 : Int64)) (q5 &&& (4611686018427387903 : Int64)))), .second, .unset, .unset, .unset, .unset, .unset]) rfl) ?_
    show Go _ p e below s _ _ _ (T19.setTop (mkF m 99 #[.val (.int p1), .val (.long q2), .second, .val (.long q3), .second, .val (.long q4), .second, .val (.long q5), .second, .val (.int (1 : Int32)), .val (.ref f0), .val (.int (1 : Int32)), .val (.long ((1 : Int64) + ((q2 &&& (2147483647 : Int64)) - ((q2 &&& (2147483647 : Int64)) / (2147483647 : Int64)) * (2147483647 : Int64)))), .second, .val (.long (q4 &&& (4611686018427387903 : Int64))), .second, .val (.long (q5 &&& (4611686018427387903 : Int64))), .second, .val (.long (own_minL (q4 &&& (4611686018427387903 : Int64)) (q5 &&& (4611686018427387903 : Int64)))), .second, .val (.long (own_maxL (q4 &&& (4611686018427387903 : Int64)) (q5 &&& (4611686018427387903 : Int64)))), .second, .unset, .unset, .unset, .unset, .unset] []))
    refine go (fun _ => XS.aload X19.here hx rfl (hb hby at_99) rfl rfl) ?_
    show Go _ p e below s _ _ _ (T19.setTop (mkF m 101 #[.val (.int p1), .val (.long q2), .second, .val (.long q3), .second, .val (.long q4), .second, .val (.long q5), .second, .val (.int (1 : Int32)), .val (.ref f0), .val (.int (1 : Int32)), .val (.long ((1 : Int64) + ((q2 &&& (2147483647 : Int64)) - ((q2 &&& (2147483647 : Int64)) / (2147483647 : Int64)) * (2147483647 : Int64)))), .second, .val (.long (q4 &&& (4611686018427387903 : Int64))), .second, .val (.long (q5 &&& (4611686018427387903 : Int64))), .second, .val (.long (own_minL (q4 &&& (4611686018427387903 : Int64)) (q5 &&& (4611686018427387903 : Int64)))), .second, .val (.long (own_maxL (q4 &&& (4611686018427387903 : Int64)) (q5 &&& (4611686018427387903 : Int64)))), .second, .unset, .unset, .unset, .unset, .unset] [(.ref f0)]))
    refine go (fun _ => XS.lload X19.here hx rfl (hb hby at_101) rfl) ?_
    show Go _ p e below s _ _ _ (T19.setTop (mkF m 103 #[.val (.int p1), .val (.long q2), .second, .val (.long q3), .second, .val (.long q4), .second, .val (.long q5), .second, .val (.int (1 : Int32)), .val (.ref f0), .val (.int (1 : Int32)), .val (.long ((1 : Int64) + ((q2 &&& (2147483647 : Int64)) - ((q2 &&& (2147483647 : Int64)) / (2147483647 : Int64)) * (2147483647 : Int64)))), .second, .val (.long (q4 &&& (4611686018427387903 : Int64))), .second, .val (.long (q5 &&& (4611686018427387903 : Int64))), .second, .val (.long (own_minL (q4 &&& (4611686018427387903 : Int64)) (q5 &&& (4611686018427387903 : Int64)))), .second, .val (.long (own_maxL (q4 &&& (4611686018427387903 : Int64)) (q5 &&& (4611686018427387903 : Int64)))), .second, .unset, .unset, .unset, .unset, .unset] [(.long ((1 : Int64) + ((q2 &&& (2147483647 : Int64)) - ((q2 &&& (2147483647 : Int64)) / (2147483647 : Int64)) * (2147483647 : Int64)))), (.ref f0)]))
    refine go (fun _ => XS.lloadN X19.here hx rfl (hb hby at_103) rfl) ?_
    show Go _ p e below s _ _ _ (T19.setTop (mkF m 104 #[.val (.int p1), .val (.long q2), .second, .val (.long q3), .second, .val (.long q4), .second, .val (.long q5), .second, .val (.int (1 : Int32)), .val (.ref f0), .val (.int (1 : Int32)), .val (.long ((1 : Int64) + ((q2 &&& (2147483647 : Int64)) - ((q2 &&& (2147483647 : Int64)) / (2147483647 : Int64)) * (2147483647 : Int64)))), .second, .val (.long (q4 &&& (4611686018427387903 : Int64))), .second, .val (.long (q5 &&& (4611686018427387903 : Int64))), .second, .val (.long (own_minL (q4 &&& (4611686018427387903 : Int64)) (q5 &&& (4611686018427387903 : Int64)))), .second, .val (.long (own_maxL (q4 &&& (4611686018427387903 : Int64)) (q5 &&& (4611686018427387903 : Int64)))), .second, .unset, .unset, .unset, .unset, .unset] [(.long q3), (.long ((1 : Int64) + ((q2 &&& (2147483647 : Int64)) - ((q2 &&& (2147483647 : Int64)) / (2147483647 : Int64)) * (2147483647 : Int64)))), (.ref f0)]))
    refine go (fun _ => XS.iconst X19.here hx rfl (hb hby at_104)) ?_
    show Go _ p e below s _ _ _ (T19.setTop (mkF m 105 #[.val (.int p1), .val (.long q2), .second, .val (.long q3), .second, .val (.long q4), .second, .val (.long q5), .second, .val (.int (1 : Int32)), .val (.ref f0), .val (.int (1 : Int32)), .val (.long ((1 : Int64) + ((q2 &&& (2147483647 : Int64)) - ((q2 &&& (2147483647 : Int64)) / (2147483647 : Int64)) * (2147483647 : Int64)))), .second, .val (.long (q4 &&& (4611686018427387903 : Int64))), .second, .val (.long (q5 &&& (4611686018427387903 : Int64))), .second, .val (.long (own_minL (q4 &&& (4611686018427387903 : Int64)) (q5 &&& (4611686018427387903 : Int64)))), .second, .val (.long (own_maxL (q4 &&& (4611686018427387903 : Int64)) (q5 &&& (4611686018427387903 : Int64)))), .second, .unset, .unset, .unset, .unset, .unset] [(.int (3 : Int32)), (.long q3), (.long ((1 : Int64) + ((q2 &&& (2147483647 : Int64)) - ((q2 &&& (2147483647 : Int64)) / (2147483647 : Int64)) * (2147483647 : Int64)))), (.ref f0)]))
    obtain ⟨cq20, kq20, q20a, q20b, q20c⟩ := isOf hZ e19 (P3.ext P0.2)
    obtain ⟨_, _, ⟨T20, L20, k20, n20⟩, -, X20, ⟨Lc20, hQ20, l20, y20, z20⟩, st20⟩ := X19.virtualBack hx (y := (⟨"com/example/lim1/lim1/DelayModel", "delays", "(JJI)Lcom/example/lim1/lim1/DelayModel$Delays;"⟩ : MethodName)) (z := (⟨"com/example/lim1/lim1/DelayModel", "delays", "(JJI)Lcom/example/lim1/lim1/DelayModel$Delays;"⟩ : MethodName)) hown (mvT hZ (hw _ (List.mem_of_getElem? (i := 18) rfl))) (mvT hZ (hw _ (List.mem_of_getElem? (i := 19) rfl))) (notFace_of_selects (args := #[]) (mvT hZ (hw _ (List.mem_of_getElem? (i := 21) rfl)))) (mvT hZ (hw _ (List.mem_of_getElem? (i := 21) rfl))) (mvT hZ (hw _ (List.mem_of_getElem? (i := 20) rfl))) (by decide) (own_backWH (W := 0) (rm4 l Z a0 hw [] f0 ((1 : Int64) + ((q2 &&& (2147483647 : Int64)) - ((q2 &&& (2147483647 : Int64)) / (2147483647 : Int64)) * (2147483647 : Int64))) q3 (3 : Int32) h0 n0 Z0 P3 P4 P0) hZ hWH (hw _ (List.mem_of_getElem? (i := 22) rfl)) (hw _ (List.mem_of_getElem? (i := 1) rfl)) (by decide) (by decide)) q20a q20c (g := (mkF m 105 #[.val (.int p1), .val (.long q2), .second, .val (.long q3), .second, .val (.long q4), .second, .val (.long q5), .second, .val (.int (1 : Int32)), .val (.ref f0), .val (.int (1 : Int32)), .val (.long ((1 : Int64) + ((q2 &&& (2147483647 : Int64)) - ((q2 &&& (2147483647 : Int64)) / (2147483647 : Int64)) * (2147483647 : Int64)))), .second, .val (.long (q4 &&& (4611686018427387903 : Int64))), .second, .val (.long (q5 &&& (4611686018427387903 : Int64))), .second, .val (.long (own_minL (q4 &&& (4611686018427387903 : Int64)) (q5 &&& (4611686018427387903 : Int64)))), .second, .val (.long (own_maxL (q4 &&& (4611686018427387903 : Int64)) (q5 &&& (4611686018427387903 : Int64)))), .second, .unset, .unset, .unset, .unset, .unset] [(.int (3 : Int32)), (.long q3), (.long ((1 : Int64) + ((q2 &&& (2147483647 : Int64)) - ((q2 &&& (2147483647 : Int64)) / (2147483647 : Int64)) * (2147483647 : Int64)))), (.ref f0)])) rfl (by rw [hml]; rfl) (Steps.refl _) (argsL := [(.long ((1 : Int64) + ((q2 &&& (2147483647 : Int64)) - ((q2 &&& (2147483647 : Int64)) / (2147483647 : Int64)) * (2147483647 : Int64)))), (.long q3), (.int (3 : Int32))]) (rest := []) (lenOf pd_0_2 rfl) rfl (by show 2 * 0 + _ ≤ _; exact Nat.le_of_eq rfl) (hb hby at_105) (fun _ _ => ⟨rfl, e19, (by decide : 0 + 1 ≤ _), (by decide : 0 + 1 ≤ _)⟩)
    dsimp only [Pt.U, Pt.locs, Pt.cells, Pt.slots] at X20 l20 y20 z20 st20 hQ20
    subst l20 y20 z20
    obtain ⟨b20, rfl, N20q, u20_0, u20_1, K20, u20_3⟩ := hQ20
    have N20 := Fr.app N19 N20q
    have G_b20 : n0 ≤ b20 := Nat.le_trans Z0 u20_0
    have SZ_b20 : h0.size ≤ b20 := Nat.le_trans (Keep.refl h0 []).1 u20_0
    have KK20 : Keep h0 T20.heap [] := (Keep.refl h0 []).trans K20 all0
    have ZN20 : n0 ≤ T20.heap.size := Nat.le_trans Z0 K20.1
    have OL20 := P0.keep K20 all0
    refine goT st20 ?_
    show Go _ p e below s _ _ _ (T20.setTop (mkF m 108 #[.val (.int p1), .val (.long q2), .second, .val (.long q3), .second, .val (.long q4), .second, .val (.long q5), .second, .val (.int (1 : Int32)), .val (.ref f0), .val (.int (1 : Int32)), .val (.long ((1 : Int64) + ((q2 &&& (2147483647 : Int64)) - ((q2 &&& (2147483647 : Int64)) / (2147483647 : Int64)) * (2147483647 : Int64)))), .second, .val (.long (q4 &&& (4611686018427387903 : Int64))), .second, .val (.long (q5 &&& (4611686018427387903 : Int64))), .second, .val (.long (own_minL (q4 &&& (4611686018427387903 : Int64)) (q5 &&& (4611686018427387903 : Int64)))), .second, .val (.long (own_maxL (q4 &&& (4611686018427387903 : Int64)) (q5 &&& (4611686018427387903 : Int64)))), .second, .unset, .unset, .unset, .unset, .unset] [(.ref b20)]))
    obtain ⟨cK, md, hcell⟩ := u20_3
    have mdS := own_made hWH md
    refine go (fun _ => XS.astore X20.here hx rfl (hb hby at_108) rfl rfl (l' := #[.val (.int p1), .val (.long q2), .second, .val (.long q3), .second, .val (.long q4), .second, .val (.long q5), .second, .val (.int (1 : Int32)), .val (.ref f0), .val (.int (1 : Int32)), .val (.long ((1 : Int64) + ((q2 &&& (2147483647 : Int64)) - ((q2 &&& (2147483647 : Int64)) / (2147483647 : Int64)) * (2147483647 : Int64)))), .second, .val (.long (q4 &&& (4611686018427387903 : Int64))), .second, .val (.long (q5 &&& (4611686018427387903 : Int64))), .second, .val (.long (own_minL (q4 &&& (4611686018427387903 : Int64)) (q5 &&& (4611686018427387903 : Int64)))), .second, .val (.long (own_maxL (q4 &&& (4611686018427387903 : Int64)) (q5 &&& (4611686018427387903 : Int64)))), .second, .val (.ref b20), .unset, .unset, .unset, .unset]) rfl) ?_
    show Go _ p e below s _ _ _ (T20.setTop (mkF m 110 #[.val (.int p1), .val (.long q2), .second, .val (.long q3), .second, .val (.long q4), .second, .val (.long q5), .second, .val (.int (1 : Int32)), .val (.ref f0), .val (.int (1 : Int32)), .val (.long ((1 : Int64) + ((q2 &&& (2147483647 : Int64)) - ((q2 &&& (2147483647 : Int64)) / (2147483647 : Int64)) * (2147483647 : Int64)))), .second, .val (.long (q4 &&& (4611686018427387903 : Int64))), .second, .val (.long (q5 &&& (4611686018427387903 : Int64))), .second, .val (.long (own_minL (q4 &&& (4611686018427387903 : Int64)) (q5 &&& (4611686018427387903 : Int64)))), .second, .val (.long (own_maxL (q4 &&& (4611686018427387903 : Int64)) (q5 &&& (4611686018427387903 : Int64)))), .second, .val (.ref b20), .unset, .unset, .unset, .unset] []))
    refine go (fun _ => XS.aload X20.here hx rfl (hb hby at_110) rfl rfl) ?_
    show Go _ p e below s _ _ _ (T20.setTop (mkF m 112 #[.val (.int p1), .val (.long q2), .second, .val (.long q3), .second, .val (.long q4), .second, .val (.long q5), .second, .val (.int (1 : Int32)), .val (.ref f0), .val (.int (1 : Int32)), .val (.long ((1 : Int64) + ((q2 &&& (2147483647 : Int64)) - ((q2 &&& (2147483647 : Int64)) / (2147483647 : Int64)) * (2147483647 : Int64)))), .second, .val (.long (q4 &&& (4611686018427387903 : Int64))), .second, .val (.long (q5 &&& (4611686018427387903 : Int64))), .second, .val (.long (own_minL (q4 &&& (4611686018427387903 : Int64)) (q5 &&& (4611686018427387903 : Int64)))), .second, .val (.long (own_maxL (q4 &&& (4611686018427387903 : Int64)) (q5 &&& (4611686018427387903 : Int64)))), .second, .val (.ref b20), .unset, .unset, .unset, .unset] [(.ref b20)]))
    refine go (fun _ => XS.iconst X20.here hx rfl (hb hby at_112)) ?_
    show Go _ p e below s _ _ _ (T20.setTop (mkF m 113 #[.val (.int p1), .val (.long q2), .second, .val (.long q3), .second, .val (.long q4), .second, .val (.long q5), .second, .val (.int (1 : Int32)), .val (.ref f0), .val (.int (1 : Int32)), .val (.long ((1 : Int64) + ((q2 &&& (2147483647 : Int64)) - ((q2 &&& (2147483647 : Int64)) / (2147483647 : Int64)) * (2147483647 : Int64)))), .second, .val (.long (q4 &&& (4611686018427387903 : Int64))), .second, .val (.long (q5 &&& (4611686018427387903 : Int64))), .second, .val (.long (own_minL (q4 &&& (4611686018427387903 : Int64)) (q5 &&& (4611686018427387903 : Int64)))), .second, .val (.long (own_maxL (q4 &&& (4611686018427387903 : Int64)) (q5 &&& (4611686018427387903 : Int64)))), .second, .val (.ref b20), .unset, .unset, .unset, .unset] [(.int (0 : Int32)), (.ref b20)]))
    refine go (fun _ => XS.iconst X20.here hx rfl (hb hby at_113)) ?_
    show Go _ p e below s _ _ _ (T20.setTop (mkF m 114 #[.val (.int p1), .val (.long q2), .second, .val (.long q3), .second, .val (.long q4), .second, .val (.long q5), .second, .val (.int (1 : Int32)), .val (.ref f0), .val (.int (1 : Int32)), .val (.long ((1 : Int64) + ((q2 &&& (2147483647 : Int64)) - ((q2 &&& (2147483647 : Int64)) / (2147483647 : Int64)) * (2147483647 : Int64)))), .second, .val (.long (q4 &&& (4611686018427387903 : Int64))), .second, .val (.long (q5 &&& (4611686018427387903 : Int64))), .second, .val (.long (own_minL (q4 &&& (4611686018427387903 : Int64)) (q5 &&& (4611686018427387903 : Int64)))), .second, .val (.long (own_maxL (q4 &&& (4611686018427387903 : Int64)) (q5 &&& (4611686018427387903 : Int64)))), .second, .val (.ref b20), .unset, .unset, .unset, .unset] [(.int (2 : Int32)), (.int (0 : Int32)), (.ref b20)]))
    refine go (fun _ => XS.lload X20.here hx rfl (hb hby at_114) rfl) ?_
    show Go _ p e below s _ _ _ (T20.setTop (mkF m 116 #[.val (.int p1), .val (.long q2), .second, .val (.long q3), .second, .val (.long q4), .second, .val (.long q5), .second, .val (.int (1 : Int32)), .val (.ref f0), .val (.int (1 : Int32)), .val (.long ((1 : Int64) + ((q2 &&& (2147483647 : Int64)) - ((q2 &&& (2147483647 : Int64)) / (2147483647 : Int64)) * (2147483647 : Int64)))), .second, .val (.long (q4 &&& (4611686018427387903 : Int64))), .second, .val (.long (q5 &&& (4611686018427387903 : Int64))), .second, .val (.long (own_minL (q4 &&& (4611686018427387903 : Int64)) (q5 &&& (4611686018427387903 : Int64)))), .second, .val (.long (own_maxL (q4 &&& (4611686018427387903 : Int64)) (q5 &&& (4611686018427387903 : Int64)))), .second, .val (.ref b20), .unset, .unset, .unset, .unset] [(.long (own_minL (q4 &&& (4611686018427387903 : Int64)) (q5 &&& (4611686018427387903 : Int64)))), (.int (2 : Int32)), (.int (0 : Int32)), (.ref b20)]))
    have hc21 : T20.heap[b20]? = some { cls := cK, slots := #[.long ((1 : Int64) + ((q2 &&& (2147483647 : Int64)) - ((q2 &&& (2147483647 : Int64)) / (2147483647 : Int64)) * (2147483647 : Int64)))], vm := .none } := hcell
    obtain ⟨v21, s21, t21, T21, L21, X21, fr21, a21, -, ⟨q21, r21⟩, st21⟩ := Jvm.LamKit.callLamS (T := T20) X20 hx (host := "com/example/lim1/lim1/DelayModel") (xi := (⟨"com/example/lim1/lim1/DelayModel$Delays", "of", "(IIJ)J"⟩ : MethodName)) (y := (⟨"com/example/lim1/lim1/DelayModel", "lambda$delays$0", "(JIIJ)J"⟩ : MethodName)) (mc := 0) (ms := 0) (own_met l Z a0 hw ((1 : Int64) + ((q2 &&& (2147483647 : Int64)) - ((q2 &&& (2147483647 : Int64)) / (2147483647 : Int64)) * (2147483647 : Int64))) (0 : Int32) (2 : Int32) (own_minL (q4 &&& (4611686018427387903 : Int64)) (q5 &&& (4611686018427387903 : Int64))) (T20.heap) n0 ZN20) (fun _ _ _ _ q => q) rfl rfl
      (fun w_ hw_ a' U hU => by obtain rfl := List.mem_singleton.mp hw_; exact mvT (wtrans hZ hU) (hw _ (List.mem_of_getElem? (i := 40) rfl))) (List.mem_singleton.mpr rfl) hown (mvT hZ (hw _ (List.mem_of_getElem? (i := 36) rfl))) (mvT hZ (hw _ (List.mem_of_getElem? (i := 37) rfl))) (mvT hZ (hw _ (List.mem_of_getElem? (i := 38) rfl))) (mvT hZ (hw _ (List.mem_of_getElem? (i := 40) rfl))) (mvT hZ (hw _ (List.mem_of_getElem? (i := 39) rfl))) (mvT hZ (hw _ (List.mem_of_getElem? (i := 1) rfl)))
      (by decide +kernel) (by decide +kernel) (by decide) mdS ⟨_, hc21, rfl, rfl⟩ own_fwd own_f7 own_f10 (g := (mkF m 116 #[.val (.int p1), .val (.long q2), .second, .val (.long q3), .second, .val (.long q4), .second, .val (.long q5), .second, .val (.int (1 : Int32)), .val (.ref f0), .val (.int (1 : Int32)), .val (.long ((1 : Int64) + ((q2 &&& (2147483647 : Int64)) - ((q2 &&& (2147483647 : Int64)) / (2147483647 : Int64)) * (2147483647 : Int64)))), .second, .val (.long (q4 &&& (4611686018427387903 : Int64))), .second, .val (.long (q5 &&& (4611686018427387903 : Int64))), .second, .val (.long (own_minL (q4 &&& (4611686018427387903 : Int64)) (q5 &&& (4611686018427387903 : Int64)))), .second, .val (.long (own_maxL (q4 &&& (4611686018427387903 : Int64)) (q5 &&& (4611686018427387903 : Int64)))), .second, .val (.ref b20), .unset, .unset, .unset, .unset] [(.long (own_minL (q4 &&& (4611686018427387903 : Int64)) (q5 &&& (4611686018427387903 : Int64)))), (.int (2 : Int32)), (.int (0 : Int32)), (.ref b20)])) rfl (by rw [hml]; rfl) (argsL := [(.int (0 : Int32)), (.int (2 : Int32)), (.long (own_minL (q4 &&& (4611686018427387903 : Int64)) (q5 &&& (4611686018427387903 : Int64))))]) (argsT := [(.long ((1 : Int64) + ((q2 &&& (2147483647 : Int64)) - ((q2 &&& (2147483647 : Int64)) / (2147483647 : Int64)) * (2147483647 : Int64)))), (.int (0 : Int32)), (.int (2 : Int32)), (.long (own_minL (q4 &&& (4611686018427387903 : Int64)) (q5 &&& (4611686018427387903 : Int64))))]) (rest := []) (L0 := #[.val (.ref b20), .val (.int (0 : Int32)), .val (.int (2 : Int32)), .val (.long (own_minL (q4 &&& (4611686018427387903 : Int64)) (q5 &&& (4611686018427387903 : Int64)))), .second]) (lenOf pd_0_3 rfl) (lenOf pd_0_4 rfl) rfl (hb hby at_116) (fun _ => rfl) rfl
      (fun U ck bl target hU hcd hUh hUw k => by
        refine XS.aloadN hU hx rfl (by rw [hcd]; exact own_f0) rfl rfl ?_
        refine Jvm.LamKit.getCap (args := #[]) hx hU hUw mdS own_cap (mvT hZ (hw _ (List.mem_of_getElem? (i := 35) rfl))) (by rw [hUh]; exact hc21) rfl rfl rfl rfl (by rw [hcd]; exact own_f1) ?_
        refine XS.iloadN hU hx rfl (by rw [hcd]; exact own_f4) rfl ?_
        refine XS.iloadN hU hx rfl (by rw [hcd]; exact own_f5) rfl ?_
        refine XS.lloadN hU hx rfl (by rw [hcd]; exact own_f6) rfl ?_
        exact k)
      (fun _ _ _ qq => Or.inr (Or.inl ⟨_, rfl, rfl, Outcome.returned.inj qq.1⟩)) (by decide) (by show 2 * 0 + _ + _ + _ ≤ _; decide) (by decide) (by decide) (fun U hU hUh => ⟨rfl, wtrans hZ hU, hUh.trans rfl⟩)
    obtain rfl := Outcome.returned.inj q21
    have e21 := a21.trans r21
    have N21 := Fr.app N20 fr21
    refine go st21 ?_
    show Go _ p e below s _ _ _ (T21.setTop (mkF m 121 #[.val (.int p1), .val (.long q2), .second, .val (.long q3), .second, .val (.long q4), .second, .val (.long q5), .second, .val (.int (1 : Int32)), .val (.ref f0), .val (.int (1 : Int32)), .val (.long ((1 : Int64) + ((q2 &&& (2147483647 : Int64)) - ((q2 &&& (2147483647 : Int64)) / (2147483647 : Int64)) * (2147483647 : Int64)))), .second, .val (.long (q4 &&& (4611686018427387903 : Int64))), .second, .val (.long (q5 &&& (4611686018427387903 : Int64))), .second, .val (.long (own_minL (q4 &&& (4611686018427387903 : Int64)) (q5 &&& (4611686018427387903 : Int64)))), .second, .val (.long (own_maxL (q4 &&& (4611686018427387903 : Int64)) (q5 &&& (4611686018427387903 : Int64)))), .second, .val (.ref b20), .unset, .unset, .unset, .unset] [(.long ((1 : Int64) + ((q2 &&& (2147483647 : Int64)) - ((q2 &&& (2147483647 : Int64)) / (2147483647 : Int64)) * (2147483647 : Int64))))]))
    refine go (fun _ => XS.lstore X21.here hx rfl (hb hby at_121) rfl (l' := #[.val (.int p1), .val (.long q2), .second, .val (.long q3), .second, .val (.long q4), .second, .val (.long q5), .second, .val (.int (1 : Int32)), .val (.ref f0), .val (.int (1 : Int32)), .val (.long ((1 : Int64) + ((q2 &&& (2147483647 : Int64)) - ((q2 &&& (2147483647 : Int64)) / (2147483647 : Int64)) * (2147483647 : Int64)))), .second, .val (.long (q4 &&& (4611686018427387903 : Int64))), .second, .val (.long (q5 &&& (4611686018427387903 : Int64))), .second, .val (.long (own_minL (q4 &&& (4611686018427387903 : Int64)) (q5 &&& (4611686018427387903 : Int64)))), .second, .val (.long (own_maxL (q4 &&& (4611686018427387903 : Int64)) (q5 &&& (4611686018427387903 : Int64)))), .second, .val (.ref b20), .val (.long ((1 : Int64) + ((q2 &&& (2147483647 : Int64)) - ((q2 &&& (2147483647 : Int64)) / (2147483647 : Int64)) * (2147483647 : Int64)))), .second, .unset, .unset]) rfl) ?_
    show Go _ p e below s _ _ _ (T21.setTop (mkF m 123 #[.val (.int p1), .val (.long q2), .second, .val (.long q3), .second, .val (.long q4), .second, .val (.long q5), .second, .val (.int (1 : Int32)), .val (.ref f0), .val (.int (1 : Int32)), .val (.long ((1 : Int64) + ((q2 &&& (2147483647 : Int64)) - ((q2 &&& (2147483647 : Int64)) / (2147483647 : Int64)) * (2147483647 : Int64)))), .second, .val (.long (q4 &&& (4611686018427387903 : Int64))), .second, .val (.long (q5 &&& (4611686018427387903 : Int64))), .second, .val (.long (own_minL (q4 &&& (4611686018427387903 : Int64)) (q5 &&& (4611686018427387903 : Int64)))), .second, .val (.long (own_maxL (q4 &&& (4611686018427387903 : Int64)) (q5 &&& (4611686018427387903 : Int64)))), .second, .val (.ref b20), .val (.long ((1 : Int64) + ((q2 &&& (2147483647 : Int64)) - ((q2 &&& (2147483647 : Int64)) / (2147483647 : Int64)) * (2147483647 : Int64)))), .second, .unset, .unset] []))
    refine go (fun _ => XS.aload X21.here hx rfl (hb hby at_123) rfl rfl) ?_
    show Go _ p e below s _ _ _ (T21.setTop (mkF m 125 #[.val (.int p1), .val (.long q2), .second, .val (.long q3), .second, .val (.long q4), .second, .val (.long q5), .second, .val (.int (1 : Int32)), .val (.ref f0), .val (.int (1 : Int32)), .val (.long ((1 : Int64) + ((q2 &&& (2147483647 : Int64)) - ((q2 &&& (2147483647 : Int64)) / (2147483647 : Int64)) * (2147483647 : Int64)))), .second, .val (.long (q4 &&& (4611686018427387903 : Int64))), .second, .val (.long (q5 &&& (4611686018427387903 : Int64))), .second, .val (.long (own_minL (q4 &&& (4611686018427387903 : Int64)) (q5 &&& (4611686018427387903 : Int64)))), .second, .val (.long (own_maxL (q4 &&& (4611686018427387903 : Int64)) (q5 &&& (4611686018427387903 : Int64)))), .second, .val (.ref b20), .val (.long ((1 : Int64) + ((q2 &&& (2147483647 : Int64)) - ((q2 &&& (2147483647 : Int64)) / (2147483647 : Int64)) * (2147483647 : Int64)))), .second, .unset, .unset] [(.ref b20)]))
    refine go (fun _ => XS.iconst X21.here hx rfl (hb hby at_125)) ?_
    show Go _ p e below s _ _ _ (T21.setTop (mkF m 126 #[.val (.int p1), .val (.long q2), .second, .val (.long q3), .second, .val (.long q4), .second, .val (.long q5), .second, .val (.int (1 : Int32)), .val (.ref f0), .val (.int (1 : Int32)), .val (.long ((1 : Int64) + ((q2 &&& (2147483647 : Int64)) - ((q2 &&& (2147483647 : Int64)) / (2147483647 : Int64)) * (2147483647 : Int64)))), .second, .val (.long (q4 &&& (4611686018427387903 : Int64))), .second, .val (.long (q5 &&& (4611686018427387903 : Int64))), .second, .val (.long (own_minL (q4 &&& (4611686018427387903 : Int64)) (q5 &&& (4611686018427387903 : Int64)))), .second, .val (.long (own_maxL (q4 &&& (4611686018427387903 : Int64)) (q5 &&& (4611686018427387903 : Int64)))), .second, .val (.ref b20), .val (.long ((1 : Int64) + ((q2 &&& (2147483647 : Int64)) - ((q2 &&& (2147483647 : Int64)) / (2147483647 : Int64)) * (2147483647 : Int64)))), .second, .unset, .unset] [(.int (1 : Int32)), (.ref b20)]))
    refine go (fun _ => XS.iconst X21.here hx rfl (hb hby at_126)) ?_
    show Go _ p e below s _ _ _ (T21.setTop (mkF m 127 #[.val (.int p1), .val (.long q2), .second, .val (.long q3), .second, .val (.long q4), .second, .val (.long q5), .second, .val (.int (1 : Int32)), .val (.ref f0), .val (.int (1 : Int32)), .val (.long ((1 : Int64) + ((q2 &&& (2147483647 : Int64)) - ((q2 &&& (2147483647 : Int64)) / (2147483647 : Int64)) * (2147483647 : Int64)))), .second, .val (.long (q4 &&& (4611686018427387903 : Int64))), .second, .val (.long (q5 &&& (4611686018427387903 : Int64))), .second, .val (.long (own_minL (q4 &&& (4611686018427387903 : Int64)) (q5 &&& (4611686018427387903 : Int64)))), .second, .val (.long (own_maxL (q4 &&& (4611686018427387903 : Int64)) (q5 &&& (4611686018427387903 : Int64)))), .second, .val (.ref b20), .val (.long ((1 : Int64) + ((q2 &&& (2147483647 : Int64)) - ((q2 &&& (2147483647 : Int64)) / (2147483647 : Int64)) * (2147483647 : Int64)))), .second, .unset, .unset] [(.int (2 : Int32)), (.int (1 : Int32)), (.ref b20)]))
    refine go (fun _ => XS.lload X21.here hx rfl (hb hby at_127) rfl) ?_
    show Go _ p e below s _ _ _ (T21.setTop (mkF m 129 #[.val (.int p1), .val (.long q2), .second, .val (.long q3), .second, .val (.long q4), .second, .val (.long q5), .second, .val (.int (1 : Int32)), .val (.ref f0), .val (.int (1 : Int32)), .val (.long ((1 : Int64) + ((q2 &&& (2147483647 : Int64)) - ((q2 &&& (2147483647 : Int64)) / (2147483647 : Int64)) * (2147483647 : Int64)))), .second, .val (.long (q4 &&& (4611686018427387903 : Int64))), .second, .val (.long (q5 &&& (4611686018427387903 : Int64))), .second, .val (.long (own_minL (q4 &&& (4611686018427387903 : Int64)) (q5 &&& (4611686018427387903 : Int64)))), .second, .val (.long (own_maxL (q4 &&& (4611686018427387903 : Int64)) (q5 &&& (4611686018427387903 : Int64)))), .second, .val (.ref b20), .val (.long ((1 : Int64) + ((q2 &&& (2147483647 : Int64)) - ((q2 &&& (2147483647 : Int64)) / (2147483647 : Int64)) * (2147483647 : Int64)))), .second, .unset, .unset] [(.long (own_maxL (q4 &&& (4611686018427387903 : Int64)) (q5 &&& (4611686018427387903 : Int64)))), (.int (2 : Int32)), (.int (1 : Int32)), (.ref b20)]))
    have hc22 : T21.heap[b20]? = some { cls := cK, slots := #[.long ((1 : Int64) + ((q2 &&& (2147483647 : Int64)) - ((q2 &&& (2147483647 : Int64)) / (2147483647 : Int64)) * (2147483647 : Int64)))], vm := .none } := by rw [e21]; exact hcell
    obtain ⟨v22, s22, t22, T22, L22, X22, fr22, a22, -, ⟨q22, r22⟩, st22⟩ := Jvm.LamKit.callLamS (T := T21) X21 hx (host := "com/example/lim1/lim1/DelayModel") (xi := (⟨"com/example/lim1/lim1/DelayModel$Delays", "of", "(IIJ)J"⟩ : MethodName)) (y := (⟨"com/example/lim1/lim1/DelayModel", "lambda$delays$0", "(JIIJ)J"⟩ : MethodName)) (mc := 0) (ms := 0) (own_met l Z a0 hw ((1 : Int64) + ((q2 &&& (2147483647 : Int64)) - ((q2 &&& (2147483647 : Int64)) / (2147483647 : Int64)) * (2147483647 : Int64))) (1 : Int32) (2 : Int32) (own_maxL (q4 &&& (4611686018427387903 : Int64)) (q5 &&& (4611686018427387903 : Int64))) (T20.heap) n0 ZN20) (fun _ _ _ _ q => q) rfl rfl
      (fun w_ hw_ a' U hU => by obtain rfl := List.mem_singleton.mp hw_; exact mvT (wtrans hZ hU) (hw _ (List.mem_of_getElem? (i := 40) rfl))) (List.mem_singleton.mpr rfl) hown (mvT hZ (hw _ (List.mem_of_getElem? (i := 36) rfl))) (mvT hZ (hw _ (List.mem_of_getElem? (i := 37) rfl))) (mvT hZ (hw _ (List.mem_of_getElem? (i := 38) rfl))) (mvT hZ (hw _ (List.mem_of_getElem? (i := 40) rfl))) (mvT hZ (hw _ (List.mem_of_getElem? (i := 39) rfl))) (mvT hZ (hw _ (List.mem_of_getElem? (i := 1) rfl)))
      (by decide +kernel) (by decide +kernel) (by decide) mdS ⟨_, hc22, rfl, rfl⟩ own_fwd own_f7 own_f10 (g := (mkF m 129 #[.val (.int p1), .val (.long q2), .second, .val (.long q3), .second, .val (.long q4), .second, .val (.long q5), .second, .val (.int (1 : Int32)), .val (.ref f0), .val (.int (1 : Int32)), .val (.long ((1 : Int64) + ((q2 &&& (2147483647 : Int64)) - ((q2 &&& (2147483647 : Int64)) / (2147483647 : Int64)) * (2147483647 : Int64)))), .second, .val (.long (q4 &&& (4611686018427387903 : Int64))), .second, .val (.long (q5 &&& (4611686018427387903 : Int64))), .second, .val (.long (own_minL (q4 &&& (4611686018427387903 : Int64)) (q5 &&& (4611686018427387903 : Int64)))), .second, .val (.long (own_maxL (q4 &&& (4611686018427387903 : Int64)) (q5 &&& (4611686018427387903 : Int64)))), .second, .val (.ref b20), .val (.long ((1 : Int64) + ((q2 &&& (2147483647 : Int64)) - ((q2 &&& (2147483647 : Int64)) / (2147483647 : Int64)) * (2147483647 : Int64)))), .second, .unset, .unset] [(.long (own_maxL (q4 &&& (4611686018427387903 : Int64)) (q5 &&& (4611686018427387903 : Int64)))), (.int (2 : Int32)), (.int (1 : Int32)), (.ref b20)])) rfl (by rw [hml]; rfl) (argsL := [(.int (1 : Int32)), (.int (2 : Int32)), (.long (own_maxL (q4 &&& (4611686018427387903 : Int64)) (q5 &&& (4611686018427387903 : Int64))))]) (argsT := [(.long ((1 : Int64) + ((q2 &&& (2147483647 : Int64)) - ((q2 &&& (2147483647 : Int64)) / (2147483647 : Int64)) * (2147483647 : Int64)))), (.int (1 : Int32)), (.int (2 : Int32)), (.long (own_maxL (q4 &&& (4611686018427387903 : Int64)) (q5 &&& (4611686018427387903 : Int64))))]) (rest := []) (L0 := #[.val (.ref b20), .val (.int (1 : Int32)), .val (.int (2 : Int32)), .val (.long (own_maxL (q4 &&& (4611686018427387903 : Int64)) (q5 &&& (4611686018427387903 : Int64)))), .second]) (lenOf pd_0_3 rfl) (lenOf pd_0_4 rfl) rfl (hb hby at_129) (fun _ => rfl) rfl
      (fun U ck bl target hU hcd hUh hUw k => by
        refine XS.aloadN hU hx rfl (by rw [hcd]; exact own_f0) rfl rfl ?_
        refine Jvm.LamKit.getCap (args := #[]) hx hU hUw mdS own_cap (mvT hZ (hw _ (List.mem_of_getElem? (i := 35) rfl))) (by rw [hUh]; exact hc22) rfl rfl rfl rfl (by rw [hcd]; exact own_f1) ?_
        refine XS.iloadN hU hx rfl (by rw [hcd]; exact own_f4) rfl ?_
        refine XS.iloadN hU hx rfl (by rw [hcd]; exact own_f5) rfl ?_
        refine XS.lloadN hU hx rfl (by rw [hcd]; exact own_f6) rfl ?_
        exact k)
      (fun _ _ _ qq => Or.inr (Or.inl ⟨_, rfl, rfl, Outcome.returned.inj qq.1⟩)) (by decide) (by show 2 * 0 + _ + _ + _ ≤ _; decide) (by decide) (by decide) (fun U hU hUh => ⟨rfl, wtrans hZ hU, hUh.trans e21⟩)
    obtain rfl := Outcome.returned.inj q22
    have e22 := a22.trans r22
    have N22 := Fr.app N21 fr22
    refine go st22 ?_
    show Go _ p e below s _ _ _ (T22.setTop (mkF m 134 #[.val (.int p1), .val (.long q2), .second, .val (.long q3), .second, .val (.long q4), .second, .val (.long q5), .second, .val (.int (1 : Int32)), .val (.ref f0), .val (.int (1 : Int32)), .val (.long ((1 : Int64) + ((q2 &&& (2147483647 : Int64)) - ((q2 &&& (2147483647 : Int64)) / (2147483647 : Int64)) * (2147483647 : Int64)))), .second, .val (.long (q4 &&& (4611686018427387903 : Int64))), .second, .val (.long (q5 &&& (4611686018427387903 : Int64))), .second, .val (.long (own_minL (q4 &&& (4611686018427387903 : Int64)) (q5 &&& (4611686018427387903 : Int64)))), .second, .val (.long (own_maxL (q4 &&& (4611686018427387903 : Int64)) (q5 &&& (4611686018427387903 : Int64)))), .second, .val (.ref b20), .val (.long ((1 : Int64) + ((q2 &&& (2147483647 : Int64)) - ((q2 &&& (2147483647 : Int64)) / (2147483647 : Int64)) * (2147483647 : Int64)))), .second, .unset, .unset] [(.long ((1 : Int64) + ((q2 &&& (2147483647 : Int64)) - ((q2 &&& (2147483647 : Int64)) / (2147483647 : Int64)) * (2147483647 : Int64))))]))
    refine go (fun _ => XS.lstore X22.here hx rfl (hb hby at_134) rfl (l' := #[.val (.int p1), .val (.long q2), .second, .val (.long q3), .second, .val (.long q4), .second, .val (.long q5), .second, .val (.int (1 : Int32)), .val (.ref f0), .val (.int (1 : Int32)), .val (.long ((1 : Int64) + ((q2 &&& (2147483647 : Int64)) - ((q2 &&& (2147483647 : Int64)) / (2147483647 : Int64)) * (2147483647 : Int64)))), .second, .val (.long (q4 &&& (4611686018427387903 : Int64))), .second, .val (.long (q5 &&& (4611686018427387903 : Int64))), .second, .val (.long (own_minL (q4 &&& (4611686018427387903 : Int64)) (q5 &&& (4611686018427387903 : Int64)))), .second, .val (.long (own_maxL (q4 &&& (4611686018427387903 : Int64)) (q5 &&& (4611686018427387903 : Int64)))), .second, .val (.ref b20), .val (.long ((1 : Int64) + ((q2 &&& (2147483647 : Int64)) - ((q2 &&& (2147483647 : Int64)) / (2147483647 : Int64)) * (2147483647 : Int64)))), .second, .val (.long ((1 : Int64) + ((q2 &&& (2147483647 : Int64)) - ((q2 &&& (2147483647 : Int64)) / (2147483647 : Int64)) * (2147483647 : Int64)))), .second]) rfl) ?_
    show Go _ p e below s _ _ _ (T22.setTop (mkF m 136 #[.val (.int p1), .val (.long q2), .second, .val (.long q3), .second, .val (.long q4), .second, .val (.long q5), .second, .val (.int (1 : Int32)), .val (.ref f0), .val (.int (1 : Int32)), .val (.long ((1 : Int64) + ((q2 &&& (2147483647 : Int64)) - ((q2 &&& (2147483647 : Int64)) / (2147483647 : Int64)) * (2147483647 : Int64)))), .second, .val (.long (q4 &&& (4611686018427387903 : Int64))), .second, .val (.long (q5 &&& (4611686018427387903 : Int64))), .second, .val (.long (own_minL (q4 &&& (4611686018427387903 : Int64)) (q5 &&& (4611686018427387903 : Int64)))), .second, .val (.long (own_maxL (q4 &&& (4611686018427387903 : Int64)) (q5 &&& (4611686018427387903 : Int64)))), .second, .val (.ref b20), .val (.long ((1 : Int64) + ((q2 &&& (2147483647 : Int64)) - ((q2 &&& (2147483647 : Int64)) / (2147483647 : Int64)) * (2147483647 : Int64)))), .second, .val (.long ((1 : Int64) + ((q2 &&& (2147483647 : Int64)) - ((q2 &&& (2147483647 : Int64)) / (2147483647 : Int64)) * (2147483647 : Int64)))), .second] []))
    refine go (fun _ => XS.lload X22.here hx rfl (hb hby at_136) rfl) ?_
    show Go _ p e below s _ _ _ (T22.setTop (mkF m 138 #[.val (.int p1), .val (.long q2), .second, .val (.long q3), .second, .val (.long q4), .second, .val (.long q5), .second, .val (.int (1 : Int32)), .val (.ref f0), .val (.int (1 : Int32)), .val (.long ((1 : Int64) + ((q2 &&& (2147483647 : Int64)) - ((q2 &&& (2147483647 : Int64)) / (2147483647 : Int64)) * (2147483647 : Int64)))), .second, .val (.long (q4 &&& (4611686018427387903 : Int64))), .second, .val (.long (q5 &&& (4611686018427387903 : Int64))), .second, .val (.long (own_minL (q4 &&& (4611686018427387903 : Int64)) (q5 &&& (4611686018427387903 : Int64)))), .second, .val (.long (own_maxL (q4 &&& (4611686018427387903 : Int64)) (q5 &&& (4611686018427387903 : Int64)))), .second, .val (.ref b20), .val (.long ((1 : Int64) + ((q2 &&& (2147483647 : Int64)) - ((q2 &&& (2147483647 : Int64)) / (2147483647 : Int64)) * (2147483647 : Int64)))), .second, .val (.long ((1 : Int64) + ((q2 &&& (2147483647 : Int64)) - ((q2 &&& (2147483647 : Int64)) / (2147483647 : Int64)) * (2147483647 : Int64)))), .second] [(.long ((1 : Int64) + ((q2 &&& (2147483647 : Int64)) - ((q2 &&& (2147483647 : Int64)) / (2147483647 : Int64)) * (2147483647 : Int64))))]))
    refine go (fun _ => XS.lconst X22.here hx rfl (hb hby at_138)) ?_
    show Go _ p e below s _ _ _ (T22.setTop (mkF m 139 #[.val (.int p1), .val (.long q2), .second, .val (.long q3), .second, .val (.long q4), .second, .val (.long q5), .second, .val (.int (1 : Int32)), .val (.ref f0), .val (.int (1 : Int32)), .val (.long ((1 : Int64) + ((q2 &&& (2147483647 : Int64)) - ((q2 &&& (2147483647 : Int64)) / (2147483647 : Int64)) * (2147483647 : Int64)))), .second, .val (.long (q4 &&& (4611686018427387903 : Int64))), .second, .val (.long (q5 &&& (4611686018427387903 : Int64))), .second, .val (.long (own_minL (q4 &&& (4611686018427387903 : Int64)) (q5 &&& (4611686018427387903 : Int64)))), .second, .val (.long (own_maxL (q4 &&& (4611686018427387903 : Int64)) (q5 &&& (4611686018427387903 : Int64)))), .second, .val (.ref b20), .val (.long ((1 : Int64) + ((q2 &&& (2147483647 : Int64)) - ((q2 &&& (2147483647 : Int64)) / (2147483647 : Int64)) * (2147483647 : Int64)))), .second, .val (.long ((1 : Int64) + ((q2 &&& (2147483647 : Int64)) - ((q2 &&& (2147483647 : Int64)) / (2147483647 : Int64)) * (2147483647 : Int64)))), .second] [(.long (0 : Int64)), (.long ((1 : Int64) + ((q2 &&& (2147483647 : Int64)) - ((q2 &&& (2147483647 : Int64)) / (2147483647 : Int64)) * (2147483647 : Int64))))]))
    refine go (fun _ => XS.lcmp X22.here hx rfl (hb hby at_139) rfl) ?_
    show Go _ p e below s _ _ _ (T22.setTop (mkF m 140 #[.val (.int p1), .val (.long q2), .second, .val (.long q3), .second, .val (.long q4), .second, .val (.long q5), .second, .val (.int (1 : Int32)), .val (.ref f0), .val (.int (1 : Int32)), .val (.long ((1 : Int64) + ((q2 &&& (2147483647 : Int64)) - ((q2 &&& (2147483647 : Int64)) / (2147483647 : Int64)) * (2147483647 : Int64)))), .second, .val (.long (q4 &&& (4611686018427387903 : Int64))), .second, .val (.long (q5 &&& (4611686018427387903 : Int64))), .second, .val (.long (own_minL (q4 &&& (4611686018427387903 : Int64)) (q5 &&& (4611686018427387903 : Int64)))), .second, .val (.long (own_maxL (q4 &&& (4611686018427387903 : Int64)) (q5 &&& (4611686018427387903 : Int64)))), .second, .val (.ref b20), .val (.long ((1 : Int64) + ((q2 &&& (2147483647 : Int64)) - ((q2 &&& (2147483647 : Int64)) / (2147483647 : Int64)) * (2147483647 : Int64)))), .second, .val (.long ((1 : Int64) + ((q2 &&& (2147483647 : Int64)) - ((q2 &&& (2147483647 : Int64)) / (2147483647 : Int64)) * (2147483647 : Int64)))), .second] [(.int (lcmpW ((1 : Int64) + ((q2 &&& (2147483647 : Int64)) - ((q2 &&& (2147483647 : Int64)) / (2147483647 : Int64)) * (2147483647 : Int64))) (0 : Int64)))]))
    refine go (fun _ => XS.ifNo X22.here hx rfl (hb hby at_140) rfl ((if0 _ _).trans (tlt ((lw_gt ((1 : Int64) + ((q2 &&& (2147483647 : Int64)) - ((q2 &&& (2147483647 : Int64)) / (2147483647 : Int64)) * (2147483647 : Int64))) (0 : Int64)).mpr (own_pos q2))).2.2.2)) ?_
    show Go _ p e below s _ _ _ (T22.setTop (mkF m 143 #[.val (.int p1), .val (.long q2), .second, .val (.long q3), .second, .val (.long q4), .second, .val (.long q5), .second, .val (.int (1 : Int32)), .val (.ref f0), .val (.int (1 : Int32)), .val (.long ((1 : Int64) + ((q2 &&& (2147483647 : Int64)) - ((q2 &&& (2147483647 : Int64)) / (2147483647 : Int64)) * (2147483647 : Int64)))), .second, .val (.long (q4 &&& (4611686018427387903 : Int64))), .second, .val (.long (q5 &&& (4611686018427387903 : Int64))), .second, .val (.long (own_minL (q4 &&& (4611686018427387903 : Int64)) (q5 &&& (4611686018427387903 : Int64)))), .second, .val (.long (own_maxL (q4 &&& (4611686018427387903 : Int64)) (q5 &&& (4611686018427387903 : Int64)))), .second, .val (.ref b20), .val (.long ((1 : Int64) + ((q2 &&& (2147483647 : Int64)) - ((q2 &&& (2147483647 : Int64)) / (2147483647 : Int64)) * (2147483647 : Int64)))), .second, .val (.long ((1 : Int64) + ((q2 &&& (2147483647 : Int64)) - ((q2 &&& (2147483647 : Int64)) / (2147483647 : Int64)) * (2147483647 : Int64)))), .second] []))
    refine go (fun _ => XS.lload X22.here hx rfl (hb hby at_143) rfl) ?_
    show Go _ p e below s _ _ _ (T22.setTop (mkF m 145 #[.val (.int p1), .val (.long q2), .second, .val (.long q3), .second, .val (.long q4), .second, .val (.long q5), .second, .val (.int (1 : Int32)), .val (.ref f0), .val (.int (1 : Int32)), .val (.long ((1 : Int64) + ((q2 &&& (2147483647 : Int64)) - ((q2 &&& (2147483647 : Int64)) / (2147483647 : Int64)) * (2147483647 : Int64)))), .second, .val (.long (q4 &&& (4611686018427387903 : Int64))), .second, .val (.long (q5 &&& (4611686018427387903 : Int64))), .second, .val (.long (own_minL (q4 &&& (4611686018427387903 : Int64)) (q5 &&& (4611686018427387903 : Int64)))), .second, .val (.long (own_maxL (q4 &&& (4611686018427387903 : Int64)) (q5 &&& (4611686018427387903 : Int64)))), .second, .val (.ref b20), .val (.long ((1 : Int64) + ((q2 &&& (2147483647 : Int64)) - ((q2 &&& (2147483647 : Int64)) / (2147483647 : Int64)) * (2147483647 : Int64)))), .second, .val (.long ((1 : Int64) + ((q2 &&& (2147483647 : Int64)) - ((q2 &&& (2147483647 : Int64)) / (2147483647 : Int64)) * (2147483647 : Int64)))), .second] [(.long ((1 : Int64) + ((q2 &&& (2147483647 : Int64)) - ((q2 &&& (2147483647 : Int64)) / (2147483647 : Int64)) * (2147483647 : Int64))))]))
    refine go (fun _ => XS.lload X22.here hx rfl (hb hby at_145) rfl) ?_
    show Go _ p e below s _ _ _ (T22.setTop (mkF m 147 #[.val (.int p1), .val (.long q2), .second, .val (.long q3), .second, .val (.long q4), .second, .val (.long q5), .second, .val (.int (1 : Int32)), .val (.ref f0), .val (.int (1 : Int32)), .val (.long ((1 : Int64) + ((q2 &&& (2147483647 : Int64)) - ((q2 &&& (2147483647 : Int64)) / (2147483647 : Int64)) * (2147483647 : Int64)))), .second, .val (.long (q4 &&& (4611686018427387903 : Int64))), .second, .val (.long (q5 &&& (4611686018427387903 : Int64))), .second, .val (.long (own_minL (q4 &&& (4611686018427387903 : Int64)) (q5 &&& (4611686018427387903 : Int64)))), .second, .val (.long (own_maxL (q4 &&& (4611686018427387903 : Int64)) (q5 &&& (4611686018427387903 : Int64)))), .second, .val (.ref b20), .val (.long ((1 : Int64) + ((q2 &&& (2147483647 : Int64)) - ((q2 &&& (2147483647 : Int64)) / (2147483647 : Int64)) * (2147483647 : Int64)))), .second, .val (.long ((1 : Int64) + ((q2 &&& (2147483647 : Int64)) - ((q2 &&& (2147483647 : Int64)) / (2147483647 : Int64)) * (2147483647 : Int64)))), .second] [(.long ((1 : Int64) + ((q2 &&& (2147483647 : Int64)) - ((q2 &&& (2147483647 : Int64)) / (2147483647 : Int64)) * (2147483647 : Int64)))), (.long ((1 : Int64) + ((q2 &&& (2147483647 : Int64)) - ((q2 &&& (2147483647 : Int64)) / (2147483647 : Int64)) * (2147483647 : Int64))))]))
    refine go (fun _ => XS.lcmp X22.here hx rfl (hb hby at_147) rfl) ?_
    show Go _ p e below s _ _ _ (T22.setTop (mkF m 148 #[.val (.int p1), .val (.long q2), .second, .val (.long q3), .second, .val (.long q4), .second, .val (.long q5), .second, .val (.int (1 : Int32)), .val (.ref f0), .val (.int (1 : Int32)), .val (.long ((1 : Int64) + ((q2 &&& (2147483647 : Int64)) - ((q2 &&& (2147483647 : Int64)) / (2147483647 : Int64)) * (2147483647 : Int64)))), .second, .val (.long (q4 &&& (4611686018427387903 : Int64))), .second, .val (.long (q5 &&& (4611686018427387903 : Int64))), .second, .val (.long (own_minL (q4 &&& (4611686018427387903 : Int64)) (q5 &&& (4611686018427387903 : Int64)))), .second, .val (.long (own_maxL (q4 &&& (4611686018427387903 : Int64)) (q5 &&& (4611686018427387903 : Int64)))), .second, .val (.ref b20), .val (.long ((1 : Int64) + ((q2 &&& (2147483647 : Int64)) - ((q2 &&& (2147483647 : Int64)) / (2147483647 : Int64)) * (2147483647 : Int64)))), .second, .val (.long ((1 : Int64) + ((q2 &&& (2147483647 : Int64)) - ((q2 &&& (2147483647 : Int64)) / (2147483647 : Int64)) * (2147483647 : Int64)))), .second] [(.int (lcmpW ((1 : Int64) + ((q2 &&& (2147483647 : Int64)) - ((q2 &&& (2147483647 : Int64)) / (2147483647 : Int64)) * (2147483647 : Int64))) ((1 : Int64) + ((q2 &&& (2147483647 : Int64)) - ((q2 &&& (2147483647 : Int64)) / (2147483647 : Int64)) * (2147483647 : Int64)))))]))
    refine go (fun _ => XS.ifNo X22.here hx rfl (hb hby at_148) rfl ((if0 _ _).trans (flt (fun qq => Int64.lt_irrefl ((lw_gt ((1 : Int64) + ((q2 &&& (2147483647 : Int64)) - ((q2 &&& (2147483647 : Int64)) / (2147483647 : Int64)) * (2147483647 : Int64))) ((1 : Int64) + ((q2 &&& (2147483647 : Int64)) - ((q2 &&& (2147483647 : Int64)) / (2147483647 : Int64)) * (2147483647 : Int64)))).mp qq))).2.2.1)) ?_
    show Go _ p e below s _ _ _ (T22.setTop (mkF m 151 #[.val (.int p1), .val (.long q2), .second, .val (.long q3), .second, .val (.long q4), .second, .val (.long q5), .second, .val (.int (1 : Int32)), .val (.ref f0), .val (.int (1 : Int32)), .val (.long ((1 : Int64) + ((q2 &&& (2147483647 : Int64)) - ((q2 &&& (2147483647 : Int64)) / (2147483647 : Int64)) * (2147483647 : Int64)))), .second, .val (.long (q4 &&& (4611686018427387903 : Int64))), .second, .val (.long (q5 &&& (4611686018427387903 : Int64))), .second, .val (.long (own_minL (q4 &&& (4611686018427387903 : Int64)) (q5 &&& (4611686018427387903 : Int64)))), .second, .val (.long (own_maxL (q4 &&& (4611686018427387903 : Int64)) (q5 &&& (4611686018427387903 : Int64)))), .second, .val (.ref b20), .val (.long ((1 : Int64) + ((q2 &&& (2147483647 : Int64)) - ((q2 &&& (2147483647 : Int64)) / (2147483647 : Int64)) * (2147483647 : Int64)))), .second, .val (.long ((1 : Int64) + ((q2 &&& (2147483647 : Int64)) - ((q2 &&& (2147483647 : Int64)) / (2147483647 : Int64)) * (2147483647 : Int64)))), .second] []))
    refine go (fun _ => XS.lload X22.here hx rfl (hb hby at_151) rfl) ?_
    show Go _ p e below s _ _ _ (T22.setTop (mkF m 153 #[.val (.int p1), .val (.long q2), .second, .val (.long q3), .second, .val (.long q4), .second, .val (.long q5), .second, .val (.int (1 : Int32)), .val (.ref f0), .val (.int (1 : Int32)), .val (.long ((1 : Int64) + ((q2 &&& (2147483647 : Int64)) - ((q2 &&& (2147483647 : Int64)) / (2147483647 : Int64)) * (2147483647 : Int64)))), .second, .val (.long (q4 &&& (4611686018427387903 : Int64))), .second, .val (.long (q5 &&& (4611686018427387903 : Int64))), .second, .val (.long (own_minL (q4 &&& (4611686018427387903 : Int64)) (q5 &&& (4611686018427387903 : Int64)))), .second, .val (.long (own_maxL (q4 &&& (4611686018427387903 : Int64)) (q5 &&& (4611686018427387903 : Int64)))), .second, .val (.ref b20), .val (.long ((1 : Int64) + ((q2 &&& (2147483647 : Int64)) - ((q2 &&& (2147483647 : Int64)) / (2147483647 : Int64)) * (2147483647 : Int64)))), .second, .val (.long ((1 : Int64) + ((q2 &&& (2147483647 : Int64)) - ((q2 &&& (2147483647 : Int64)) / (2147483647 : Int64)) * (2147483647 : Int64)))), .second] [(.long ((1 : Int64) + ((q2 &&& (2147483647 : Int64)) - ((q2 &&& (2147483647 : Int64)) / (2147483647 : Int64)) * (2147483647 : Int64))))]))
    refine go (fun _ => XS.lconst X22.here hx rfl (hb hby at_153)) ?_
    show Go _ p e below s _ _ _ (T22.setTop (mkF m 154 #[.val (.int p1), .val (.long q2), .second, .val (.long q3), .second, .val (.long q4), .second, .val (.long q5), .second, .val (.int (1 : Int32)), .val (.ref f0), .val (.int (1 : Int32)), .val (.long ((1 : Int64) + ((q2 &&& (2147483647 : Int64)) - ((q2 &&& (2147483647 : Int64)) / (2147483647 : Int64)) * (2147483647 : Int64)))), .second, .val (.long (q4 &&& (4611686018427387903 : Int64))), .second, .val (.long (q5 &&& (4611686018427387903 : Int64))), .second, .val (.long (own_minL (q4 &&& (4611686018427387903 : Int64)) (q5 &&& (4611686018427387903 : Int64)))), .second, .val (.long (own_maxL (q4 &&& (4611686018427387903 : Int64)) (q5 &&& (4611686018427387903 : Int64)))), .second, .val (.ref b20), .val (.long ((1 : Int64) + ((q2 &&& (2147483647 : Int64)) - ((q2 &&& (2147483647 : Int64)) / (2147483647 : Int64)) * (2147483647 : Int64)))), .second, .val (.long ((1 : Int64) + ((q2 &&& (2147483647 : Int64)) - ((q2 &&& (2147483647 : Int64)) / (2147483647 : Int64)) * (2147483647 : Int64)))), .second] [(.long (0 : Int64)), (.long ((1 : Int64) + ((q2 &&& (2147483647 : Int64)) - ((q2 &&& (2147483647 : Int64)) / (2147483647 : Int64)) * (2147483647 : Int64))))]))
    refine go (fun _ => XS.lcmp X22.here hx rfl (hb hby at_154) rfl) ?_
    show Go _ p e below s _ _ _ (T22.setTop (mkF m 155 #[.val (.int p1), .val (.long q2), .second, .val (.long q3), .second, .val (.long q4), .second, .val (.long q5), .second, .val (.int (1 : Int32)), .val (.ref f0), .val (.int (1 : Int32)), .val (.long ((1 : Int64) + ((q2 &&& (2147483647 : Int64)) - ((q2 &&& (2147483647 : Int64)) / (2147483647 : Int64)) * (2147483647 : Int64)))), .second, .val (.long (q4 &&& (4611686018427387903 : Int64))), .second, .val (.long (q5 &&& (4611686018427387903 : Int64))), .second, .val (.long (own_minL (q4 &&& (4611686018427387903 : Int64)) (q5 &&& (4611686018427387903 : Int64)))), .second, .val (.long (own_maxL (q4 &&& (4611686018427387903 : Int64)) (q5 &&& (4611686018427387903 : Int64)))), .second, .val (.ref b20), .val (.long ((1 : Int64) + ((q2 &&& (2147483647 : Int64)) - ((q2 &&& (2147483647 : Int64)) / (2147483647 : Int64)) * (2147483647 : Int64)))), .second, .val (.long ((1 : Int64) + ((q2 &&& (2147483647 : Int64)) - ((q2 &&& (2147483647 : Int64)) / (2147483647 : Int64)) * (2147483647 : Int64)))), .second] [(.int (lcmpW ((1 : Int64) + ((q2 &&& (2147483647 : Int64)) - ((q2 &&& (2147483647 : Int64)) / (2147483647 : Int64)) * (2147483647 : Int64))) (0 : Int64)))]))
    refine go (fun _ => XS.ifNo X22.here hx rfl (hb hby at_155) rfl ((if0 _ _).trans (tlt ((lw_gt ((1 : Int64) + ((q2 &&& (2147483647 : Int64)) - ((q2 &&& (2147483647 : Int64)) / (2147483647 : Int64)) * (2147483647 : Int64))) (0 : Int64)).mpr (own_pos q2))).2.2.2)) ?_
    show Go _ p e below s _ _ _ (T22.setTop (mkF m 158 #[.val (.int p1), .val (.long q2), .second, .val (.long q3), .second, .val (.long q4), .second, .val (.long q5), .second, .val (.int (1 : Int32)), .val (.ref f0), .val (.int (1 : Int32)), .val (.long ((1 : Int64) + ((q2 &&& (2147483647 : Int64)) - ((q2 &&& (2147483647 : Int64)) / (2147483647 : Int64)) * (2147483647 : Int64)))), .second, .val (.long (q4 &&& (4611686018427387903 : Int64))), .second, .val (.long (q5 &&& (4611686018427387903 : Int64))), .second, .val (.long (own_minL (q4 &&& (4611686018427387903 : Int64)) (q5 &&& (4611686018427387903 : Int64)))), .second, .val (.long (own_maxL (q4 &&& (4611686018427387903 : Int64)) (q5 &&& (4611686018427387903 : Int64)))), .second, .val (.ref b20), .val (.long ((1 : Int64) + ((q2 &&& (2147483647 : Int64)) - ((q2 &&& (2147483647 : Int64)) / (2147483647 : Int64)) * (2147483647 : Int64)))), .second, .val (.long ((1 : Int64) + ((q2 &&& (2147483647 : Int64)) - ((q2 &&& (2147483647 : Int64)) / (2147483647 : Int64)) * (2147483647 : Int64)))), .second] []))
    refine go (fun _ => XS.lload X22.here hx rfl (hb hby at_158) rfl) ?_
    show Go _ p e below s _ _ _ (T22.setTop (mkF m 160 #[.val (.int p1), .val (.long q2), .second, .val (.long q3), .second, .val (.long q4), .second, .val (.long q5), .second, .val (.int (1 : Int32)), .val (.ref f0), .val (.int (1 : Int32)), .val (.long ((1 : Int64) + ((q2 &&& (2147483647 : Int64)) - ((q2 &&& (2147483647 : Int64)) / (2147483647 : Int64)) * (2147483647 : Int64)))), .second, .val (.long (q4 &&& (4611686018427387903 : Int64))), .second, .val (.long (q5 &&& (4611686018427387903 : Int64))), .second, .val (.long (own_minL (q4 &&& (4611686018427387903 : Int64)) (q5 &&& (4611686018427387903 : Int64)))), .second, .val (.long (own_maxL (q4 &&& (4611686018427387903 : Int64)) (q5 &&& (4611686018427387903 : Int64)))), .second, .val (.ref b20), .val (.long ((1 : Int64) + ((q2 &&& (2147483647 : Int64)) - ((q2 &&& (2147483647 : Int64)) / (2147483647 : Int64)) * (2147483647 : Int64)))), .second, .val (.long ((1 : Int64) + ((q2 &&& (2147483647 : Int64)) - ((q2 &&& (2147483647 : Int64)) / (2147483647 : Int64)) * (2147483647 : Int64)))), .second] [(.long ((1 : Int64) + ((q2 &&& (2147483647 : Int64)) - ((q2 &&& (2147483647 : Int64)) / (2147483647 : Int64)) * (2147483647 : Int64))))]))
    refine go (fun _ => XS.lload X22.here hx rfl (hb hby at_160) rfl) ?_
    show Go _ p e below s _ _ _ (T22.setTop (mkF m 162 #[.val (.int p1), .val (.long q2), .second, .val (.long q3), .second, .val (.long q4), .second, .val (.long q5), .second, .val (.int (1 : Int32)), .val (.ref f0), .val (.int (1 : Int32)), .val (.long ((1 : Int64) + ((q2 &&& (2147483647 : Int64)) - ((q2 &&& (2147483647 : Int64)) / (2147483647 : Int64)) * (2147483647 : Int64)))), .second, .val (.long (q4 &&& (4611686018427387903 : Int64))), .second, .val (.long (q5 &&& (4611686018427387903 : Int64))), .second, .val (.long (own_minL (q4 &&& (4611686018427387903 : Int64)) (q5 &&& (4611686018427387903 : Int64)))), .second, .val (.long (own_maxL (q4 &&& (4611686018427387903 : Int64)) (q5 &&& (4611686018427387903 : Int64)))), .second, .val (.ref b20), .val (.long ((1 : Int64) + ((q2 &&& (2147483647 : Int64)) - ((q2 &&& (2147483647 : Int64)) / (2147483647 : Int64)) * (2147483647 : Int64)))), .second, .val (.long ((1 : Int64) + ((q2 &&& (2147483647 : Int64)) - ((q2 &&& (2147483647 : Int64)) / (2147483647 : Int64)) * (2147483647 : Int64)))), .second] [(.long ((1 : Int64) + ((q2 &&& (2147483647 : Int64)) - ((q2 &&& (2147483647 : Int64)) / (2147483647 : Int64)) * (2147483647 : Int64)))), (.long ((1 : Int64) + ((q2 &&& (2147483647 : Int64)) - ((q2 &&& (2147483647 : Int64)) / (2147483647 : Int64)) * (2147483647 : Int64))))]))
    refine go (fun _ => XS.lcmp X22.here hx rfl (hb hby at_162) rfl) ?_
    show Go _ p e below s _ _ _ (T22.setTop (mkF m 163 #[.val (.int p1), .val (.long q2), .second, .val (.long q3), .second, .val (.long q4), .second, .val (.long q5), .second, .val (.int (1 : Int32)), .val (.ref f0), .val (.int (1 : Int32)), .val (.long ((1 : Int64) + ((q2 &&& (2147483647 : Int64)) - ((q2 &&& (2147483647 : Int64)) / (2147483647 : Int64)) * (2147483647 : Int64)))), .second, .val (.long (q4 &&& (4611686018427387903 : Int64))), .second, .val (.long (q5 &&& (4611686018427387903 : Int64))), .second, .val (.long (own_minL (q4 &&& (4611686018427387903 : Int64)) (q5 &&& (4611686018427387903 : Int64)))), .second, .val (.long (own_maxL (q4 &&& (4611686018427387903 : Int64)) (q5 &&& (4611686018427387903 : Int64)))), .second, .val (.ref b20), .val (.long ((1 : Int64) + ((q2 &&& (2147483647 : Int64)) - ((q2 &&& (2147483647 : Int64)) / (2147483647 : Int64)) * (2147483647 : Int64)))), .second, .val (.long ((1 : Int64) + ((q2 &&& (2147483647 : Int64)) - ((q2 &&& (2147483647 : Int64)) / (2147483647 : Int64)) * (2147483647 : Int64)))), .second] [(.int (lcmpW ((1 : Int64) + ((q2 &&& (2147483647 : Int64)) - ((q2 &&& (2147483647 : Int64)) / (2147483647 : Int64)) * (2147483647 : Int64))) ((1 : Int64) + ((q2 &&& (2147483647 : Int64)) - ((q2 &&& (2147483647 : Int64)) / (2147483647 : Int64)) * (2147483647 : Int64)))))]))
    refine go (fun _ => XS.ifYes X22.here hx rfl (pc0 := 163) (pc' := 168) rfl (hb hby at_163) rfl ((if0 _ _).trans (flt (fun qq => Int64.lt_irrefl ((lw_gt ((1 : Int64) + ((q2 &&& (2147483647 : Int64)) - ((q2 &&& (2147483647 : Int64)) / (2147483647 : Int64)) * (2147483647 : Int64))) ((1 : Int64) + ((q2 &&& (2147483647 : Int64)) - ((q2 &&& (2147483647 : Int64)) / (2147483647 : Int64)) * (2147483647 : Int64)))).mp qq))).2.2.2) (by decide) (by decide)) ?_
    show Go _ p e below s _ _ _ (T22.setTop (mkF m 168 #[.val (.int p1), .val (.long q2), .second, .val (.long q3), .second, .val (.long q4), .second, .val (.long q5), .second, .val (.int (1 : Int32)), .val (.ref f0), .val (.int (1 : Int32)), .val (.long ((1 : Int64) + ((q2 &&& (2147483647 : Int64)) - ((q2 &&& (2147483647 : Int64)) / (2147483647 : Int64)) * (2147483647 : Int64)))), .second, .val (.long (q4 &&& (4611686018427387903 : Int64))), .second, .val (.long (q5 &&& (4611686018427387903 : Int64))), .second, .val (.long (own_minL (q4 &&& (4611686018427387903 : Int64)) (q5 &&& (4611686018427387903 : Int64)))), .second, .val (.long (own_maxL (q4 &&& (4611686018427387903 : Int64)) (q5 &&& (4611686018427387903 : Int64)))), .second, .val (.ref b20), .val (.long ((1 : Int64) + ((q2 &&& (2147483647 : Int64)) - ((q2 &&& (2147483647 : Int64)) / (2147483647 : Int64)) * (2147483647 : Int64)))), .second, .val (.long ((1 : Int64) + ((q2 &&& (2147483647 : Int64)) - ((q2 &&& (2147483647 : Int64)) / (2147483647 : Int64)) * (2147483647 : Int64)))), .second] []))
    refine go (fun _ => XS.lload X22.here hx rfl (hb hby at_168) rfl) ?_
    show Go _ p e below s _ _ _ (T22.setTop (mkF m 170 #[.val (.int p1), .val (.long q2), .second, .val (.long q3), .second, .val (.long q4), .second, .val (.long q5), .second, .val (.int (1 : Int32)), .val (.ref f0), .val (.int (1 : Int32)), .val (.long ((1 : Int64) + ((q2 &&& (2147483647 : Int64)) - ((q2 &&& (2147483647 : Int64)) / (2147483647 : Int64)) * (2147483647 : Int64)))), .second, .val (.long (q4 &&& (4611686018427387903 : Int64))), .second, .val (.long (q5 &&& (4611686018427387903 : Int64))), .second, .val (.long (own_minL (q4 &&& (4611686018427387903 : Int64)) (q5 &&& (4611686018427387903 : Int64)))), .second, .val (.long (own_maxL (q4 &&& (4611686018427387903 : Int64)) (q5 &&& (4611686018427387903 : Int64)))), .second, .val (.ref b20), .val (.long ((1 : Int64) + ((q2 &&& (2147483647 : Int64)) - ((q2 &&& (2147483647 : Int64)) / (2147483647 : Int64)) * (2147483647 : Int64)))), .second, .val (.long ((1 : Int64) + ((q2 &&& (2147483647 : Int64)) - ((q2 &&& (2147483647 : Int64)) / (2147483647 : Int64)) * (2147483647 : Int64)))), .second] [(.long (own_minL (q4 &&& (4611686018427387903 : Int64)) (q5 &&& (4611686018427387903 : Int64))))]))
    refine go (fun _ => XS.lload X22.here hx rfl (hb hby at_170) rfl) ?_
    show Go _ p e below s _ _ _ (T22.setTop (mkF m 172 #[.val (.int p1), .val (.long q2), .second, .val (.long q3), .second, .val (.long q4), .second, .val (.long q5), .second, .val (.int (1 : Int32)), .val (.ref f0), .val (.int (1 : Int32)), .val (.long ((1 : Int64) + ((q2 &&& (2147483647 : Int64)) - ((q2 &&& (2147483647 : Int64)) / (2147483647 : Int64)) * (2147483647 : Int64)))), .second, .val (.long (q4 &&& (4611686018427387903 : Int64))), .second, .val (.long (q5 &&& (4611686018427387903 : Int64))), .second, .val (.long (own_minL (q4 &&& (4611686018427387903 : Int64)) (q5 &&& (4611686018427387903 : Int64)))), .second, .val (.long (own_maxL (q4 &&& (4611686018427387903 : Int64)) (q5 &&& (4611686018427387903 : Int64)))), .second, .val (.ref b20), .val (.long ((1 : Int64) + ((q2 &&& (2147483647 : Int64)) - ((q2 &&& (2147483647 : Int64)) / (2147483647 : Int64)) * (2147483647 : Int64)))), .second, .val (.long ((1 : Int64) + ((q2 &&& (2147483647 : Int64)) - ((q2 &&& (2147483647 : Int64)) / (2147483647 : Int64)) * (2147483647 : Int64)))), .second] [(.long ((1 : Int64) + ((q2 &&& (2147483647 : Int64)) - ((q2 &&& (2147483647 : Int64)) / (2147483647 : Int64)) * (2147483647 : Int64)))), (.long (own_minL (q4 &&& (4611686018427387903 : Int64)) (q5 &&& (4611686018427387903 : Int64))))]))
    refine go (fun _ => XS.ladd X22.here hx rfl (hb hby at_172) rfl) ?_
    show Go _ p e below s _ _ _ (T22.setTop (mkF m 173 #[.val (.int p1), .val (.long q2), .second, .val (.long q3), .second, .val (.long q4), .second, .val (.long q5), .second, .val (.int (1 : Int32)), .val (.ref f0), .val (.int (1 : Int32)), .val (.long ((1 : Int64) + ((q2 &&& (2147483647 : Int64)) - ((q2 &&& (2147483647 : Int64)) / (2147483647 : Int64)) * (2147483647 : Int64)))), .second, .val (.long (q4 &&& (4611686018427387903 : Int64))), .second, .val (.long (q5 &&& (4611686018427387903 : Int64))), .second, .val (.long (own_minL (q4 &&& (4611686018427387903 : Int64)) (q5 &&& (4611686018427387903 : Int64)))), .second, .val (.long (own_maxL (q4 &&& (4611686018427387903 : Int64)) (q5 &&& (4611686018427387903 : Int64)))), .second, .val (.ref b20), .val (.long ((1 : Int64) + ((q2 &&& (2147483647 : Int64)) - ((q2 &&& (2147483647 : Int64)) / (2147483647 : Int64)) * (2147483647 : Int64)))), .second, .val (.long ((1 : Int64) + ((q2 &&& (2147483647 : Int64)) - ((q2 &&& (2147483647 : Int64)) / (2147483647 : Int64)) * (2147483647 : Int64)))), .second] [(.long ((own_minL (q4 &&& (4611686018427387903 : Int64)) (q5 &&& (4611686018427387903 : Int64))) + ((1 : Int64) + ((q2 &&& (2147483647 : Int64)) - ((q2 &&& (2147483647 : Int64)) / (2147483647 : Int64)) * (2147483647 : Int64)))))]))
    refine go (fun _ => XS.lload X22.here hx rfl (hb hby at_173) rfl) ?_
    show Go _ p e below s _ _ _ (T22.setTop (mkF m 175 #[.val (.int p1), .val (.long q2), .second, .val (.long q3), .second, .val (.long q4), .second, .val (.long q5), .second, .val (.int (1 : Int32)), .val (.ref f0), .val (.int (1 : Int32)), .val (.long ((1 : Int64) + ((q2 &&& (2147483647 : Int64)) - ((q2 &&& (2147483647 : Int64)) / (2147483647 : Int64)) * (2147483647 : Int64)))), .second, .val (.long (q4 &&& (4611686018427387903 : Int64))), .second, .val (.long (q5 &&& (4611686018427387903 : Int64))), .second, .val (.long (own_minL (q4 &&& (4611686018427387903 : Int64)) (q5 &&& (4611686018427387903 : Int64)))), .second, .val (.long (own_maxL (q4 &&& (4611686018427387903 : Int64)) (q5 &&& (4611686018427387903 : Int64)))), .second, .val (.ref b20), .val (.long ((1 : Int64) + ((q2 &&& (2147483647 : Int64)) - ((q2 &&& (2147483647 : Int64)) / (2147483647 : Int64)) * (2147483647 : Int64)))), .second, .val (.long ((1 : Int64) + ((q2 &&& (2147483647 : Int64)) - ((q2 &&& (2147483647 : Int64)) / (2147483647 : Int64)) * (2147483647 : Int64)))), .second] [(.long (own_maxL (q4 &&& (4611686018427387903 : Int64)) (q5 &&& (4611686018427387903 : Int64)))), (.long ((own_minL (q4 &&& (4611686018427387903 : Int64)) (q5 &&& (4611686018427387903 : Int64))) + ((1 : Int64) + ((q2 &&& (2147483647 : Int64)) - ((q2 &&& (2147483647 : Int64)) / (2147483647 : Int64)) * (2147483647 : Int64)))))]))
    refine go (fun _ => XS.lload X22.here hx rfl (hb hby at_175) rfl) ?_
    show Go _ p e below s _ _ _ (T22.setTop (mkF m 177 #[.val (.int p1), .val (.long q2), .second, .val (.long q3), .second, .val (.long q4), .second, .val (.long q5), .second, .val (.int (1 : Int32)), .val (.ref f0), .val (.int (1 : Int32)), .val (.long ((1 : Int64) + ((q2 &&& (2147483647 : Int64)) - ((q2 &&& (2147483647 : Int64)) / (2147483647 : Int64)) * (2147483647 : Int64)))), .second, .val (.long (q4 &&& (4611686018427387903 : Int64))), .second, .val (.long (q5 &&& (4611686018427387903 : Int64))), .second, .val (.long (own_minL (q4 &&& (4611686018427387903 : Int64)) (q5 &&& (4611686018427387903 : Int64)))), .second, .val (.long (own_maxL (q4 &&& (4611686018427387903 : Int64)) (q5 &&& (4611686018427387903 : Int64)))), .second, .val (.ref b20), .val (.long ((1 : Int64) + ((q2 &&& (2147483647 : Int64)) - ((q2 &&& (2147483647 : Int64)) / (2147483647 : Int64)) * (2147483647 : Int64)))), .second, .val (.long ((1 : Int64) + ((q2 &&& (2147483647 : Int64)) - ((q2 &&& (2147483647 : Int64)) / (2147483647 : Int64)) * (2147483647 : Int64)))), .second] [(.long ((1 : Int64) + ((q2 &&& (2147483647 : Int64)) - ((q2 &&& (2147483647 : Int64)) / (2147483647 : Int64)) * (2147483647 : Int64)))), (.long (own_maxL (q4 &&& (4611686018427387903 : Int64)) (q5 &&& (4611686018427387903 : Int64)))), (.long ((own_minL (q4 &&& (4611686018427387903 : Int64)) (q5 &&& (4611686018427387903 : Int64))) + ((1 : Int64) + ((q2 &&& (2147483647 : Int64)) - ((q2 &&& (2147483647 : Int64)) / (2147483647 : Int64)) * (2147483647 : Int64)))))]))
    refine go (fun _ => XS.ladd X22.here hx rfl (hb hby at_177) rfl) ?_
    show Go _ p e below s _ _ _ (T22.setTop (mkF m 178 #[.val (.int p1), .val (.long q2), .second, .val (.long q3), .second, .val (.long q4), .second, .val (.long q5), .second, .val (.int (1 : Int32)), .val (.ref f0), .val (.int (1 : Int32)), .val (.long ((1 : Int64) + ((q2 &&& (2147483647 : Int64)) - ((q2 &&& (2147483647 : Int64)) / (2147483647 : Int64)) * (2147483647 : Int64)))), .second, .val (.long (q4 &&& (4611686018427387903 : Int64))), .second, .val (.long (q5 &&& (4611686018427387903 : Int64))), .second, .val (.long (own_minL (q4 &&& (4611686018427387903 : Int64)) (q5 &&& (4611686018427387903 : Int64)))), .second, .val (.long (own_maxL (q4 &&& (4611686018427387903 : Int64)) (q5 &&& (4611686018427387903 : Int64)))), .second, .val (.ref b20), .val (.long ((1 : Int64) + ((q2 &&& (2147483647 : Int64)) - ((q2 &&& (2147483647 : Int64)) / (2147483647 : Int64)) * (2147483647 : Int64)))), .second, .val (.long ((1 : Int64) + ((q2 &&& (2147483647 : Int64)) - ((q2 &&& (2147483647 : Int64)) / (2147483647 : Int64)) * (2147483647 : Int64)))), .second] [(.long ((own_maxL (q4 &&& (4611686018427387903 : Int64)) (q5 &&& (4611686018427387903 : Int64))) + ((1 : Int64) + ((q2 &&& (2147483647 : Int64)) - ((q2 &&& (2147483647 : Int64)) / (2147483647 : Int64)) * (2147483647 : Int64))))), (.long ((own_minL (q4 &&& (4611686018427387903 : Int64)) (q5 &&& (4611686018427387903 : Int64))) + ((1 : Int64) + ((q2 &&& (2147483647 : Int64)) - ((q2 &&& (2147483647 : Int64)) / (2147483647 : Int64)) * (2147483647 : Int64)))))]))
    refine go (fun _ => XS.lcmp X22.here hx rfl (hb hby at_178) rfl) ?_
    show Go _ p e below s _ _ _ (T22.setTop (mkF m 179 #[.val (.int p1), .val (.long q2), .second, .val (.long q3), .second, .val (.long q4), .second, .val (.long q5), .second, .val (.int (1 : Int32)), .val (.ref f0), .val (.int (1 : Int32)), .val (.long ((1 : Int64) + ((q2 &&& (2147483647 : Int64)) - ((q2 &&& (2147483647 : Int64)) / (2147483647 : Int64)) * (2147483647 : Int64)))), .second, .val (.long (q4 &&& (4611686018427387903 : Int64))), .second, .val (.long (q5 &&& (4611686018427387903 : Int64))), .second, .val (.long (own_minL (q4 &&& (4611686018427387903 : Int64)) (q5 &&& (4611686018427387903 : Int64)))), .second, .val (.long (own_maxL (q4 &&& (4611686018427387903 : Int64)) (q5 &&& (4611686018427387903 : Int64)))), .second, .val (.ref b20), .val (.long ((1 : Int64) + ((q2 &&& (2147483647 : Int64)) - ((q2 &&& (2147483647 : Int64)) / (2147483647 : Int64)) * (2147483647 : Int64)))), .second, .val (.long ((1 : Int64) + ((q2 &&& (2147483647 : Int64)) - ((q2 &&& (2147483647 : Int64)) / (2147483647 : Int64)) * (2147483647 : Int64)))), .second] [(.int (lcmpW ((own_minL (q4 &&& (4611686018427387903 : Int64)) (q5 &&& (4611686018427387903 : Int64))) + ((1 : Int64) + ((q2 &&& (2147483647 : Int64)) - ((q2 &&& (2147483647 : Int64)) / (2147483647 : Int64)) * (2147483647 : Int64)))) ((own_maxL (q4 &&& (4611686018427387903 : Int64)) (q5 &&& (4611686018427387903 : Int64))) + ((1 : Int64) + ((q2 &&& (2147483647 : Int64)) - ((q2 &&& (2147483647 : Int64)) / (2147483647 : Int64)) * (2147483647 : Int64))))))]))
    refine go (fun _ => XS.ifNo X22.here hx rfl (hb hby at_179) rfl ((if0 _ _).trans (flt (fun qq => (own_fin q2 q4 q5) ((lw_gt ((own_minL (q4 &&& (4611686018427387903 : Int64)) (q5 &&& (4611686018427387903 : Int64))) + ((1 : Int64) + ((q2 &&& (2147483647 : Int64)) - ((q2 &&& (2147483647 : Int64)) / (2147483647 : Int64)) * (2147483647 : Int64)))) ((own_maxL (q4 &&& (4611686018427387903 : Int64)) (q5 &&& (4611686018427387903 : Int64))) + ((1 : Int64) + ((q2 &&& (2147483647 : Int64)) - ((q2 &&& (2147483647 : Int64)) / (2147483647 : Int64)) * (2147483647 : Int64))))).mp qq))).2.2.1)) ?_
    show Go _ p e below s _ _ _ (T22.setTop (mkF m 182 #[.val (.int p1), .val (.long q2), .second, .val (.long q3), .second, .val (.long q4), .second, .val (.long q5), .second, .val (.int (1 : Int32)), .val (.ref f0), .val (.int (1 : Int32)), .val (.long ((1 : Int64) + ((q2 &&& (2147483647 : Int64)) - ((q2 &&& (2147483647 : Int64)) / (2147483647 : Int64)) * (2147483647 : Int64)))), .second, .val (.long (q4 &&& (4611686018427387903 : Int64))), .second, .val (.long (q5 &&& (4611686018427387903 : Int64))), .second, .val (.long (own_minL (q4 &&& (4611686018427387903 : Int64)) (q5 &&& (4611686018427387903 : Int64)))), .second, .val (.long (own_maxL (q4 &&& (4611686018427387903 : Int64)) (q5 &&& (4611686018427387903 : Int64)))), .second, .val (.ref b20), .val (.long ((1 : Int64) + ((q2 &&& (2147483647 : Int64)) - ((q2 &&& (2147483647 : Int64)) / (2147483647 : Int64)) * (2147483647 : Int64)))), .second, .val (.long ((1 : Int64) + ((q2 &&& (2147483647 : Int64)) - ((q2 &&& (2147483647 : Int64)) / (2147483647 : Int64)) * (2147483647 : Int64)))), .second] []))
    refine go (fun _ => XS.iconst X22.here hx rfl (hb hby at_182)) ?_
    show Go _ p e below s _ _ _ (T22.setTop (mkF m 183 #[.val (.int p1), .val (.long q2), .second, .val (.long q3), .second, .val (.long q4), .second, .val (.long q5), .second, .val (.int (1 : Int32)), .val (.ref f0), .val (.int (1 : Int32)), .val (.long ((1 : Int64) + ((q2 &&& (2147483647 : Int64)) - ((q2 &&& (2147483647 : Int64)) / (2147483647 : Int64)) * (2147483647 : Int64)))), .second, .val (.long (q4 &&& (4611686018427387903 : Int64))), .second, .val (.long (q5 &&& (4611686018427387903 : Int64))), .second, .val (.long (own_minL (q4 &&& (4611686018427387903 : Int64)) (q5 &&& (4611686018427387903 : Int64)))), .second, .val (.long (own_maxL (q4 &&& (4611686018427387903 : Int64)) (q5 &&& (4611686018427387903 : Int64)))), .second, .val (.ref b20), .val (.long ((1 : Int64) + ((q2 &&& (2147483647 : Int64)) - ((q2 &&& (2147483647 : Int64)) / (2147483647 : Int64)) * (2147483647 : Int64)))), .second, .val (.long ((1 : Int64) + ((q2 &&& (2147483647 : Int64)) - ((q2 &&& (2147483647 : Int64)) / (2147483647 : Int64)) * (2147483647 : Int64)))), .second] [(.int (1 : Int32))]))
    refine go (fun _ => XS.goto X22.here hx rfl (pc0 := 183) (pc' := 187) rfl (hb hby at_183) (by decide) (by decide)) ?_
    show Go _ p e below s _ _ _ (T22.setTop (mkF m 187 #[.val (.int p1), .val (.long q2), .second, .val (.long q3), .second, .val (.long q4), .second, .val (.long q5), .second, .val (.int (1 : Int32)), .val (.ref f0), .val (.int (1 : Int32)), .val (.long ((1 : Int64) + ((q2 &&& (2147483647 : Int64)) - ((q2 &&& (2147483647 : Int64)) / (2147483647 : Int64)) * (2147483647 : Int64)))), .second, .val (.long (q4 &&& (4611686018427387903 : Int64))), .second, .val (.long (q5 &&& (4611686018427387903 : Int64))), .second, .val (.long (own_minL (q4 &&& (4611686018427387903 : Int64)) (q5 &&& (4611686018427387903 : Int64)))), .second, .val (.long (own_maxL (q4 &&& (4611686018427387903 : Int64)) (q5 &&& (4611686018427387903 : Int64)))), .second, .val (.ref b20), .val (.long ((1 : Int64) + ((q2 &&& (2147483647 : Int64)) - ((q2 &&& (2147483647 : Int64)) / (2147483647 : Int64)) * (2147483647 : Int64)))), .second, .val (.long ((1 : Int64) + ((q2 &&& (2147483647 : Int64)) - ((q2 &&& (2147483647 : Int64)) / (2147483647 : Int64)) * (2147483647 : Int64)))), .second] [(.int (1 : Int32))]))
    refine goRet X22 hx Bd.notSynchronized Bd.returns rfl (Or.inl ⟨rfl, Or.inr (Or.inl rfl), _, rfl⟩) (hb hby at_187) (by decide) (by decide) (by rw [e22]; refine ⟨rfl, N22⟩)
  · refine go (fun _ => XS.ifYes X0.here hx rfl (pc0 := 3) (pc' := 10) rfl (hb hby at_3) rfl ((if0 _ _).trans (feq hc3_15).2) (by decide) (by decide)) ?_
    show Go _ p e below s _ _ _ (s₁.setTop (mkF m 10 #[.val (.int p1), .val (.long q2), .second, .val (.long q3), .second, .val (.long q4), .second, .val (.long q5), .second, .unset, .unset, .unset, .unset, .unset, .unset, .unset, .unset, .unset, .unset, .unset, .unset, .unset, .unset, .unset, .unset, .unset, .unset] []))
    refine go (fun _ => XS.iconst X0.here hx rfl (hb hby at_10)) ?_
    show Go _ p e below s _ _ _ (s₁.setTop (mkF m 11 #[.val (.int p1), .val (.long q2), .second, .val (.long q3), .second, .val (.long q4), .second, .val (.long q5), .second, .unset, .unset, .unset, .unset, .unset, .unset, .unset, .unset, .unset, .unset, .unset, .unset, .unset, .unset, .unset, .unset, .unset, .unset] [(.int (0 : Int32))]))
    refine go (fun _ => XS.istore X0.here hx rfl (hb hby at_11) rfl (l' := #[.val (.int p1), .val (.long q2), .second, .val (.long q3), .second, .val (.long q4), .second, .val (.long q5), .second, .val (.int (0 : Int32)), .unset, .unset, .unset, .unset, .unset, .unset, .unset, .unset, .unset, .unset, .unset, .unset, .unset, .unset, .unset, .unset, .unset]) rfl) ?_
    show Go _ p e below s _ _ _ (s₁.setTop (mkF m 13 #[.val (.int p1), .val (.long q2), .second, .val (.long q3), .second, .val (.long q4), .second, .val (.long q5), .second, .val (.int (0 : Int32)), .unset, .unset, .unset, .unset, .unset, .unset, .unset, .unset, .unset, .unset, .unset, .unset, .unset, .unset, .unset, .unset, .unset] []))
    refine go (fun _ => XS.iload X0.here hx rfl (hb hby at_13) rfl) ?_
    show Go _ p e below s _ _ _ (s₁.setTop (mkF m 15 #[.val (.int p1), .val (.long q2), .second, .val (.long q3), .second, .val (.long q4), .second, .val (.long q5), .second, .val (.int (0 : Int32)), .unset, .unset, .unset, .unset, .unset, .unset, .unset, .unset, .unset, .unset, .unset, .unset, .unset, .unset, .unset, .unset, .unset] [(.int (0 : Int32))]))
    refine go (fun _ => XS.ifYes X0.here hx rfl (pc0 := 15) (pc' := 24) rfl (hb hby at_15) rfl ((if0 _ _).trans (teq (rfl : (0 : Int32) = (0 : Int32))).1) (by decide) (by decide)) ?_
    show Go _ p e below s _ _ _ (s₁.setTop (mkF m 24 #[.val (.int p1), .val (.long q2), .second, .val (.long q3), .second, .val (.long q4), .second, .val (.long q5), .second, .val (.int (0 : Int32)), .unset, .unset, .unset, .unset, .unset, .unset, .unset, .unset, .unset, .unset, .unset, .unset, .unset, .unset, .unset, .unset, .unset] []))
    obtain ⟨T23, X23, e23, st23⟩ := getS2 X0 hx hZ hown (host := "") (Or.inl (hw _ (List.mem_of_getElem? (i := 41) rfl))) Via.refl e0 (P2.ext P0.2) (g := (mkF m 24 #[.val (.int p1), .val (.long q2), .second, .val (.long q3), .second, .val (.long q4), .second, .val (.long q5), .second, .val (.int (0 : Int32)), .unset, .unset, .unset, .unset, .unset, .unset, .unset, .unset, .unset, .unset, .unset, .unset, .unset, .unset, .unset, .unset, .unset] [])) rfl (hb hby at_24)
    refine go st23 ?_
    show Go _ p e below s _ _ _ (T23.setTop (mkF m 27 #[.val (.int p1), .val (.long q2), .second, .val (.long q3), .second, .val (.long q4), .second, .val (.long q5), .second, .val (.int (0 : Int32)), .unset, .unset, .unset, .unset, .unset, .unset, .unset, .unset, .unset, .unset, .unset, .unset, .unset, .unset, .unset, .unset, .unset] [(.ref u0)]))
    refine go (fun _ => XS.astore X23.here hx rfl (hb hby at_27) rfl rfl (l' := #[.val (.int p1), .val (.long q2), .second, .val (.long q3), .second, .val (.long q4), .second, .val (.long q5), .second, .val (.int (0 : Int32)), .val (.ref u0), .unset, .unset, .unset, .unset, .unset, .unset, .unset, .unset, .unset, .unset, .unset, .unset, .unset, .unset, .unset, .unset]) rfl) ?_
    show Go _ p e below s _ _ _ (T23.setTop (mkF m 29 #[.val (.int p1), .val (.long q2), .second, .val (.long q3), .second, .val (.long q4), .second, .val (.long q5), .second, .val (.int (0 : Int32)), .val (.ref u0), .unset, .unset, .unset, .unset, .unset, .unset, .unset, .unset, .unset, .unset, .unset, .unset, .unset, .unset, .unset, .unset] []))
    refine go (fun _ => XS.aload X23.here hx rfl (hb hby at_29) rfl rfl) ?_
    show Go _ p e below s _ _ _ (T23.setTop (mkF m 31 #[.val (.int p1), .val (.long q2), .second, .val (.long q3), .second, .val (.long q4), .second, .val (.long q5), .second, .val (.int (0 : Int32)), .val (.ref u0), .unset, .unset, .unset, .unset, .unset, .unset, .unset, .unset, .unset, .unset, .unset, .unset, .unset, .unset, .unset, .unset] [(.ref u0)]))
    obtain ⟨cq24, kq24, q24a, q24b, q24c⟩ := isOf hZ e23 (P5.ext P0.2)
    obtain ⟨_, _, ⟨T24, L24, k24, n24⟩, -, X24, ⟨Lc24, hQ24, l24, y24, z24⟩, st24⟩ := X23.virtualBack hx (y := (⟨"com/example/lim1/lim1/DelayModel", "keepsOrderAcrossSenders", "()Z"⟩ : MethodName)) (z := (⟨"com/example/lim1/lim1/DelayModel", "keepsOrderAcrossSenders", "()Z"⟩ : MethodName)) hown (mvT hZ (hw _ (List.mem_of_getElem? (i := 3) rfl))) (mvT hZ (hw _ (List.mem_of_getElem? (i := 4) rfl))) (notFace_of_selects (args := #[]) (mvT hZ (hw _ (List.mem_of_getElem? (i := 6) rfl)))) (mvT hZ (hw _ (List.mem_of_getElem? (i := 6) rfl))) (mvT hZ (hw _ (List.mem_of_getElem? (i := 5) rfl))) (by decide) (backOf (W := 0) (rmKN l Z a0 hw [] u0 f0 h0 n0 Z0 P1 P0 P6) hZ (hw _ (List.mem_of_getElem? (i := 7) rfl)) (hw _ (List.mem_of_getElem? (i := 1) rfl)) (by decide) (by decide)) q24a q24c (g := (mkF m 31 #[.val (.int p1), .val (.long q2), .second, .val (.long q3), .second, .val (.long q4), .second, .val (.long q5), .second, .val (.int (0 : Int32)), .val (.ref u0), .unset, .unset, .unset, .unset, .unset, .unset, .unset, .unset, .unset, .unset, .unset, .unset, .unset, .unset, .unset, .unset] [(.ref u0)])) rfl (by rw [hml]; rfl) (Steps.refl _) (argsL := []) (rest := []) (lenOf pd_0_0 rfl) rfl (by show 2 * 0 + _ ≤ _; exact Nat.le_of_eq rfl) (hb hby at_31) (fun _ _ => ⟨rfl, e23, (by decide : 0 + 0 ≤ _), (by decide : 0 + 0 ≤ _)⟩)
    dsimp only [Pt.U, Pt.locs, Pt.cells, Pt.slots] at X24 l24 y24 z24 st24 hQ24
    subst l24 y24 z24
    obtain ⟨rfl, N24q, e24⟩ := hQ24
    have N24 := Fr.app N0 N24q
    refine goT st24 ?_
    show Go _ p e below s _ _ _ (T24.setTop (mkF m 34 #[.val (.int p1), .val (.long q2), .second, .val (.long q3), .second, .val (.long q4), .second, .val (.long q5), .second, .val (.int (0 : Int32)), .val (.ref u0), .unset, .unset, .unset, .unset, .unset, .unset, .unset, .unset, .unset, .unset, .unset, .unset, .unset, .unset, .unset, .unset] [(.int (0 : Int32))]))
    refine go (fun _ => XS.istore X24.here hx rfl (hb hby at_34) rfl (l' := #[.val (.int p1), .val (.long q2), .second, .val (.long q3), .second, .val (.long q4), .second, .val (.long q5), .second, .val (.int (0 : Int32)), .val (.ref u0), .val (.int (0 : Int32)), .unset, .unset, .unset, .unset, .unset, .unset, .unset, .unset, .unset, .unset, .unset, .unset, .unset, .unset, .unset]) rfl) ?_
    show Go _ p e below s _ _ _ (T24.setTop (mkF m 36 #[.val (.int p1), .val (.long q2), .second, .val (.long q3), .second, .val (.long q4), .second, .val (.long q5), .second, .val (.int (0 : Int32)), .val (.ref u0), .val (.int (0 : Int32)), .unset, .unset, .unset, .unset, .unset, .unset, .unset, .unset, .unset, .unset, .unset, .unset, .unset, .unset, .unset] []))
    refine go (fun _ => XS.iload X24.here hx rfl (hb hby at_36) rfl) ?_
    show Go _ p e below s _ _ _ (T24.setTop (mkF m 38 #[.val (.int p1), .val (.long q2), .second, .val (.long q3), .second, .val (.long q4), .second, .val (.long q5), .second, .val (.int (0 : Int32)), .val (.ref u0), .val (.int (0 : Int32)), .unset, .unset, .unset, .unset, .unset, .unset, .unset, .unset, .unset, .unset, .unset, .unset, .unset, .unset, .unset] [(.int (0 : Int32))]))
    refine go (fun _ => XS.iload X24.here hx rfl (hb hby at_38) rfl) ?_
    show Go _ p e below s _ _ _ (T24.setTop (mkF m 40 #[.val (.int p1), .val (.long q2), .second, .val (.long q3), .second, .val (.long q4), .second, .val (.long q5), .second, .val (.int (0 : Int32)), .val (.ref u0), .val (.int (0 : Int32)), .unset, .unset, .unset, .unset, .unset, .unset, .unset, .unset, .unset, .unset, .unset, .unset, .unset, .unset, .unset] [(.int (0 : Int32)), (.int (0 : Int32))]))
    refine go (fun _ => XS.icmpYes X24.here hx rfl (pc0 := 40) (pc' := 45) rfl (hb hby at_40) rfl (teq (rfl : (0 : Int32) = (0 : Int32))).1 (by decide) (by decide)) ?_
    show Go _ p e below s _ _ _ (T24.setTop (mkF m 45 #[.val (.int p1), .val (.long q2), .second, .val (.long q3), .second, .val (.long q4), .second, .val (.long q5), .second, .val (.int (0 : Int32)), .val (.ref u0), .val (.int (0 : Int32)), .unset, .unset, .unset, .unset, .unset, .unset, .unset, .unset, .unset, .unset, .unset, .unset, .unset, .unset, .unset] []))
    refine go (fun _ => XS.iload X24.here hx rfl (hb hby at_45) rfl) ?_
    show Go _ p e below s _ _ _ (T24.setTop (mkF m 47 #[.val (.int p1), .val (.long q2), .second, .val (.long q3), .second, .val (.long q4), .second, .val (.long q5), .second, .val (.int (0 : Int32)), .val (.ref u0), .val (.int (0 : Int32)), .unset, .unset, .unset, .unset, .unset, .unset, .unset, .unset, .unset, .unset, .unset, .unset, .unset, .unset, .unset] [(.int (0 : Int32))]))
    refine go (fun _ => XS.ifNo X24.here hx rfl (hb hby at_47) rfl ((if0 _ _).trans (teq (rfl : (0 : Int32) = (0 : Int32))).2)) ?_
    show Go _ p e below s _ _ _ (T24.setTop (mkF m 50 #[.val (.int p1), .val (.long q2), .second, .val (.long q3), .second, .val (.long q4), .second, .val (.long q5), .second, .val (.int (0 : Int32)), .val (.ref u0), .val (.int (0 : Int32)), .unset, .unset, .unset, .unset, .unset, .unset, .unset, .unset, .unset, .unset, .unset, .unset, .unset, .unset, .unset] []))
    refine go (fun _ => XS.iconst X24.here hx rfl (hb hby at_50)) ?_
    show Go _ p e below s _ _ _ (T24.setTop (mkF m 51 #[.val (.int p1), .val (.long q2), .second, .val (.long q3), .second, .val (.long q4), .second, .val (.long q5), .second, .val (.int (0 : Int32)), .val (.ref u0), .val (.int (0 : Int32)), .unset, .unset, .unset, .unset, .unset, .unset, .unset, .unset, .unset, .unset, .unset, .unset, .unset, .unset, .unset] [(.int (1 : Int32))]))
    refine goRet X24 hx Bd.notSynchronized Bd.returns rfl (Or.inl ⟨rfl, Or.inr (Or.inl rfl), _, rfl⟩) (hb hby at_51) (by decide) (by decide) (by rw [e24]; refine ⟨rfl, N24⟩)
set_option maxRecDepth 65536 in
set_option maxHeartbeats 40000000 in
theorem comes_1 {Post : Tables → Env → Array Value → State → Outcome → State → Prop} (hpost : ∀ tb e args s v u, (limb_1_1.after args s (.returned v) u = true ∧ limb_1_2.after args s (.returned v) u = true ∧ True) → FrameEnd s (.returned v) u (Jvm.fieldLocs frame_1_writes args s ++ Jvm.arrayLocs frame_1_arrays args s ++ Jvm.staticLocs frame_1_statics s) 16 128 → Post tb e args s (.returned v) u) :
    ArmFor flags0 classFile x code maxLocals ret World_1 tables_1 room_1 Calls_1 rest_1 Pre_1 Post := by
  intro l hfl _ _ p e ha hc hk s m args below hf hA hF happ hP
  obtain ⟨hcalls, hrest, hpre⟩ := hP
  obtain ⟨-, -, -, hnamed, -, -, -, hat⟩ := (Spec.applies_iff hf).mp happ
  obtain ⟨hg, hn⟩ := and_e (Cond.before_iff.mp (show (Jvm.Cond.and given_1 narrow_1).before args s = true from hpre))
  obtain ⟨q0, r0⟩ := and_e hg
  obtain ⟨q1, r1⟩ := and_e r0
  obtain ⟨q2, r2⟩ := and_e r1
  obtain ⟨q3, r3⟩ := and_e r2
  obtain ⟨q4, r4⟩ := and_e r3
  obtain ⟨w0, w1, w2, w3, w4, rfl⟩ : ∃ w0 w1 w2 w3 w4 : Value, args = #[w0, w1, w2, w3, w4] := by
    have hs : args.size = 5 := by simpa [Cond.value, given_1] using q0
    obtain ⟨L⟩ := args
    match L, hs with
    | [w0, w1, w2, w3, w4], _ => exact ⟨w0, w1, w2, w3, w4, rfl⟩
  have hw := fun d (hd : d ∈ tables_1) => atoms_spec (ws := Jvm.Cond.code x code maxLocals ret :: tables_1) hat d (List.mem_cons_of_mem _ hd)
  have hfit : Fit s := fun {y c} hc i hi => by
    obtain ⟨ha, rfl⟩ := Array.getElem?_eq_some_iff.mp hc
    have q := List.all_eq_true.mp ((Array.all_eq_true_iff_forall_mem.mp hF) _ (Array.getElem_mem ha)) i (List.mem_range.mpr hi)
    simpa [Array.getElem?_eq_getElem hi] using q
  obtain ⟨i0, ei0⟩ := is_v q1
  obtain rfl : w0 = (.int i0) := Option.some.inj ei0
  obtain ⟨i1, ei1⟩ := isL_v q2
  obtain rfl : w1 = (.long i1) := Option.some.inj ei1
  obtain ⟨i2, ei2⟩ := isL_v q3
  obtain rfl : w2 = (.long i2) := Option.some.inj ei2
  obtain ⟨i3, ei3⟩ := isL_v q4
  obtain rfl : w3 = (.long i3) := Option.some.inj ei3
  obtain ⟨i4, ei4⟩ := isL_v r4
  obtain rfl : w4 = (.long i4) := Option.some.inj ei4
  obtain ⟨m0, u0⟩ := and_e hn
  obtain ⟨m1, u1⟩ := and_e u0
  obtain ⟨m2, u2⟩ := and_e u1
  obtain ⟨f0, v0⟩ := exa_v m0
  obtain ⟨u0, v1⟩ := exa_v m2
  have S0 := Sta.start v0 (Or.inr ⟨(hw _ (List.mem_of_getElem? (i := 1) rfl)), (hw _ (List.mem_of_getElem? (i := 2) rfl))⟩)
  have S1 := Sta.start v1 (Or.inr ⟨(hw _ (List.mem_of_getElem? (i := 1) rfl)), (hw _ (List.mem_of_getElem? (i := 42) rfl))⟩)
  have F0 := own_fI v0 m1
  have F1 := own_fI v1 u2
  have hne : u0 ≠ f0 := Fld.ne F1 F0 (by decide)
  obtain ⟨n, o, h1, h2, h3, _, L, rfl, ⟨rfl, N⟩, hq⟩ := rm0 l s _ hw tables_1 i0 i1 i2 i3 i4 f0 u0 s.heap s.heap.size (Nat.le_refl _) (Old.start s) S0 S1 (Exa.start v0 m0) F0 (Exa.start v1 m2) hne p e ha hc hk s m _ below hf ((Spec.applies_iff_loose hf).mp happ).1 ⟨rfl, State.Warmed39.refl s, rfl, State.WarmedH.refl s⟩ trivial
  refine ⟨n, _, h1, h2, h3, hpost _ _ _ _ _ _ ⟨Cond.after_iff.mpr rfl, Cond.after_iff.mpr (eq_i res_at (Term.int_eval (1)) rfl), trivial⟩ ⟨hq.1, hq.2.1, (hq.2.2.sift fun y hy => Or.inr (N y hy)).mono (by decide) (by decide)⟩⟩
theorem main_1_1 : Claimed_1_1 := comes_1 fun _ _ _ _ _ _ h hF => ⟨h.1, wide hF⟩
theorem main_1_2 : Claimed_1_2 := comes_1 fun _ _ _ _ _ _ h hF => ⟨h.2.1, wide hF⟩
end Jvm.Pilot.@@N@@
namespace Jvm.Pilot.@@N@@
open Jvm Jvm.ClassFile Sem Op Lib Jvm.Free Jvm.Stand Jvm.Pilot.@@N@@.Jvm.D
/-! MADE BY PROGRAM (witnessworld.py) out of the Statement's table words and the real class files: 15 classes; the members and pool entries that the words name. The judged class is class 1, her method 1. -/
namespace start1
open Jvm.ClassFile
def u (s : String) : CpInfo := .utf8 (stringToUtf16 s)
/-- a pool by its gaps: so many unusable entries, then the entry; so many at the end -/
def gap : Nat → List CpInfo → List CpInfo
  | 0, r => r
  | n + 1, r => .unusable :: gap n r
def poolList (es : List (Nat × CpInfo)) (last : Nat) : List CpInfo := es.foldr (fun e r => gap e.1 (e.2 :: r)) (gap last [])
def pool (es : List (Nat × CpInfo)) (last : Nat) : Array CpInfo := ⟨poolList es last⟩
def fileOf (pool : Array CpInfo) (this : Nat) (attrs : Array Attribute := #[]) (ms : Array MethodInfo := #[]) (fl : Nat := 33) (sup : Nat := 0) (ifs : Array Nat := #[]) (fds : Array FieldInfo := #[]) : ClassFile where
  minorVersion := 0
  majorVersion := 65
  constantPool := pool
  accessFlags := fl
  thisClass := this
  superClass := sup
  interfaces := ifs
  fields := fds
  methods := ms
  attributes := attrs
def plain (name : String) (sup : Option ClassId) : Class where
  name := name
  kind := .ordinary
  loader := none
  accessFlags := 33
  super := sup
  interfaces := #[]
  cf := none
  fields := #[]
  methods := #[]
  instanceTypes := #[]
  staticTypes := #[]
  resolved := #[]
  callSites := []
  init := .initialized
  statics := none
  mirror := none

def pool0 : Array CpInfo := pool [(5, u "<init>"), (0, u "()V"), (1, .class_ 10), (1, u "java/lang/Object")] 113

def k0m0 : Method := { name := "<init>", desc := "()V", sig := { parameters := [], returnType := none }, accessFlags := 1, code := none }
/-- java/lang/Object -/
def k0 : Class := { plain "java/lang/Object" none with
  accessFlags := 33
  interfaces := #[]
  cf := some (fileOf pool0 8 #[] #[{ accessFlags := 1, nameIndex := 5, descriptorIndex := 6, attributes := #[] }] 33 0 #[] #[])
  fields := #[]
  methods := #[k0m0]
  instanceTypes := #[]
  staticTypes := #[]
  resolved := Array.replicate 124 none
  statics := none }

def pool1 : Array CpInfo := pool [(2, .class_ 4), (1, u "java/lang/Object"), (0, u "<init>"), (0, u "()V"), (0, .fieldref 8 9), (0, .class_ 10), (0, .nameAndType 11 12), (0, u "com/example/lim1/lim1/DelayModel"), (0, u "FIXED"), (0, u "Lcom/example/lim1/lim1/DelayModel;"), (0, .fieldref 8 14), (0, .nameAndType 15 12), (0, u "UNIFORM"), (0, .methodref 8 17), (0, .nameAndType 18 19), (0, u "keepsOrderAcrossSenders"), (0, u "()Z"), (0, .long 2147483647), (1, .long 4611686018427387903), (1, .methodref 25 26), (0, .class_ 27), (0, .nameAndType 28 29), (0, u "java/lang/Math"), (0, u "min"), (0, u "(JJ)J"), (0, .methodref 25 31), (0, .nameAndType 32 29), (0, u "max"), (0, .methodref 8 34), (0, .nameAndType 35 36), (0, u "delays"), (0, u "(JJI)Lcom/example/lim1/lim1/DelayModel$Delays;"), (0, .interfaceMethodref 38 39), (0, .class_ 40), (0, .nameAndType 41 42), (0, u "com/example/lim1/lim1/DelayModel$Delays"), (0, u "of"), (0, u "(IIJ)J"), (0, .class_ 44), (0, u "com/example/lim1/lim1/DelayModelKeepsOrderAcrossSendersPinLaw"), (2, u "law"), (0, u "(IJJJJ)Z")] 5

def k1m0 : Method := { name := "<init>", desc := "()V", sig := { parameters := [], returnType := none }, accessFlags := 1, code := none }
def k1c1 : Code := { maxStack := 6, maxLocals := 27, code := code, exceptionTable := #[], attributes := #[] }
def k1m1 : Method := { name := "law", desc := "(IJJJJ)Z", sig := { parameters := [.int, .long, .long, .long, .long], returnType := some .boolean }, accessFlags := 9, code := some k1c1 }
/-- com/example/lim1/lim1/DelayModelKeepsOrderAcrossSendersPinLaw -/
def k1 : Class := { plain "com/example/lim1/lim1/DelayModelKeepsOrderAcrossSendersPinLaw" (some 0) with
  accessFlags := 49
  interfaces := #[]
  cf := some (fileOf pool1 43 #[] #[{ accessFlags := 1, nameIndex := 5, descriptorIndex := 6, attributes := #[] }, { accessFlags := 9, nameIndex := 47, descriptorIndex := 48, attributes := #[] }] 49 2 #[] #[])
  fields := #[]
  methods := #[k1m0, k1m1]
  instanceTypes := #[]
  staticTypes := #[]
  resolved := Array.replicate 54 none
  statics := none }

def pool2 : Array CpInfo := pool [(1, .class_ 2), (0, u "java/lang/constant/Constable"), (0, .class_ 4), (0, u "java/lang/Object")] 6

/-- java/lang/constant/Constable -/
def k2 : Class := { plain "java/lang/constant/Constable" (some 0) with
  accessFlags := 1537
  interfaces := #[]
  cf := some (fileOf pool2 1 #[] #[] 1537 3 #[] #[])
  fields := #[]
  methods := #[]
  instanceTypes := #[]
  staticTypes := #[]
  resolved := Array.replicate 11 none
  statics := none }

def pool3 : Array CpInfo := pool [(1, .class_ 2), (0, u "java/lang/Comparable"), (0, .class_ 4), (0, u "java/lang/Object")] 7

/-- java/lang/Comparable -/
def k3 : Class := { plain "java/lang/Comparable" (some 0) with
  accessFlags := 1537
  interfaces := #[]
  cf := some (fileOf pool3 1 #[] #[] 1537 3 #[] #[])
  fields := #[]
  methods := #[]
  instanceTypes := #[]
  staticTypes := #[]
  resolved := Array.replicate 12 none
  statics := none }

def pool4 : Array CpInfo := pool [(1, .class_ 2), (0, u "java/io/Serializable"), (0, .class_ 4), (0, u "java/lang/Object")] 2

/-- java/io/Serializable -/
def k4 : Class := { plain "java/io/Serializable" (some 0) with
  accessFlags := 1537
  interfaces := #[]
  cf := some (fileOf pool4 1 #[] #[] 1537 3 #[] #[])
  fields := #[]
  methods := #[]
  instanceTypes := #[]
  staticTypes := #[]
  resolved := Array.replicate 7 none
  statics := none }

def pool5 : Array CpInfo := pool [(2, .class_ 4), (1, u "java/lang/Enum"), (0, u "name"), (0, u "Ljava/lang/String;"), (0, .fieldref 2 8), (0, .nameAndType 9 10), (0, u "ordinal"), (0, u "I"), (1, .class_ 14), (1, u "java/lang/Object"), (4, u "hash"), (86, .class_ 108), (1, u "java/lang/Enum$EnumDesc"), (2, .class_ 112), (0, u "java/lang/constant/Constable"), (0, .class_ 114), (0, u "java/lang/Comparable"), (0, .class_ 116), (0, u "java/io/Serializable"), (9, u "()I")] 77

def k5c0 : Code := { maxStack := 1, maxLocals := 1, code := jdk_37_method_2_code, exceptionTable := #[], attributes := #[] }
def k5m0 : Method := { name := "ordinal", desc := "()I", sig := { parameters := [], returnType := some .int }, accessFlags := 17, code := some k5c0 }
/-- java/lang/Enum -/
def k5 : Class := { plain "java/lang/Enum" (some 0) with
  accessFlags := 1057
  interfaces := #[2, 3, 4]
  cf := some (fileOf pool5 2 #[.nestMembers #[106]] #[{ accessFlags := 17, nameIndex := 9, descriptorIndex := 126, attributes := #[] }] 1057 12 #[111, 113, 115] #[{ accessFlags := 18, nameIndex := 5, descriptorIndex := 6, attributes := #[] }, { accessFlags := 18, nameIndex := 9, descriptorIndex := 10, attributes := #[] }, { accessFlags := 2, nameIndex := 19, descriptorIndex := 10, attributes := #[] }])
  fields := #[{ name := "name", type := (.object "java/lang/String"), accessFlags := 18, slot := 0, constantValue := 0 }, { name := "ordinal", type := .int, accessFlags := 18, slot := 1, constantValue := 0 }, { name := "hash", type := .int, accessFlags := 2, slot := 2, constantValue := 0 }]
  methods := #[k5m0]
  instanceTypes := #[(.object "java/lang/String"), .int, .int]
  staticTypes := #[]
  resolved := Array.replicate 204 none
  statics := none }

def pool6 : Array CpInfo := pool [(1, .class_ 2), (0, u "com/example/lim1/lim1/DelayModel"), (0, .fieldref 1 4), (0, .nameAndType 5 6), (0, u "FIXED"), (0, u "Lcom/example/lim1/lim1/DelayModel;"), (2, u "UNIFORM"), (2, u "$VALUES"), (0, u "[Lcom/example/lim1/lim1/DelayModel;"), (6, .class_ 22), (1, u "java/lang/Enum"), (10, u "of"), (7, .methodref 1 42), (0, .nameAndType 43 44), (0, u "ordinal"), (0, u "()I"), (0, .invokeDynamic 0 46), (0, .nameAndType 33 47), (0, u "(J)Lcom/example/lim1/lim1/DelayModel$Delays;"), (0, .class_ 49), (0, u "com/example/lim1/lim1/DelayModel$Uniform"), (30, u "keepsOrderAcrossSenders"), (0, u "()Z"), (1, u "delays"), (0, u "(JJI)Lcom/example/lim1/lim1/DelayModel$Delays;"), (0, u "lambda$delays$0"), (0, u "(JIIJ)J"), (5, .class_ 93), (0, u "com/example/lim1/lim1/DelayModel$Delays"), (1, .methodType 96), (0, u "(IIJ)J"), (0, .methodHandle 6 98), (0, .methodref 1 99), (0, .nameAndType 85 86), (0, .methodHandle 6 101), (0, .methodref 102 103), (0, .class_ 104), (0, .nameAndType 105 106), (0, u "java/lang/invoke/LambdaMetafactory"), (0, u "metafactory"), (0, u "(Ljava/lang/invoke/MethodHandles$Lookup;Ljava/lang/String;Ljava/lang/invoke/MethodType;Ljava/lang/invoke/MethodType;Ljava/lang/invoke/MethodHandle;Ljava/lang/invoke/MethodType;)Ljava/lang/invoke/CallSite;")] 8

def k6c0 : Code := { maxStack := 2, maxLocals := 1, code := prog_9_method_6_code, exceptionTable := #[], attributes := #[] }
def k6m0 : Method := { name := "keepsOrderAcrossSenders", desc := "()Z", sig := { parameters := [], returnType := some .boolean }, accessFlags := 1, code := some k6c0 }
def k6c1 : Code := { maxStack := 6, maxLocals := 6, code := prog_9_method_7_code, exceptionTable := #[], attributes := #[] }
def k6m1 : Method := { name := "delays", desc := "(JJI)Lcom/example/lim1/lim1/DelayModel$Delays;", sig := { parameters := [.long, .long, .int], returnType := some (.object "com/example/lim1/lim1/DelayModel$Delays") }, accessFlags := 0, code := some k6c1 }
def k6c2 : Code := { maxStack := 2, maxLocals := 6, code := prog_9_method_8_code, exceptionTable := #[], attributes := #[] }
def k6m2 : Method := { name := "lambda$delays$0", desc := "(JIIJ)J", sig := { parameters := [.long, .int, .int, .long], returnType := some .long }, accessFlags := 4106, code := some k6c2 }
/-- com/example/lim1/lim1/DelayModel -/
def k6 : Class := { plain "com/example/lim1/lim1/DelayModel" (some 5) with
  accessFlags := 16433
  interfaces := #[]
  cf := some (fileOf pool6 1 #[.nestMembers #[48, 92], .bootstrapMethods #[⟨100, #[95, 97, 95]⟩]] #[{ accessFlags := 1, nameIndex := 80, descriptorIndex := 81, attributes := #[] }, { accessFlags := 0, nameIndex := 83, descriptorIndex := 84, attributes := #[] }, { accessFlags := 4106, nameIndex := 85, descriptorIndex := 86, attributes := #[] }] 16433 20 #[] #[{ accessFlags := 16409, nameIndex := 5, descriptorIndex := 6, attributes := #[] }, { accessFlags := 16409, nameIndex := 9, descriptorIndex := 6, attributes := #[] }, { accessFlags := 4122, nameIndex := 12, descriptorIndex := 13, attributes := #[] }])
  fields := #[{ name := "FIXED", type := (.object "com/example/lim1/lim1/DelayModel"), accessFlags := 16409, slot := 0, constantValue := 0 }, { name := "UNIFORM", type := (.object "com/example/lim1/lim1/DelayModel"), accessFlags := 16409, slot := 1, constantValue := 0 }, { name := "$VALUES", type := (.array (.object "com/example/lim1/lim1/DelayModel")), accessFlags := 4122, slot := 2, constantValue := 0 }]
  methods := #[k6m0, k6m1, k6m2]
  instanceTypes := #[(.object "java/lang/String"), .int, .int]
  staticTypes := #[(.object "com/example/lim1/lim1/DelayModel"), (.object "com/example/lim1/lim1/DelayModel"), (.array (.object "com/example/lim1/lim1/DelayModel"))]
  resolved := Array.replicate 115 none
  callSites := [(1, 33, .makes 14)]
  statics := some 0 }

def pool7 : Array CpInfo := pool [(1, .class_ 2), (0, u "java/lang/Math"), (1, .class_ 6), (1, u "java/lang/Object"), (0, u "<init>"), (0, u "()V"), (89, .class_ 100), (1, u "java/lang/Math$RandomNumberGeneratorHolder"), (20, u "(JJ)J"), (50, u "negativeZeroFloatBits"), (0, u "J"), (2, u "negativeZeroDoubleBits"), (21, u "max"), (2, u "min"), (43, u "$assertionsDisabled"), (0, u "Z"), (91, u "twoToTheDoubleScaleDown"), (0, u "D"), (4, u "twoToTheDoubleScaleUp"), (9, u "E"), (3, u "PI"), (2, u "TAU"), (2, u "DEGREES_TO_RADIANS"), (0, u "RADIANS_TO_DEGREES")] 94

def k7m0 : Method := { name := "<init>", desc := "()V", sig := { parameters := [], returnType := none }, accessFlags := 2, code := none }
def k7c1 : Code := { maxStack := 4, maxLocals := 4, code := jdk_29_method_66_code, exceptionTable := #[], attributes := #[] }
def k7m1 : Method := { name := "max", desc := "(JJ)J", sig := { parameters := [.long, .long], returnType := some .long }, accessFlags := 9, code := some k7c1 }
def k7c2 : Code := { maxStack := 4, maxLocals := 4, code := jdk_29_method_70_code, exceptionTable := #[], attributes := #[] }
def k7m2 : Method := { name := "min", desc := "(JJ)J", sig := { parameters := [.long, .long], returnType := some .long }, accessFlags := 9, code := some k7c2 }
/-- java/lang/Math -/
def k7 : Class := { plain "java/lang/Math" (some 0) with
  accessFlags := 49
  interfaces := #[]
  cf := some (fileOf pool7 1 #[.nestMembers #[98]] #[{ accessFlags := 2, nameIndex := 7, descriptorIndex := 8, attributes := #[] }, { accessFlags := 9, nameIndex := 198, descriptorIndex := 121, attributes := #[] }, { accessFlags := 9, nameIndex := 201, descriptorIndex := 121, attributes := #[] }] 49 4 #[] #[{ accessFlags := 25, nameIndex := 354, descriptorIndex := 339, attributes := #[] }, { accessFlags := 25, nameIndex := 358, descriptorIndex := 339, attributes := #[] }, { accessFlags := 25, nameIndex := 361, descriptorIndex := 339, attributes := #[] }, { accessFlags := 26, nameIndex := 364, descriptorIndex := 339, attributes := #[] }, { accessFlags := 26, nameIndex := 365, descriptorIndex := 339, attributes := #[] }, { accessFlags := 26, nameIndex := 172, descriptorIndex := 173, attributes := #[] }, { accessFlags := 26, nameIndex := 176, descriptorIndex := 173, attributes := #[] }, { accessFlags := 8, nameIndex := 344, descriptorIndex := 339, attributes := #[] }, { accessFlags := 8, nameIndex := 338, descriptorIndex := 339, attributes := #[] }, { accessFlags := 4120, nameIndex := 245, descriptorIndex := 246, attributes := #[] }])
  fields := #[{ name := "E", type := .double, accessFlags := 25, slot := 0, constantValue := 0 }, { name := "PI", type := .double, accessFlags := 25, slot := 1, constantValue := 0 }, { name := "TAU", type := .double, accessFlags := 25, slot := 2, constantValue := 0 }, { name := "DEGREES_TO_RADIANS", type := .double, accessFlags := 26, slot := 3, constantValue := 0 }, { name := "RADIANS_TO_DEGREES", type := .double, accessFlags := 26, slot := 4, constantValue := 0 }, { name := "negativeZeroFloatBits", type := .long, accessFlags := 26, slot := 5, constantValue := 0 }, { name := "negativeZeroDoubleBits", type := .long, accessFlags := 26, slot := 6, constantValue := 0 }, { name := "twoToTheDoubleScaleUp", type := .double, accessFlags := 8, slot := 7, constantValue := 0 }, { name := "twoToTheDoubleScaleDown", type := .double, accessFlags := 8, slot := 8, constantValue := 0 }, { name := "$assertionsDisabled", type := .boolean, accessFlags := 4120, slot := 9, constantValue := 0 }]
  methods := #[k7m0, k7m1, k7m2]
  instanceTypes := #[]
  staticTypes := #[.double, .double, .double, .double, .double, .long, .long, .double, .double, .boolean]
  resolved := Array.replicate 460 none
  statics := none }

def pool8 : Array CpInfo := pool [(1, .class_ 2), (0, u "com/example/lim1/lim1/DelayModel$Delays"), (0, .class_ 4), (0, u "java/lang/Object"), (0, u "of"), (0, u "(IIJ)J"), (3, .class_ 11), (0, u "com/example/lim1/lim1/DelayModel")] 2

def k8m0 : Method := { name := "of", desc := "(IIJ)J", sig := { parameters := [.int, .int, .long], returnType := some .long }, accessFlags := 1025, code := none }
/-- com/example/lim1/lim1/DelayModel$Delays -/
def k8 : Class := { plain "com/example/lim1/lim1/DelayModel$Delays" (some 0) with
  accessFlags := 1536
  interfaces := #[]
  cf := some (fileOf pool8 1 #[.nestHost 10] #[{ accessFlags := 1025, nameIndex := 5, descriptorIndex := 6, attributes := #[] }] 1536 3 #[] #[])
  fields := #[]
  methods := #[k8m0]
  instanceTypes := #[]
  staticTypes := #[]
  resolved := Array.replicate 14 none
  statics := none }

def pool9 : Array CpInfo := pool [(1, u "java/lang/Cloneable"), (0, .class_ 1), (0, u "java/lang/Object"), (0, .class_ 3)] 3

/-- java/lang/Cloneable -/
def k9 : Class := { plain "java/lang/Cloneable" (some 0) with
  accessFlags := 1537
  interfaces := #[]
  cf := some (fileOf pool9 2 #[] #[] 1537 4 #[] #[])
  fields := #[]
  methods := #[]
  instanceTypes := #[]
  staticTypes := #[]
  resolved := Array.replicate 8 none
  statics := none }

/-- the primitive byte -/
def k10 : Class := { plain "byte" none with kind := .primitive 'B', accessFlags := 0x411 }
/-- [B -/
def k11 : Class := { plain "[B" (some 0) with kind := .array 10 .byte, interfaces := #[9, 4], accessFlags := 1041 }

/-- the primitive int -/
def k12 : Class := { plain "int" none with kind := .primitive 'I', accessFlags := 0x411 }
/-- [I -/
def k13 : Class := { plain "[I" (some 0) with kind := .array 12 .int, interfaces := #[9, 4], accessFlags := 1041 }

def classes0 : Array Class := #[k0, k1, k2, k3, k4, k5, k6, k7, k8, k9, k10, k11, k12, k13]
/-- the class that the rule has made for the site at 33 of com/example/lim1/lim1/DelayModel.delays -/
def k14 : Class := Jvm.LamKit.madeRec { classes := classes0 } "com/example/lim1/lim1/DelayModel" (Jvm.Lambda.Shape.mk "com/example/lim1/lim1/DelayModel$Delays" "of" (Jvm.ClassFile.MethodDescriptor.mk ([Jvm.ClassFile.FieldType.int, Jvm.ClassFile.FieldType.int, Jvm.ClassFile.FieldType.long] : List Jvm.ClassFile.FieldType) (Option.some Jvm.ClassFile.FieldType.long)) ([Jvm.ClassFile.FieldType.long] : List Jvm.ClassFile.FieldType) (6 : Nat) "com/example/lim1/lim1/DelayModel" "lambda$delays$0" (Jvm.ClassFile.MethodDescriptor.mk ([Jvm.ClassFile.FieldType.long, Jvm.ClassFile.FieldType.int, Jvm.ClassFile.FieldType.int, Jvm.ClassFile.FieldType.long] : List Jvm.ClassFile.FieldType) (Option.some Jvm.ClassFile.FieldType.long)) false (Jvm.ClassFile.MethodDescriptor.mk ([Jvm.ClassFile.FieldType.int, Jvm.ClassFile.FieldType.int, Jvm.ClassFile.FieldType.long] : List Jvm.ClassFile.FieldType) (Option.some Jvm.ClassFile.FieldType.long))) 14

def heap : Heap := #[{ cls := 6, slots := #[.ref 1, .ref 2, .null], vm := .statics 6 },
  { cls := 6, slots := #[.null, .int 0, .int 0], vm := .none },
  { cls := 6, slots := #[.null, .int 1, .int 0], vm := .none }]
def classes : Array Class := #[k0, k1, k2, k3, k4, k5, k6, k7, k8, k9, k10, k11, k12, k13, k14]
def interned : List (Array UInt16 × Addr) := []
def slotsUsed : Nat := 9
def theMethod : MethodId := ⟨1, 1⟩
def args0 : Array Value := #[.int 4, .long 5, .long 7, .long 9, .long 11]
def aboutOver (below : List Frame) : State where
  vm := { classes := classes, interned := interned.toArray }
  heap := heap
  slotsUsed := slotsUsed
  threads := #[{ frames := .invoking theMethod args0 :: below }]
def below0 : List Frame := [.native { method := ⟨0, 0⟩, args := #[] }]
def about1 : State := aboutOver below0
def p0 : Program := .bare "" "" ""
def e0 : Env := launch0.env 0 0 0
theorem w_frames : about1.frames = Frame.invoking theMethod args0 :: below0 := rfl
set_option maxRecDepth 65536 in
theorem w_args : argsFit about1.vm theMethod args0 = true := by decide +kernel
set_option maxRecDepth 65536 in
theorem w_heap : heapFits about1 = true := by decide +kernel
set_option maxRecDepth 65536 in
theorem w_runnable : about1.curStatus? = some .runnable := by decide +kernel
set_option maxRecDepth 65536 in
theorem w_alone : about1.alone = true := by decide +kernel
set_option maxRecDepth 65536 in
theorem w_named : about1.methodNamed? x = some theMethod := by decide +kernel
set_option maxRecDepth 65536 in
theorem w_hears : about1.hears theMethod below0 = true := by decide +kernel
set_option maxRecDepth 65536 in
theorem w_ripe : about1.ripe theMethod args0 below0 = true := by decide +kernel
theorem w_running : about1.status = .running := rfl
set_option maxRecDepth 65536 in
theorem w_room : about1.hasRoom e0.platform room_1 = true :=
  launch0.hasRoom_least _ room_1 (by decide +kernel) (by decide +kernel) (by decide +kernel) (by decide +kernel) (by decide +kernel) (by decide +kernel)
theorem allAtoms_all (ts : List Jvm.Cond) (a : Array Jvm.Value) (st : Jvm.State) : (allAtoms ts).before a st = ts.all (fun c => c.before a st) := by
  induction ts with
  | nil => rfl
  | cons c t ih =>
    show (Jvm.Cond.and c (allAtoms t)).before a st = _
    rw [Jvm.Cond.before_and, ih, List.all_cons]
def words1 : List Jvm.Cond := Jvm.Cond.code x code maxLocals ret :: tables_1
/-- a 'code' word, met by the world's own term for the bytes: nothing is compared byte by byte -/
theorem code_word {y : MethodName} {bytes : ByteArray} {mx : Nat} {rt : Option FieldType} {a : Array Value} {s : State} {m : MethodId} {meth : Method} {c : Code} (h1 : s.methodNamed? y = some m) (h2 : s.vm.method? m = some meth) (h3 : meth.code = some c) (h4 : c.code = bytes)
    (h5 : (c.maxLocals == mx && c.exceptionTable.isEmpty && decide (c.maxStack ≤ mostOperands) && decide (meth.sig.returnType = rt) && !meth.locks && decide (parseMethodDescriptor y.desc = some meth.sig)) = true) : (Jvm.Cond.code y bytes mx rt).before a s = true := by
  simp only [Bool.and_eq_true, beq_iff_eq, Bool.not_eq_true', decide_eq_true_eq] at h5
  obtain ⟨⟨⟨⟨⟨g1, g2⟩, g3⟩, g4⟩, g5⟩, g6⟩ := h5
  simp [Cond.before, Cond.holds, Cond.value, h1, h2, h3, h4, g1, g2, g3, g4, g5, g6]
def isCode : Jvm.Cond → Bool
  | .code _ _ _ _ => true
  | _ => false
theorem all_split {L : List Jvm.Cond} {P : Jvm.Cond → Bool} (h1 : L.all (fun c => isCode c || P c) = true) (h2 : ∀ c ∈ L.filter isCode, P c = true) : L.all P = true := by
  refine List.all_eq_true.mpr fun c hc => ?_
  have h := List.all_eq_true.mp h1 c hc
  rcases Bool.eq_false_or_eq_true (isCode c) with hi | hi
  · exact h2 c (List.mem_filter.mpr ⟨hc, hi⟩)
  · simpa [hi] using h
set_option maxRecDepth 65536 in
theorem w_c0 : (Jvm.Cond.code x code maxLocals ret).before args0 about1 = true := code_word (m := ⟨1, 1⟩) (meth := k1m1) (c := k1c1) (by decide +kernel) rfl rfl rfl (by decide +kernel)
set_option maxRecDepth 65536 in
theorem w_c1 : (Jvm.Cond.code ({ cls := "com/example/lim1/lim1/DelayModel", name := "keepsOrderAcrossSenders", desc := "()Z" } : Jvm.MethodName) prog_9_method_6_code (1 : Nat) (Option.some Jvm.ClassFile.FieldType.boolean)).before args0 about1 = true := code_word (m := ⟨6, 0⟩) (meth := k6m0) (c := k6c0) (by decide +kernel) rfl rfl rfl (by decide +kernel)
set_option maxRecDepth 65536 in
theorem w_c2 : (Jvm.Cond.code ({ cls := "java/lang/Math", name := "min", desc := "(JJ)J" } : Jvm.MethodName) jdk_29_method_70_code (4 : Nat) (Option.some Jvm.ClassFile.FieldType.long)).before args0 about1 = true := code_word (m := ⟨7, 2⟩) (meth := k7m2) (c := k7c2) (by decide +kernel) rfl rfl rfl (by decide +kernel)
set_option maxRecDepth 65536 in
theorem w_c3 : (Jvm.Cond.code ({ cls := "java/lang/Math", name := "max", desc := "(JJ)J" } : Jvm.MethodName) jdk_29_method_66_code (4 : Nat) (Option.some Jvm.ClassFile.FieldType.long)).before args0 about1 = true := code_word (m := ⟨7, 1⟩) (meth := k7m1) (c := k7c1) (by decide +kernel) rfl rfl rfl (by decide +kernel)
set_option maxRecDepth 65536 in
theorem w_c4 : (Jvm.Cond.code ({ cls := "com/example/lim1/lim1/DelayModel", name := "delays", desc := "(JJI)Lcom/example/lim1/lim1/DelayModel$Delays;" } : Jvm.MethodName) prog_9_method_7_code (6 : Nat) (Option.some (Jvm.ClassFile.FieldType.object "com/example/lim1/lim1/DelayModel$Delays"))).before args0 about1 = true := code_word (m := ⟨6, 1⟩) (meth := k6m1) (c := k6c1) (by decide +kernel) rfl rfl rfl (by decide +kernel)
set_option maxRecDepth 65536 in
theorem w_c5 : (Jvm.Cond.code ({ cls := "java/lang/Enum", name := "ordinal", desc := "()I" } : Jvm.MethodName) jdk_37_method_2_code (1 : Nat) (Option.some Jvm.ClassFile.FieldType.int)).before args0 about1 = true := code_word (m := ⟨5, 0⟩) (meth := k5m0) (c := k5c0) (by decide +kernel) rfl rfl rfl (by decide +kernel)
set_option maxRecDepth 65536 in
theorem w_c6 : (Jvm.Cond.code ({ cls := "com/example/lim1/lim1/DelayModel", name := "lambda$delays$0", desc := "(JIIJ)J" } : Jvm.MethodName) prog_9_method_8_code (6 : Nat) (Option.some Jvm.ClassFile.FieldType.long)).before args0 about1 = true := code_word (m := ⟨6, 2⟩) (meth := k6m2) (c := k6c2) (by decide +kernel) rfl rfl rfl (by decide +kernel)
def codes1 : List Jvm.Cond := [Jvm.Cond.code x code maxLocals ret, Jvm.Cond.code ({ cls := "com/example/lim1/lim1/DelayModel", name := "keepsOrderAcrossSenders", desc := "()Z" } : Jvm.MethodName) prog_9_method_6_code (1 : Nat) (Option.some Jvm.ClassFile.FieldType.boolean), Jvm.Cond.code ({ cls := "java/lang/Math", name := "min", desc := "(JJ)J" } : Jvm.MethodName) jdk_29_method_70_code (4 : Nat) (Option.some Jvm.ClassFile.FieldType.long), Jvm.Cond.code ({ cls := "java/lang/Math", name := "max", desc := "(JJ)J" } : Jvm.MethodName) jdk_29_method_66_code (4 : Nat) (Option.some Jvm.ClassFile.FieldType.long), Jvm.Cond.code ({ cls := "com/example/lim1/lim1/DelayModel", name := "delays", desc := "(JJI)Lcom/example/lim1/lim1/DelayModel$Delays;" } : Jvm.MethodName) prog_9_method_7_code (6 : Nat) (Option.some (Jvm.ClassFile.FieldType.object "com/example/lim1/lim1/DelayModel$Delays")), Jvm.Cond.code ({ cls := "java/lang/Enum", name := "ordinal", desc := "()I" } : Jvm.MethodName) jdk_37_method_2_code (1 : Nat) (Option.some Jvm.ClassFile.FieldType.int), Jvm.Cond.code ({ cls := "com/example/lim1/lim1/DelayModel", name := "lambda$delays$0", desc := "(JIIJ)J" } : Jvm.MethodName) prog_9_method_8_code (6 : Nat) (Option.some Jvm.ClassFile.FieldType.long)]
set_option maxRecDepth 65536 in
theorem codes_eq : words1.filter isCode = codes1 := rfl
theorem w_codes : ∀ c ∈ words1.filter isCode, c.before args0 about1 = true := by
  rw [codes_eq]
  intro c hc
  simp only [codes1, List.mem_cons, List.not_mem_nil, or_false] at hc
  rcases hc with rfl | rfl | rfl | rfl | rfl | rfl | rfl
  · exact w_c0
  · exact w_c1
  · exact w_c2
  · exact w_c3
  · exact w_c4
  · exact w_c5
  · exact w_c6
set_option maxRecDepth 65536 in
theorem w_t1 : (words1.take 24).all (fun c => isCode c || c.before args0 about1) = true := by decide +kernel
set_option maxRecDepth 65536 in
theorem w_t2 : (words1.drop 24).all (fun c => isCode c || c.before args0 about1) = true := by decide +kernel
theorem w_tables : (allAtoms (Jvm.Cond.code x code maxLocals ret :: tables_1)).before args0 about1 = true := by
  rw [allAtoms_all]
  show words1.all (fun c => c.before args0 about1) = true
  refine all_split ?_ w_codes
  rw [← List.take_append_drop 24 words1, List.all_append, w_t1, w_t2]
  rfl
set_option maxRecDepth 65536 in
theorem w_case : (Jvm.Cond.and given_1 narrow_1).before args0 about1 = true := by decide +kernel
theorem w_applies : (headSpec (Jvm.Cond.code x code maxLocals ret :: tables_1) room_1).applies x e0.platform about1 = true :=
  (Spec.applies_iff w_frames).mpr ⟨w_running, w_runnable, w_alone, w_named, w_hears, w_ripe, w_room, w_tables⟩
theorem atStart : AtStart classFile x code maxLocals ret World_1 tables_1 room_1 Calls_1 rest_1 Pre_1 launch0 p0 e0 about1 theMethod args0 below0 :=
  ⟨lists_1, trivial, launch0.admits_env _ _ _, launch0.least_env, fairChoices_fair.cas, fairChoices_fair.clock, w_frames, w_args, w_heap, w_applies, trivial, trivial, w_case⟩
end start1
theorem witness_1 : WitnessClaimed_1 := ⟨start1.p0, start1.e0, start1.about1, start1.theMethod, start1.args0, start1.below0, start1.atStart⟩
end Jvm.Pilot.@@N@@
