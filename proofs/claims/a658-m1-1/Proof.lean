import JvmDerived
import JvmDerived.Pilot.@@N@@Statement
import JvmDerived.Pilot.@@N@@Code
set_option linter.unusedVariables false
set_option linter.unusedSimpArgs false
@@BLOCK:NumsL.lean.txt@@
namespace Jvm.Pilot.@@N@@
open Jvm Jvm.ClassFile Sem Op Lib Jvm.Free Jvm.Stand Jvm.LawKit Jvm.RoadKit Bundle Jvm.Pilot.@@N@@.Jvm.D
section Own
variable {p : Program} {l : Launch} {e : Env} {R : Room} {s : State} {m : MethodId} {args : Array Value} {below : List Frame} {meth : Method} {c : Code} {T : State} {locs : List Loc} {cells slots : Nat}
/-- the walk from the state t ends as the contract Q says; End: the narrow frame or the wide one -/
def Go (End : State → Outcome → State → List Loc → Nat → Nat → Prop) (p : Program) (e : Env) (below : List Frame) (s : State) (rc rs : Nat) (Q : Option Value → Heap → List Loc → Prop) (t : State) : Prop :=
  ∃ s₂ o, Steps p.tables e below t s₂ ∧ s₂.status = .running ∧ Ended s₂ below o ∧ ∃ v L, o = .returned v ∧ Q v s₂.heap L ∧ End s o s₂ L rc rs
variable {End : State → Outcome → State → List Loc → Nat → Nat → Prop}
theorem go {rc rs : Nat} {Q : Option Value → Heap → List Loc → Prop} {t t' : State} (k : ∀ target, Steps p.tables e below t' target → Steps p.tables e below t target) (h : Go End p e below s rc rs Q t') : Go End p e below s rc rs Q t := by
  obtain ⟨s₂, o, h1, h2⟩ := h
  exact ⟨s₂, o, k _ h1, h2⟩
theorem goT {rc rs : Nat} {Q : Option Value → Heap → List Loc → Prop} {t t' : State} (k : Steps p.tables e below t t') (h : Go End p e below s rc rs Q t') : Go End p e below s rc rs Q t := by
  obtain ⟨s₂, o, h1, h2⟩ := h
  exact ⟨s₂, o, k.trans h1, h2⟩
theorem goRet {rc rs : Nat} {Q : Option Value → Heap → List Loc → Prop} (X : Stand p l e R s m args below meth c T locs cells slots) (hx : p.tables.exec = Jvm.exec) (hlk : meth.locks = false) {pc : Nat} {Ls : Array Slot} {w : Value} {t : FieldType} {i : Instr} {rest : List Value} (hret : meth.sig.returnType = some t) (hn : narrow t w = w)
    (hi : (i = .ireturn ∧ (t = .int ∨ t = .boolean ∨ t = .byte ∨ t = .char ∨ t = .short) ∧ ∃ z, w = .int z) ∨ (i = .lreturn ∧ t = .long ∧ ∃ z, w = .long z) ∨ (i = .dreturn ∧ t = .double ∧ ∃ z, w = .double z) ∨ (i = .freturn ∧ t = .float ∧ ∃ z, w = .float z) ∨ (i = .areturn ∧ t.isReference = true ∧ w.isRef = true))
    (hd : decode c.code pc = .ok (i, 1)) (hc : cells ≤ rc) (hs : slots ≤ rs) (hq : Q (some w) T.heap locs) : Go FrameEnd p e below s rc rs Q (T.setTop (mkF m pc Ls (w :: rest))) := by
  obtain ⟨fs, hr, hrun, hended, hW, hsame⟩ := X.leave (v := some w) (fun h => by rw [hret] at h; cases h) hlk
  refine ⟨_, _, retOut X hx hret hn hi hd hr, hrun, hended, _, _, rfl, ?_, ⟨_, rfl⟩, hW, hsame.mono hc hs⟩
  show Q _ T.heap _
  exact hq
theorem goRetN {rc rs : Nat} {Q : Option Value → Heap → List Loc → Prop} (X : Stand p l e R s m args below meth c T locs cells slots) (hx : p.tables.exec = Jvm.exec) (hlk : meth.locks = false) {pc : Nat} {Ls : Array Slot} {z : Int32} {t : FieldType} {rest : List Value} (hret : meth.sig.returnType = some t) (ht : t = .boolean ∨ t = .byte ∨ t = .char ∨ t = .short)
    (hd : decode c.code pc = .ok (.ireturn, 1)) (hc : cells ≤ rc) (hs : slots ≤ rs) (hq : Q (some (.int (nar t z))) T.heap locs) : Go FrameEnd p e below s rc rs Q (T.setTop (mkF m pc Ls (.int z :: rest))) := by
  obtain ⟨fs, hr, hrun, hended, hW, hsame⟩ := X.leave (v := some (.int (nar t z))) (fun h => by rw [hret] at h; cases h) hlk
  refine ⟨_, _, retN X hx hret ht hd hr, hrun, hended, _, _, rfl, ?_, ⟨_, rfl⟩, hW, hsame.mono hc hs⟩
  show Q _ T.heap _
  exact hq
theorem goRet0 {rc rs : Nat} {Q : Option Value → Heap → List Loc → Prop} (X : Stand p l e R s m args below meth c T locs cells slots) (hx : p.tables.exec = Jvm.exec) (hlk : meth.locks = false) {pc : Nat} {Ls : Array Slot} (hret : meth.sig.returnType = none)
    (hd : decode c.code pc = .ok (.return_, 1)) (hc : cells ≤ rc) (hs : slots ≤ rs) (hq : Q none T.heap locs) : Go FrameEnd p e below s rc rs Q (T.setTop (mkF m pc Ls [])) := by
  obtain ⟨fs, hr, hrun, hended, hW, hsame⟩ := X.leave (v := none) (fun _ => rfl) hlk
  refine ⟨_, _, X.returnOut hx hret hd hr, hrun, hended, _, _, rfl, ?_, ⟨_, rfl⟩, hW, hsame.mono hc hs⟩
  show Q _ T.heap _
  exact hq
end Own
def own_e (x2 x3 : Int32) : Int32 := if x2 = 0 then 1 else if x2 = 1 then (if x3 = 0 then 0 else 1) else 0
def own_f (y x4 : Int32) : Int32 := if y = 0 then 0 else if x4 = 0 then 0 else 1
def own_n (y : Int32) : Int32 := if y = 0 then 1 else 0
def own_cr (x2 b : Int32) : Int32 := if x2 = 0 then (if b = 13 then 1 else 0) else 0
def own_lk (x : Int32) : Int32 := if x < 65537 then 0 else 1
def own_step (b : Int32) (x : Int32 × Int32 × Int32 × Int32 × Int32) : Int32 × Int32 × Int32 × Int32 × Int32 :=
  if b = 10 then (x.1 + 1, 0, x.2.2.1, nar .boolean (x.2.2.2.1 ||| own_n (own_e x.2.1 x.2.2.1)), nar .boolean (nar .boolean (own_f (own_e x.2.1 x.2.2.1) x.2.2.2.1) ||| own_lk (x.1 + 1)))
  else (x.1 + 1, x.2.1 + 1, nar .boolean (own_cr x.2.1 b), x.2.2.2.1, nar .boolean (x.2.2.2.2 ||| own_lk (x.1 + 1)))
def own_run (g : Nat → Int32) : Nat → Nat → Int32 × Int32 × Int32 × Int32 × Int32 → Int32 × Int32 × Int32 × Int32 × Int32
  | 0, _, x => x
  | f + 1, k, x => if x.2.2.2.2 = 0 then own_run g f (k + 1) (own_step (g k) x) else x
theorem own_run0 (g : Nat → Int32) (k : Nat) (x : Int32 × Int32 × Int32 × Int32 × Int32) : own_run g 0 k x = x := rfl
theorem own_runT {g : Nat → Int32} {f k : Nat} {x : Int32 × Int32 × Int32 × Int32 × Int32} (h : ¬ x.2.2.2.2 = 0) : own_run g (f + 1) k x = x := if_neg h
theorem own_runS {g : Nat → Int32} {f k : Nat} {x : Int32 × Int32 × Int32 × Int32 × Int32} (h : x.2.2.2.2 = 0) : own_run g (f + 1) k x = own_run g f (k + 1) (own_step (g k) x) := if_pos h
theorem own_os (a1 a2 : Addr) (p3 p4 i : Int32) {s5 : Slot} {v : Int32} (h : One s5) : storeLocals #[.val (.ref a1), .val (.ref a2), .val (.int p3), .val (.int p4), .val (.int i), s5] 5 (.int v) = some #[.val (.ref a1), .val (.ref a2), .val (.int p3), .val (.int p4), .val (.int i), .val (.int v)] := by
  rcases h with rfl | ⟨w, rfl, hw⟩
  · rfl
  · cases w <;> first | rfl | (simp [Value.category] at hw)
theorem own_ge {i t : Int32} {k f : Nat} (hi : i.toInt = (k : Int)) (ht : t.toInt = ((k + f : Nat) : Int)) (hf : f = 0) : ¬ i < t := by rw [Int32.lt_iff_toInt_lt]; omega
theorem own_lt {i t : Int32} {k f : Nat} (hi : i.toInt = (k : Int)) (ht : t.toInt = ((k + (f + 1) : Nat) : Int)) : i < t := by rw [Int32.lt_iff_toInt_lt]; omega
theorem own_in {i z : Int32} {k f : Nat} (hi : i.toInt = (k : Int)) (hz : ((k + (f + 1) : Nat) : Int) ≤ z.toInt) : ¬ i < 0 ∧ i < z := by
  rw [Int32.lt_iff_toInt_lt, Int32.lt_iff_toInt_lt, show (0 : Int32).toInt = 0 from by decide]; omega
theorem own_ix {i : Int32} {k : Nat} (hi : i.toInt = (k : Int)) : i.toNatClampNeg = k := by simp only [Int32.toNatClampNeg, hi]; rfl
theorem own_inc {i z : Int32} {k f : Nat} (hi : i.toInt = (k : Int)) (hz : ((k + (f + 1) : Nat) : Int) ≤ z.toInt) : (i + 1).toInt = ((k + 1 : Nat) : Int) := by
  have := Int32.toInt_lt z
  have h1 : (1 : Int32).toInt = 1 := by decide
  rw [Jvm.Kit.i32_add (by rw [h1]; omega) (by rw [h1]; omega), h1, hi]; rfl
theorem d1_0 : decode prog_37_method_1_code 0 = .ok (.aload_n 0, 1) := by decide +kernel
theorem d1_1 : decode prog_37_method_1_code 1 = .ok (.invokespecial 3, 3) := by decide +kernel
theorem d1_4 : decode prog_37_method_1_code 4 = .ok (.return_, 1) := by decide +kernel
theorem pn_1 : plainName "com/example/dosisbog/dosisbog/HttpRequest$HeadEnd" = true := by first | (simp [plainName, overriddenIn]; done) | decide +kernel
theorem ef_1 (m : MethodId) (a1 : Addr) : entryFrame m #[(.ref a1)] 1 = mkF m 0 #[.val (.ref a1)] [] := by first | (simp [entryFrame, mkF, argsToLocals, Value.category]; done) | rfl
def Q1 (Z : State) (a1 : Addr) (h0 : Heap) (n0 : Nat) (v : Option Value) (h : Heap) (L : List Loc) : Prop := v = none ∧ Fr n0 L ∧ (h = h0)
set_option maxRecDepth 65536 in
set_option maxHeartbeats 40000000 in
theorem rm1 (l : Launch) (Z : State) (a0 : Array Value) (hw : ∀ d ∈ tables_1, d.before a0 Z = true) (ws : List Jvm.Cond) (a1 : Addr) (h0 : Heap) (n0 : Nat) (Z0 : n0 ≤ h0.size)  :
    MetFree l (⟨"com/example/dosisbog/dosisbog/HttpRequest$HeadEnd", "<init>", "()V"⟩ : MethodName) (head1 (Jvm.Cond.code (⟨"com/example/dosisbog/dosisbog/HttpRequest$HeadEnd", "<init>", "()V"⟩ : MethodName) prog_37_method_1_code 1 none :: ws) ({ frames := 1, cells := 0, slots := 0, locals := 12 } : Room)) (fun a U => a = #[(.ref a1)] ∧ Z.Warmed39 U.vm ∧ U.heap = h0) (fun _ _ _ _ _ => True) (fun _ U o U' => ∃ v L, o = .returned v ∧ Q1 Z a1 h0 n0 v U'.heap L ∧ FrameEnd U o U' L ({ frames := 1, cells := 0, slots := 0, locals := 12 } : Room).cells ({ frames := 1, cells := 0, slots := 0, locals := 12 } : Room).slots) := by
  refine MetFree.of_bodySF (plainFor_of_name pn_1) hisR ?_
  intro p e s m args below meth c s₁ Bd hml0 hP hK
  obtain ⟨rfl, hZ, hh⟩ := hP
  have hx := Bd.exec
  have hby := Bd.bytes
  have hml : c.maxLocals = 1 := hml0
  have hown : s.vm.findClass "com/example/dosisbog/dosisbog/HttpRequest$HeadEnd" = some m.cls := findClass_of_methodNamed Bd.named
  have hnm := (name_of_methodNamed Bd.named Bd.method).1
  have X0 : Stand p l e ({ frames := 1, cells := 0, slots := 0, locals := 12 } : Room) s m #[(.ref a1)] below meth c s₁ [] 0 0 := Stand.of_body Bd
  have e0 : s₁.heap = h0 := by rw [← hh, Bd.state]; rfl
  have N0 := Fr.nil n0
  have hS0 : s.Since s.vm 0 := (State.WarmedH.refl s).since 0
  show Go FrameEnd p e below s ({ frames := 1, cells := 0, slots := 0, locals := 12 } : Room).cells ({ frames := 1, cells := 0, slots := 0, locals := 12 } : Room).slots (Q1 Z a1 h0 n0) (s₁.setTop (entryFrame m #[(.ref a1)] 1))
  refine go (fun _ k => castTop (ef_1 m a1) k) ?_
  show Go _ p e below s _ _ _ (s₁.setTop (mkF m 0 #[.val (.ref a1)] []))
  refine go (fun _ => XS.aloadN X0.here hx rfl (hb hby d1_0) rfl rfl) ?_
  show Go _ p e below s _ _ _ (s₁.setTop (mkF m 1 #[.val (.ref a1)] [(.ref a1)]))
  obtain ⟨T2, X2, e2, st2⟩ := initO X0 hx hZ hown (hw _ (List.mem_of_getElem? (i := 6) rfl)) (hw _ (List.mem_of_getElem? (i := 7) rfl)) (hw _ (List.mem_of_getElem? (i := 8) rfl)) e0 (g := (mkF m 1 #[.val (.ref a1)] [(.ref a1)])) rfl (by rw [hml]; rfl) rfl (hb hby d1_1) (by decide) (W := 0) (by show 2 * 0 + _ ≤ _; exact Nat.le_of_eq rfl) (by decide)
  refine go st2 ?_
  show Go _ p e below s _ _ _ (T2.setTop (mkF m 4 #[.val (.ref a1)] []))
  refine goRet0 X2 hx Bd.notSynchronized Bd.returns (hb hby d1_4) (by decide) (by decide) (by rw [e2]; refine ⟨rfl, N0, rfl⟩)
theorem d6_0 : decode prog_37_method_3_code 0 = .ok (.iload_n 2, 1) := by decide +kernel
theorem d6_1 : decode prog_37_method_3_code 1 = .ok (.istore 4, 2) := by decide +kernel
theorem d6_3 : decode prog_37_method_3_code 3 = .ok (.iload 4, 2) := by decide +kernel
theorem d6_5 : decode prog_37_method_3_code 5 = .ok (.iload_n 3, 1) := by decide +kernel
theorem d6_6 : decode prog_37_method_3_code 6 = .ok (.if_icmp .ge 170, 3) := by decide +kernel
theorem d6_9 : decode prog_37_method_3_code 9 = .ok (.aload_n 0, 1) := by decide +kernel
theorem d6_10 : decode prog_37_method_3_code 10 = .ok (.getfield 25, 3) := by decide +kernel
theorem d6_13 : decode prog_37_method_3_code 13 = .ok (.ifCond .ne 163, 3) := by decide +kernel
theorem d6_16 : decode prog_37_method_3_code 16 = .ok (.aload_n 0, 1) := by decide +kernel
theorem d6_17 : decode prog_37_method_3_code 17 = .ok (.dup, 1) := by decide +kernel
theorem d6_18 : decode prog_37_method_3_code 18 = .ok (.getfield 9, 3) := by decide +kernel
theorem d6_21 : decode prog_37_method_3_code 21 = .ok (.iconst 1, 1) := by decide +kernel
theorem d6_22 : decode prog_37_method_3_code 22 = .ok (.iadd, 1) := by decide +kernel
theorem d6_23 : decode prog_37_method_3_code 23 = .ok (.putfield 9, 3) := by decide +kernel
theorem d6_26 : decode prog_37_method_3_code 26 = .ok (.aload_n 1, 1) := by decide +kernel
theorem d6_27 : decode prog_37_method_3_code 27 = .ok (.iload 4, 2) := by decide +kernel
theorem d6_29 : decode prog_37_method_3_code 29 = .ok (.baload, 1) := by decide +kernel
theorem d6_30 : decode prog_37_method_3_code 30 = .ok (.bipush 10, 2) := by decide +kernel
theorem d6_32 : decode prog_37_method_3_code 32 = .ok (.if_icmp .ne 80, 3) := by decide +kernel
theorem d6_35 : decode prog_37_method_3_code 35 = .ok (.aload_n 0, 1) := by decide +kernel
theorem d6_36 : decode prog_37_method_3_code 36 = .ok (.getfield 15, 3) := by decide +kernel
theorem d6_39 : decode prog_37_method_3_code 39 = .ok (.ifCond .eq 18, 3) := by decide +kernel
theorem d6_42 : decode prog_37_method_3_code 42 = .ok (.aload_n 0, 1) := by decide +kernel
theorem d6_43 : decode prog_37_method_3_code 43 = .ok (.getfield 15, 3) := by decide +kernel
theorem d6_46 : decode prog_37_method_3_code 46 = .ok (.iconst 1, 1) := by decide +kernel
theorem d6_47 : decode prog_37_method_3_code 47 = .ok (.if_icmp .ne 14, 3) := by decide +kernel
theorem d6_50 : decode prog_37_method_3_code 50 = .ok (.aload_n 0, 1) := by decide +kernel
theorem d6_51 : decode prog_37_method_3_code 51 = .ok (.getfield 18, 3) := by decide +kernel
theorem d6_54 : decode prog_37_method_3_code 54 = .ok (.ifCond .eq 7, 3) := by decide +kernel
theorem d6_57 : decode prog_37_method_3_code 57 = .ok (.iconst 1, 1) := by decide +kernel
theorem d6_58 : decode prog_37_method_3_code 58 = .ok (.goto 4, 3) := by decide +kernel
theorem d6_61 : decode prog_37_method_3_code 61 = .ok (.iconst 0, 1) := by decide +kernel
theorem d6_62 : decode prog_37_method_3_code 62 = .ok (.istore 5, 2) := by decide +kernel
theorem d6_64 : decode prog_37_method_3_code 64 = .ok (.aload_n 0, 1) := by decide +kernel
theorem d6_65 : decode prog_37_method_3_code 65 = .ok (.iload 5, 2) := by decide +kernel
theorem d6_67 : decode prog_37_method_3_code 67 = .ok (.ifCond .eq 14, 3) := by decide +kernel
theorem d6_70 : decode prog_37_method_3_code 70 = .ok (.aload_n 0, 1) := by decide +kernel
theorem d6_71 : decode prog_37_method_3_code 71 = .ok (.getfield 22, 3) := by decide +kernel
theorem d6_74 : decode prog_37_method_3_code 74 = .ok (.ifCond .eq 7, 3) := by decide +kernel
theorem d6_77 : decode prog_37_method_3_code 77 = .ok (.iconst 1, 1) := by decide +kernel
theorem d6_78 : decode prog_37_method_3_code 78 = .ok (.goto 4, 3) := by decide +kernel
theorem d6_81 : decode prog_37_method_3_code 81 = .ok (.iconst 0, 1) := by decide +kernel
theorem d6_82 : decode prog_37_method_3_code 82 = .ok (.putfield 25, 3) := by decide +kernel
theorem d6_85 : decode prog_37_method_3_code 85 = .ok (.aload_n 0, 1) := by decide +kernel
theorem d6_86 : decode prog_37_method_3_code 86 = .ok (.dup, 1) := by decide +kernel
theorem d6_87 : decode prog_37_method_3_code 87 = .ok (.getfield 22, 3) := by decide +kernel
theorem d6_90 : decode prog_37_method_3_code 90 = .ok (.iload 5, 2) := by decide +kernel
theorem d6_92 : decode prog_37_method_3_code 92 = .ok (.ifCond .ne 7, 3) := by decide +kernel
theorem d6_95 : decode prog_37_method_3_code 95 = .ok (.iconst 1, 1) := by decide +kernel
theorem d6_96 : decode prog_37_method_3_code 96 = .ok (.goto 4, 3) := by decide +kernel
theorem d6_99 : decode prog_37_method_3_code 99 = .ok (.iconst 0, 1) := by decide +kernel
theorem d6_100 : decode prog_37_method_3_code 100 = .ok (.ior, 1) := by decide +kernel
theorem d6_101 : decode prog_37_method_3_code 101 = .ok (.putfield 22, 3) := by decide +kernel
theorem d6_104 : decode prog_37_method_3_code 104 = .ok (.aload_n 0, 1) := by decide +kernel
theorem d6_105 : decode prog_37_method_3_code 105 = .ok (.iconst 0, 1) := by decide +kernel
theorem d6_106 : decode prog_37_method_3_code 106 = .ok (.putfield 15, 3) := by decide +kernel
theorem d6_109 : decode prog_37_method_3_code 109 = .ok (.goto 38, 3) := by decide +kernel
theorem d6_112 : decode prog_37_method_3_code 112 = .ok (.aload_n 0, 1) := by decide +kernel
theorem d6_113 : decode prog_37_method_3_code 113 = .ok (.aload_n 0, 1) := by decide +kernel
theorem d6_114 : decode prog_37_method_3_code 114 = .ok (.getfield 15, 3) := by decide +kernel
theorem d6_117 : decode prog_37_method_3_code 117 = .ok (.ifCond .ne 16, 3) := by decide +kernel
theorem d6_120 : decode prog_37_method_3_code 120 = .ok (.aload_n 1, 1) := by decide +kernel
theorem d6_121 : decode prog_37_method_3_code 121 = .ok (.iload 4, 2) := by decide +kernel
theorem d6_123 : decode prog_37_method_3_code 123 = .ok (.baload, 1) := by decide +kernel
theorem d6_124 : decode prog_37_method_3_code 124 = .ok (.bipush 13, 2) := by decide +kernel
theorem d6_126 : decode prog_37_method_3_code 126 = .ok (.if_icmp .ne 7, 3) := by decide +kernel
theorem d6_129 : decode prog_37_method_3_code 129 = .ok (.iconst 1, 1) := by decide +kernel
theorem d6_130 : decode prog_37_method_3_code 130 = .ok (.goto 4, 3) := by decide +kernel
theorem d6_133 : decode prog_37_method_3_code 133 = .ok (.iconst 0, 1) := by decide +kernel
theorem d6_134 : decode prog_37_method_3_code 134 = .ok (.putfield 18, 3) := by decide +kernel
theorem d6_137 : decode prog_37_method_3_code 137 = .ok (.aload_n 0, 1) := by decide +kernel
theorem d6_138 : decode prog_37_method_3_code 138 = .ok (.dup, 1) := by decide +kernel
theorem d6_139 : decode prog_37_method_3_code 139 = .ok (.getfield 15, 3) := by decide +kernel
theorem d6_142 : decode prog_37_method_3_code 142 = .ok (.iconst 1, 1) := by decide +kernel
theorem d6_143 : decode prog_37_method_3_code 143 = .ok (.iadd, 1) := by decide +kernel
theorem d6_144 : decode prog_37_method_3_code 144 = .ok (.putfield 15, 3) := by decide +kernel
theorem d6_147 : decode prog_37_method_3_code 147 = .ok (.aload_n 0, 1) := by decide +kernel
theorem d6_148 : decode prog_37_method_3_code 148 = .ok (.dup, 1) := by decide +kernel
theorem d6_149 : decode prog_37_method_3_code 149 = .ok (.getfield 25, 3) := by decide +kernel
theorem d6_152 : decode prog_37_method_3_code 152 = .ok (.aload_n 0, 1) := by decide +kernel
theorem d6_153 : decode prog_37_method_3_code 153 = .ok (.getfield 9, 3) := by decide +kernel
theorem d6_156 : decode prog_37_method_3_code 156 = .ok (.ldc 28, 2) := by decide +kernel
theorem d6_158 : decode prog_37_method_3_code 158 = .ok (.if_icmp .lt 7, 3) := by decide +kernel
theorem d6_161 : decode prog_37_method_3_code 161 = .ok (.iconst 1, 1) := by decide +kernel
theorem d6_162 : decode prog_37_method_3_code 162 = .ok (.goto 4, 3) := by decide +kernel
theorem d6_165 : decode prog_37_method_3_code 165 = .ok (.iconst 0, 1) := by decide +kernel
theorem d6_166 : decode prog_37_method_3_code 166 = .ok (.ior, 1) := by decide +kernel
theorem d6_167 : decode prog_37_method_3_code 167 = .ok (.putfield 25, 3) := by decide +kernel
theorem d6_170 : decode prog_37_method_3_code 170 = .ok (.iinc 4 1, 3) := by decide +kernel
theorem d6_173 : decode prog_37_method_3_code 173 = .ok (.goto (-170), 3) := by decide +kernel
theorem d6_176 : decode prog_37_method_3_code 176 = .ok (.aload_n 0, 1) := by decide +kernel
theorem d6_177 : decode prog_37_method_3_code 177 = .ok (.getfield 25, 3) := by decide +kernel
theorem d6_180 : decode prog_37_method_3_code 180 = .ok (.ireturn, 1) := by decide +kernel
theorem pn_6 : plainName "com/example/dosisbog/dosisbog/HttpRequest$HeadEnd" = true := by first | (simp [plainName, overriddenIn]; done) | decide +kernel
theorem ef_6 (m : MethodId) (a1 : Addr) (a2 : Addr) (p3 : Int32) (p4 : Int32) : entryFrame m #[(.ref a1), (.ref a2), (.int p3), (.int p4)] 6 = mkF m 0 #[.val (.ref a1), .val (.ref a2), .val (.int p3), .val (.int p4), .unset, .unset] [] := by first | (simp [entryFrame, mkF, argsToLocals, Value.category]; done) | rfl
def Q6 (Z : State) (a1 : Addr) (a2 : Addr) (p3 : Int32) (p4 : Int32) (k1 : ClassId) (zl : Int32) (vs : List Value) (dv : Value) (g : Nat → Int32) (nn : Nat) (i0 : Nat) (y1 : Int32) (y2 : Int32) (y3 : Int32) (y4 : Int32) (y5 : Int32) (h0 : Heap) (n0 : Nat) (v : Option Value) (h : Heap) (L : List Loc) : Prop := ∃ (w1 : Int32), ∃ (w2 : Int32), ∃ (w3 : Int32), ∃ (w4 : Int32), ∃ (w5 : Int32), v = some (.int (nar .boolean w5)) ∧ Fr n0 L ∧ (Keep h0 h [a1]) ∧ (Fld Z h a1 "com/example/dosisbog/dosisbog/HttpRequest$HeadEnd" "looked" "I" (.int w1)) ∧ (Fld Z h a1 "com/example/dosisbog/dosisbog/HttpRequest$HeadEnd" "inLine" "I" (.int w2)) ∧ (Fld Z h a1 "com/example/dosisbog/dosisbog/HttpRequest$HeadEnd" "carriageReturn" "Z" (.int w3)) ∧ (Fld Z h a1 "com/example/dosisbog/dosisbog/HttpRequest$HeadEnd" "requestLine" "Z" (.int w4)) ∧ (Fld Z h a1 "com/example/dosisbog/dosisbog/HttpRequest$HeadEnd" "found" "Z" (.int w5)) ∧ ((w1, w2, w3, w4, w5) = (own_run g nn i0 (y1, y2, y3, y4, y5)))
set_option maxRecDepth 65536 in
set_option maxHeartbeats 40000000 in
theorem rm6 (l : Launch) (Z : State) (a0 : Array Value) (hw : ∀ d ∈ tables_1, d.before a0 Z = true) (ws : List Jvm.Cond) (a1 : Addr) (a2 : Addr) (p3 : Int32) (p4 : Int32) (k1 : ClassId) (zl : Int32) (vs : List Value) (dv : Value) (g : Nat → Int32) (nn : Nat) (i0 : Nat) (y1 : Int32) (y2 : Int32) (y3 : Int32) (y4 : Int32) (y5 : Int32) (h0 : Heap) (n0 : Nat) (Z0 : n0 ≤ h0.size) (P0 : Exa Z h0 a1 "com/example/dosisbog/dosisbog/HttpRequest$HeadEnd") (P1 : n0 ≤ a1) (P2 : Arv Z h0 a2 k1 .byte zl vs dv) (P3 : a1 ≠ a2) (P4 : Fld Z h0 a1 "com/example/dosisbog/dosisbog/HttpRequest$HeadEnd" "looked" "I" (.int y1)) (P5 : Fld Z h0 a1 "com/example/dosisbog/dosisbog/HttpRequest$HeadEnd" "inLine" "I" (.int y2)) (P6 : Fld Z h0 a1 "com/example/dosisbog/dosisbog/HttpRequest$HeadEnd" "carriageReturn" "Z" (.int y3)) (P7 : Fld Z h0 a1 "com/example/dosisbog/dosisbog/HttpRequest$HeadEnd" "requestLine" "Z" (.int y4)) (P8 : Fld Z h0 a1 "com/example/dosisbog/dosisbog/HttpRequest$HeadEnd" "found" "Z" (.int y5)) (hi0 : p3.toInt = (i0 : Int)) (hto : p4.toInt = ((i0 + nn : Nat) : Int)) (hzl : ((i0 + nn : Nat) : Int) ≤ zl.toInt) (hg : ∀ j, vs.getD j dv = .int (g j)) :
    MetFree l (⟨"com/example/dosisbog/dosisbog/HttpRequest$HeadEnd", "whole", "([BII)Z"⟩ : MethodName) (head1 (Jvm.Cond.code (⟨"com/example/dosisbog/dosisbog/HttpRequest$HeadEnd", "whole", "([BII)Z"⟩ : MethodName) prog_37_method_3_code 6 (some .boolean) :: ws) ({ frames := 0, cells := 0, slots := 0, locals := 0 } : Room)) (fun a U => a = #[(.ref a1), (.ref a2), (.int p3), (.int p4)] ∧ Z.Warmed39 U.vm ∧ U.heap = h0) (fun _ _ _ _ _ => True) (fun _ U o U' => ∃ v L, o = .returned v ∧ Q6 Z a1 a2 p3 p4 k1 zl vs dv g nn i0 y1 y2 y3 y4 y5 h0 n0 v U'.heap L ∧ FrameEnd U o U' L ({ frames := 0, cells := 0, slots := 0, locals := 0 } : Room).cells ({ frames := 0, cells := 0, slots := 0, locals := 0 } : Room).slots) := by
  refine MetFree.of_bodySF (plainFor_of_name pn_6) hisR ?_
  intro p e s m args below meth c s₁ Bd hml0 hP hK
  obtain ⟨rfl, hZ, hh⟩ := hP
  have hx := Bd.exec
  have hby := Bd.bytes
  have hml : c.maxLocals = 6 := hml0
  have hown : s.vm.findClass "com/example/dosisbog/dosisbog/HttpRequest$HeadEnd" = some m.cls := findClass_of_methodNamed Bd.named
  have hnm := (name_of_methodNamed Bd.named Bd.method).1
  have X0 : Stand p l e ({ frames := 0, cells := 0, slots := 0, locals := 0 } : Room) s m #[(.ref a1), (.ref a2), (.int p3), (.int p4)] below meth c s₁ [] 0 0 := Stand.of_body Bd
  have e0 : s₁.heap = h0 := by rw [← hh, Bd.state]; rfl
  have N0 := Fr.nil n0
  have hS0 : s.Since s.vm 0 := (State.WarmedH.refl s).since 0
  show Go FrameEnd p e below s ({ frames := 0, cells := 0, slots := 0, locals := 0 } : Room).cells ({ frames := 0, cells := 0, slots := 0, locals := 0 } : Room).slots (Q6 Z a1 a2 p3 p4 k1 zl vs dv g nn i0 y1 y2 y3 y4 y5 h0 n0) (s₁.setTop (entryFrame m #[(.ref a1), (.ref a2), (.int p3), (.int p4)] 6))
  refine go (fun _ k => castTop (ef_6 m a1 a2 p3 p4) k) ?_
  show Go _ p e below s _ _ _ (s₁.setTop (mkF m 0 #[.val (.ref a1), .val (.ref a2), .val (.int p3), .val (.int p4), .unset, .unset] []))
  refine go (fun _ => XS.iloadN X0.here hx rfl (hb hby d6_0) rfl) ?_
  show Go _ p e below s _ _ _ (s₁.setTop (mkF m 1 #[.val (.ref a1), .val (.ref a2), .val (.int p3), .val (.int p4), .unset, .unset] [(.int p3)]))
  refine go (fun _ => XS.istore X0.here hx rfl (hb hby d6_1) rfl (l' := #[.val (.ref a1), .val (.ref a2), .val (.int p3), .val (.int p4), .val (.int p3), .unset]) rfl) ?_
  show Go _ p e below s _ _ _ (s₁.setTop (mkF m 3 #[.val (.ref a1), .val (.ref a2), .val (.int p3), .val (.int p4), .val (.int p3), .unset] []))
  have LP : ∀ (f : Nat) (i : Int32) (k : Nat) (s5 : Slot) (x1 : Int32) (x2 : Int32) (x3 : Int32) (x4 : Int32) (x5 : Int32) (T47 : State) (locs47 : List Loc) (hh47 : Heap) (_ : Stand p l e ({ frames := 0, cells := 0, slots := 0, locals := 0 } : Room) s m #[(.ref a1), (.ref a2), (.int p3), (.int p4)] below meth c T47 locs47 0 0) (_ : T47.heap = hh47) (_ : Fr n0 locs47) (_ : Keep h0 hh47 [a1]) (_ : n0 ≤ hh47.size) (_ : Exa Z hh47 a1 "com/example/dosisbog/dosisbog/HttpRequest$HeadEnd") (_ : Arv Z hh47 a2 k1 .byte zl vs dv) (_ : Fld Z hh47 a1 "com/example/dosisbog/dosisbog/HttpRequest$HeadEnd" "looked" "I" (.int x1)) (_ : Fld Z hh47 a1 "com/example/dosisbog/dosisbog/HttpRequest$HeadEnd" "inLine" "I" (.int x2)) (_ : Fld Z hh47 a1 "com/example/dosisbog/dosisbog/HttpRequest$HeadEnd" "carriageReturn" "Z" (.int x3)) (_ : Fld Z hh47 a1 "com/example/dosisbog/dosisbog/HttpRequest$HeadEnd" "requestLine" "Z" (.int x4)) (_ : Fld Z hh47 a1 "com/example/dosisbog/dosisbog/HttpRequest$HeadEnd" "found" "Z" (.int x5)), (One s5) → (i.toInt = (k : Int)) → (p4.toInt = ((k + f : Nat) : Int)) → (((k + f : Nat) : Int) ≤ zl.toInt) → (own_run g f k (x1, x2, x3, x4, x5) = (own_run g nn i0 (y1, y2, y3, y4, y5))) → Go FrameEnd p e below s ({ frames := 0, cells := 0, slots := 0, locals := 0 } : Room).cells ({ frames := 0, cells := 0, slots := 0, locals := 0 } : Room).slots (Q6 Z a1 a2 p3 p4 k1 zl vs dv g nn i0 y1 y2 y3 y4 y5 h0 n0) (T47.setTop (mkF m 3 #[.val (.ref a1), .val (.ref a2), .val (.int p3), .val (.int p4), .val (.int i), s5] [])) := by
    intro f
    induction f with
    | zero =>
      intro i k s5 x1 x2 x3 x4 x5 T47 locs47 hh47 X47 e47 NF47 KK47 ZN47 ff47_0 ff47_1 ff47_2 ff47_3 ff47_4 ff47_5 ff47_6 hs5 hi ht hz hr
      show Go _ p e below s _ _ _ (T47.setTop (mkF m 3 #[.val (.ref a1), .val (.ref a2), .val (.int p3), .val (.int p4), .val (.int i), s5] []))
      refine go (fun _ => XS.iload X47.here hx rfl (hb hby d6_3) rfl) ?_
      show Go _ p e below s _ _ _ (T47.setTop (mkF m 5 #[.val (.ref a1), .val (.ref a2), .val (.int p3), .val (.int p4), .val (.int i), s5] [(.int i)]))
      refine go (fun _ => XS.iloadN X47.here hx rfl (hb hby d6_5) rfl) ?_
      show Go _ p e below s _ _ _ (T47.setTop (mkF m 6 #[.val (.ref a1), .val (.ref a2), .val (.int p3), .val (.int p4), .val (.int i), s5] [(.int p4), (.int i)]))
      refine go (fun _ => XS.icmpYes X47.here hx rfl (pc0 := 6) (pc' := 176) rfl (hb hby d6_6) rfl (flt (own_ge hi ht rfl)).2.1 (by decide) (by decide)) ?_
      show Go _ p e below s _ _ _ (T47.setTop (mkF m 176 #[.val (.ref a1), .val (.ref a2), .val (.int p3), .val (.int p4), .val (.int i), s5] []))
      refine go (fun _ => XS.aloadN X47.here hx rfl (hb hby d6_176) rfl rfl) ?_
      show Go _ p e below s _ _ _ (T47.setTop (mkF m 177 #[.val (.ref a1), .val (.ref a2), .val (.int p3), .val (.int p4), .val (.int i), s5] [(.ref a1)]))
      obtain ⟨T48, X48, e48, st48⟩ := getF X47 hx hZ hown (host := "") (Or.inl (hw _ (List.mem_of_getElem? (i := 26) rfl))) Via.refl e47 ff47_6 (g := (mkF m 177 #[.val (.ref a1), .val (.ref a2), .val (.int p3), .val (.int p4), .val (.int i), s5] [(.ref a1)])) rfl rfl (hb hby d6_177)
      refine go st48 ?_
      show Go _ p e below s _ _ _ (T48.setTop (mkF m 180 #[.val (.ref a1), .val (.ref a2), .val (.int p3), .val (.int p4), .val (.int i), s5] [(.int x5)]))
      refine goRetN X48 hx Bd.notSynchronized (t := .boolean) Bd.returns (by simp) (hb hby d6_180) (by decide) (by decide) (by rw [e48]; refine ⟨x1, x2, x3, x4, x5, rfl, NF47, KK47, ff47_2, ff47_3, ff47_4, ff47_5, ff47_6, hr⟩)
    | succ f ih =>
      intro i k s5 x1 x2 x3 x4 x5 T47 locs47 hh47 X47 e47 NF47 KK47 ZN47 ff47_0 ff47_1 ff47_2 ff47_3 ff47_4 ff47_5 ff47_6 hs5 hi ht hz hr
      show Go _ p e below s _ _ _ (T47.setTop (mkF m 3 #[.val (.ref a1), .val (.ref a2), .val (.int p3), .val (.int p4), .val (.int i), s5] []))
      refine go (fun _ => XS.iload X47.here hx rfl (hb hby d6_3) rfl) ?_
      show Go _ p e below s _ _ _ (T47.setTop (mkF m 5 #[.val (.ref a1), .val (.ref a2), .val (.int p3), .val (.int p4), .val (.int i), s5] [(.int i)]))
      refine go (fun _ => XS.iloadN X47.here hx rfl (hb hby d6_5) rfl) ?_
      show Go _ p e below s _ _ _ (T47.setTop (mkF m 6 #[.val (.ref a1), .val (.ref a2), .val (.int p3), .val (.int p4), .val (.int i), s5] [(.int p4), (.int i)]))
      refine go (fun _ => XS.icmpNo X47.here hx rfl (hb hby d6_6) rfl (tlt (own_lt hi ht)).2.1) ?_
      show Go _ p e below s _ _ _ (T47.setTop (mkF m 9 #[.val (.ref a1), .val (.ref a2), .val (.int p3), .val (.int p4), .val (.int i), s5] []))
      refine go (fun _ => XS.aloadN X47.here hx rfl (hb hby d6_9) rfl rfl) ?_
      show Go _ p e below s _ _ _ (T47.setTop (mkF m 10 #[.val (.ref a1), .val (.ref a2), .val (.int p3), .val (.int p4), .val (.int i), s5] [(.ref a1)]))
      obtain ⟨T49, X49, e49, st49⟩ := getF X47 hx hZ hown (host := "") (Or.inl (hw _ (List.mem_of_getElem? (i := 26) rfl))) Via.refl e47 ff47_6 (g := (mkF m 10 #[.val (.ref a1), .val (.ref a2), .val (.int p3), .val (.int p4), .val (.int i), s5] [(.ref a1)])) rfl rfl (hb hby d6_10)
      refine go st49 ?_
      show Go _ p e below s _ _ _ (T49.setTop (mkF m 13 #[.val (.ref a1), .val (.ref a2), .val (.int p3), .val (.int p4), .val (.int i), s5] [(.int x5)]))
      by_cases hc13_50 : x5 = (0 : Int32)
      · refine go (fun _ => XS.ifNo X49.here hx rfl (hb hby d6_13) rfl ((if0 _ _).trans (teq hc13_50).2)) ?_
        show Go _ p e below s _ _ _ (T49.setTop (mkF m 16 #[.val (.ref a1), .val (.ref a2), .val (.int p3), .val (.int p4), .val (.int i), s5] []))
        refine go (fun _ => XS.aloadN X49.here hx rfl (hb hby d6_16) rfl rfl) ?_
        show Go _ p e below s _ _ _ (T49.setTop (mkF m 17 #[.val (.ref a1), .val (.ref a2), .val (.int p3), .val (.int p4), .val (.int i), s5] [(.ref a1)]))
        refine go (fun _ => XS.dup X49.here hx rfl (hb hby d6_17) rfl rfl) ?_
        show Go _ p e below s _ _ _ (T49.setTop (mkF m 18 #[.val (.ref a1), .val (.ref a2), .val (.int p3), .val (.int p4), .val (.int i), s5] [(.ref a1), (.ref a1)]))
        obtain ⟨T51, X51, e51, st51⟩ := getF X49 hx hZ hown (host := "") (Or.inl (hw _ (List.mem_of_getElem? (i := 28) rfl))) Via.refl e49 ff47_2 (g := (mkF m 18 #[.val (.ref a1), .val (.ref a2), .val (.int p3), .val (.int p4), .val (.int i), s5] [(.ref a1), (.ref a1)])) rfl rfl (hb hby d6_18)
        refine go st51 ?_
        show Go _ p e below s _ _ _ (T51.setTop (mkF m 21 #[.val (.ref a1), .val (.ref a2), .val (.int p3), .val (.int p4), .val (.int i), s5] [(.int x1), (.ref a1)]))
        refine go (fun _ => XS.iconst X51.here hx rfl (hb hby d6_21)) ?_
        show Go _ p e below s _ _ _ (T51.setTop (mkF m 22 #[.val (.ref a1), .val (.ref a2), .val (.int p3), .val (.int p4), .val (.int i), s5] [(.int (1 : Int32)), (.int x1), (.ref a1)]))
        refine go (fun _ => XS.iadd X51.here hx rfl (hb hby d6_22) rfl) ?_
        show Go _ p e below s _ _ _ (T51.setTop (mkF m 23 #[.val (.ref a1), .val (.ref a2), .val (.int p3), .val (.int p4), .val (.int i), s5] [(.int (x1 + (1 : Int32))), (.ref a1)]))
        obtain ⟨T52, h52, X52, e52, W52, st52⟩ := putF X51 hx hZ hown (host := "") (Or.inl (hw _ (List.mem_of_getElem? (i := 28) rfl))) Via.refl e51 ff47_2 ff47_0 (Or.inl (hw _ (List.mem_of_getElem? (i := 29) rfl))) (hw _ (List.mem_of_getElem? (i := 1) rfl)) (ty := .int) (by decide) rfl rfl (g := (mkF m 23 #[.val (.ref a1), .val (.ref a2), .val (.int p3), .val (.int p4), .val (.int i), s5] [(.int (x1 + (1 : Int32))), (.ref a1)])) rfl rfl (hb hby d6_23)
        have Fw52 := ff47_2.same W52
        have c52_0 := ff47_0.wr W52
        have c52_1 := ff47_1.other W52 (Ne.symm P3)
        have c52_3 := ff47_3.other W52 (Or.inr (slot_ne (Or.inl (hw _ (List.mem_of_getElem? (i := 31) rfl))) (Or.inl (hw _ (List.mem_of_getElem? (i := 29) rfl))) (by decide) (t := .int) (t' := .int) (by decide) (by decide)))
        have c52_4 := ff47_4.other W52 (Or.inr (slot_ne (Or.inl (hw _ (List.mem_of_getElem? (i := 33) rfl))) (Or.inl (hw _ (List.mem_of_getElem? (i := 29) rfl))) (by decide) (t := .boolean) (t' := .int) (by decide) (by decide)))
        have c52_5 := ff47_5.other W52 (Or.inr (slot_ne (Or.inl (hw _ (List.mem_of_getElem? (i := 36) rfl))) (Or.inl (hw _ (List.mem_of_getElem? (i := 29) rfl))) (by decide) (t := .boolean) (t' := .int) (by decide) (by decide)))
        have c52_6 := ff47_6.other W52 (Or.inr (slot_ne (Or.inl (hw _ (List.mem_of_getElem? (i := 27) rfl))) (Or.inl (hw _ (List.mem_of_getElem? (i := 29) rfl))) (by decide) (t := .boolean) (t' := .int) (by decide) (by decide)))
        have KK52 : Keep h0 h52 [a1] := KK47.wr W52 (Or.inl (List.mem_of_getElem? (i := 0) rfl))
        have ZN52 : n0 ≤ h52.size := Nat.le_trans ZN47 (Keep.of_wr W52).1
        have NN52 := Fr.snoc X52 NF47 P1
        refine go st52 ?_
        show Go _ p e below s _ _ _ (T52.setTop (mkF m 26 #[.val (.ref a1), .val (.ref a2), .val (.int p3), .val (.int p4), .val (.int i), s5] []))
        refine go (fun _ => XS.aloadN X52.here hx rfl (hb hby d6_26) rfl rfl) ?_
        show Go _ p e below s _ _ _ (T52.setTop (mkF m 27 #[.val (.ref a1), .val (.ref a2), .val (.int p3), .val (.int p4), .val (.int i), s5] [(.ref a2)]))
        refine go (fun _ => XS.iload X52.here hx rfl (hb hby d6_27) rfl) ?_
        show Go _ p e below s _ _ _ (T52.setTop (mkF m 29 #[.val (.ref a1), .val (.ref a2), .val (.int p3), .val (.int p4), .val (.int i), s5] [(.int i), (.ref a2)]))
        obtain ⟨cl53, Ar53, q53, Sz53, Nz53, Hs53, Gs53⟩ := id c52_1
        have hin53 : ¬ (i < 0 ∨ cl53.slots.size ≤ (i).toNatClampNeg) := inb_of Sz53 (own_in hi hz)
        refine go (X52.baloadBytes hx (j := i) (v := (.int (g k))) (by rw [e52]; exact Ar53.1) (State.isArrayOf_alike hZ.alike Ar53.2.1) Ar53.2.2 hin53 (Hs53.at hin53 (by rw [own_ix hi]; exact hg k)) (g := (mkF m 29 #[.val (.ref a1), .val (.ref a2), .val (.int p3), .val (.int p4), .val (.int i), s5] [(.int i), (.ref a2)])) rfl rfl (hb hby d6_29)) ?_
        show Go _ p e below s _ _ _ (T52.setTop (mkF m 30 #[.val (.ref a1), .val (.ref a2), .val (.int p3), .val (.int p4), .val (.int i), s5] [(.int (g k))]))
        refine go (fun _ => XS.bipush X52.here hx rfl (hb hby d6_30)) ?_
        show Go _ p e below s _ _ _ (T52.setTop (mkF m 32 #[.val (.ref a1), .val (.ref a2), .val (.int p3), .val (.int p4), .val (.int i), s5] [(.int (10 : Int32)), (.int (g k))]))
        by_cases hc32_54 : (g k) = (10 : Int32)
        · refine go (fun _ => XS.icmpNo X52.here hx rfl (hb hby d6_32) rfl (teq hc32_54).2) ?_
          show Go _ p e below s _ _ _ (T52.setTop (mkF m 35 #[.val (.ref a1), .val (.ref a2), .val (.int p3), .val (.int p4), .val (.int i), s5] []))
          have JA : ∀ (z1 : Int32) (T55 : State) (locs55 : List Loc) (_ : Stand p l e ({ frames := 0, cells := 0, slots := 0, locals := 0 } : Room) s m #[(.ref a1), (.ref a2), (.int p3), (.int p4)] below meth c T55 locs55 0 0) (_ : T55.heap = h52) (_ : Fr n0 locs55), (z1 = own_e x2 x3) → Go FrameEnd p e below s ({ frames := 0, cells := 0, slots := 0, locals := 0 } : Room).cells ({ frames := 0, cells := 0, slots := 0, locals := 0 } : Room).slots (Q6 Z a1 a2 p3 p4 k1 zl vs dv g nn i0 y1 y2 y3 y4 y5 h0 n0) (T55.setTop (mkF m 62 #[.val (.ref a1), .val (.ref a2), .val (.int p3), .val (.int p4), .val (.int i), s5] [(.int z1)])) := by
            intro z1 T55 locs55 X55 e55 NF55 hz1
            show Go _ p e below s _ _ _ (T55.setTop (mkF m 62 #[.val (.ref a1), .val (.ref a2), .val (.int p3), .val (.int p4), .val (.int i), s5] [(.int z1)]))
            refine go (fun _ => XS.istore X55.here hx rfl (hb hby d6_62) rfl (l' := #[.val (.ref a1), .val (.ref a2), .val (.int p3), .val (.int p4), .val (.int i), .val (.int z1)]) (own_os _ _ _ _ _ hs5)) ?_
            show Go _ p e below s _ _ _ (T55.setTop (mkF m 64 #[.val (.ref a1), .val (.ref a2), .val (.int p3), .val (.int p4), .val (.int i), .val (.int z1)] []))
            refine go (fun _ => XS.aloadN X55.here hx rfl (hb hby d6_64) rfl rfl) ?_
            show Go _ p e below s _ _ _ (T55.setTop (mkF m 65 #[.val (.ref a1), .val (.ref a2), .val (.int p3), .val (.int p4), .val (.int i), .val (.int z1)] [(.ref a1)]))
            have JB : ∀ (z2 : Int32) (T56 : State) (locs56 : List Loc) (_ : Stand p l e ({ frames := 0, cells := 0, slots := 0, locals := 0 } : Room) s m #[(.ref a1), (.ref a2), (.int p3), (.int p4)] below meth c T56 locs56 0 0) (_ : T56.heap = h52) (_ : Fr n0 locs56), (z2 = own_f z1 x4) → Go FrameEnd p e below s ({ frames := 0, cells := 0, slots := 0, locals := 0 } : Room).cells ({ frames := 0, cells := 0, slots := 0, locals := 0 } : Room).slots (Q6 Z a1 a2 p3 p4 k1 zl vs dv g nn i0 y1 y2 y3 y4 y5 h0 n0) (T56.setTop (mkF m 82 #[.val (.ref a1), .val (.ref a2), .val (.int p3), .val (.int p4), .val (.int i), .val (.int z1)] [(.int z2), (.ref a1)])) := by
              intro z2 T56 locs56 X56 e56 NF56 hz2
              show Go _ p e below s _ _ _ (T56.setTop (mkF m 82 #[.val (.ref a1), .val (.ref a2), .val (.int p3), .val (.int p4), .val (.int i), .val (.int z1)] [(.int z2), (.ref a1)]))
              obtain ⟨T57, h57, X57, e57, W57, st57⟩ := putFN X56 hx hZ hown (hw _ (List.mem_of_getElem? (i := 26) rfl)) Via.refl e56 c52_6 c52_0 (Or.inl (hw _ (List.mem_of_getElem? (i := 27) rfl))) (hw _ (List.mem_of_getElem? (i := 1) rfl)) (ty := .boolean) (v' := (.int (nar .boolean z2))) (by decide) rfl (fits_nar_bool _) (g := (mkF m 82 #[.val (.ref a1), .val (.ref a2), .val (.int p3), .val (.int p4), .val (.int i), .val (.int z1)] [(.int z2), (.ref a1)])) rfl rfl (hb hby d6_82)
              have Fw57 := c52_6.same W57
              have c57_0 := c52_0.wr W57
              have c57_1 := c52_1.other W57 (Ne.symm P3)
              have c57_2 := Fw52.other W57 (Or.inr (slot_ne (Or.inl (hw _ (List.mem_of_getElem? (i := 29) rfl))) (Or.inl (hw _ (List.mem_of_getElem? (i := 27) rfl))) (by decide) (t := .int) (t' := .boolean) (by decide) (by decide)))
              have c57_3 := c52_3.other W57 (Or.inr (slot_ne (Or.inl (hw _ (List.mem_of_getElem? (i := 31) rfl))) (Or.inl (hw _ (List.mem_of_getElem? (i := 27) rfl))) (by decide) (t := .int) (t' := .boolean) (by decide) (by decide)))
              have c57_4 := c52_4.other W57 (Or.inr (slot_ne (Or.inl (hw _ (List.mem_of_getElem? (i := 33) rfl))) (Or.inl (hw _ (List.mem_of_getElem? (i := 27) rfl))) (by decide) (t := .boolean) (t' := .boolean) (by decide) (by decide)))
              have c57_5 := c52_5.other W57 (Or.inr (slot_ne (Or.inl (hw _ (List.mem_of_getElem? (i := 36) rfl))) (Or.inl (hw _ (List.mem_of_getElem? (i := 27) rfl))) (by decide) (t := .boolean) (t' := .boolean) (by decide) (by decide)))
              have KK57 : Keep h0 h57 [a1] := KK52.wr W57 (Or.inl (List.mem_of_getElem? (i := 0) rfl))
              have ZN57 : n0 ≤ h57.size := Nat.le_trans ZN52 (Keep.of_wr W57).1
              have NN57 := Fr.snoc X57 NF56 P1
              refine go st57 ?_
              show Go _ p e below s _ _ _ (T57.setTop (mkF m 85 #[.val (.ref a1), .val (.ref a2), .val (.int p3), .val (.int p4), .val (.int i), .val (.int z1)] []))
              refine go (fun _ => XS.aloadN X57.here hx rfl (hb hby d6_85) rfl rfl) ?_
              show Go _ p e below s _ _ _ (T57.setTop (mkF m 86 #[.val (.ref a1), .val (.ref a2), .val (.int p3), .val (.int p4), .val (.int i), .val (.int z1)] [(.ref a1)]))
              refine go (fun _ => XS.dup X57.here hx rfl (hb hby d6_86) rfl rfl) ?_
              show Go _ p e below s _ _ _ (T57.setTop (mkF m 87 #[.val (.ref a1), .val (.ref a2), .val (.int p3), .val (.int p4), .val (.int i), .val (.int z1)] [(.ref a1), (.ref a1)]))
              obtain ⟨T58, X58, e58, st58⟩ := getF X57 hx hZ hown (host := "") (Or.inl (hw _ (List.mem_of_getElem? (i := 35) rfl))) Via.refl e57 c57_5 (g := (mkF m 87 #[.val (.ref a1), .val (.ref a2), .val (.int p3), .val (.int p4), .val (.int i), .val (.int z1)] [(.ref a1), (.ref a1)])) rfl rfl (hb hby d6_87)
              refine go st58 ?_
              show Go _ p e below s _ _ _ (T58.setTop (mkF m 90 #[.val (.ref a1), .val (.ref a2), .val (.int p3), .val (.int p4), .val (.int i), .val (.int z1)] [(.int x4), (.ref a1)]))
              have JC : ∀ (z3 : Int32) (T59 : State) (locs59 : List Loc) (_ : Stand p l e ({ frames := 0, cells := 0, slots := 0, locals := 0 } : Room) s m #[(.ref a1), (.ref a2), (.int p3), (.int p4)] below meth c T59 locs59 0 0) (_ : T59.heap = h57) (_ : Fr n0 locs59), (z3 = own_n z1) → Go FrameEnd p e below s ({ frames := 0, cells := 0, slots := 0, locals := 0 } : Room).cells ({ frames := 0, cells := 0, slots := 0, locals := 0 } : Room).slots (Q6 Z a1 a2 p3 p4 k1 zl vs dv g nn i0 y1 y2 y3 y4 y5 h0 n0) (T59.setTop (mkF m 100 #[.val (.ref a1), .val (.ref a2), .val (.int p3), .val (.int p4), .val (.int i), .val (.int z1)] [(.int z3), (.int x4), (.ref a1)])) := by
                intro z3 T59 locs59 X59 e59 NF59 hz3
                show Go _ p e below s _ _ _ (T59.setTop (mkF m 100 #[.val (.ref a1), .val (.ref a2), .val (.int p3), .val (.int p4), .val (.int i), .val (.int z1)] [(.int z3), (.int x4), (.ref a1)]))
                refine go (fun _ => XS.ior X59.here hx rfl (hb hby d6_100) rfl) ?_
                show Go _ p e below s _ _ _ (T59.setTop (mkF m 101 #[.val (.ref a1), .val (.ref a2), .val (.int p3), .val (.int p4), .val (.int i), .val (.int z1)] [(.int (x4 ||| z3)), (.ref a1)]))
                obtain ⟨T60, h60, X60, e60, W60, st60⟩ := putFN X59 hx hZ hown (hw _ (List.mem_of_getElem? (i := 35) rfl)) Via.refl e59 c57_5 c57_0 (Or.inl (hw _ (List.mem_of_getElem? (i := 36) rfl))) (hw _ (List.mem_of_getElem? (i := 1) rfl)) (ty := .boolean) (v' := (.int (nar .boolean (x4 ||| z3)))) (by decide) rfl (fits_nar_bool _) (g := (mkF m 101 #[.val (.ref a1), .val (.ref a2), .val (.int p3), .val (.int p4), .val (.int i), .val (.int z1)] [(.int (x4 ||| z3)), (.ref a1)])) rfl rfl (hb hby d6_101)
                have Fw60 := c57_5.same W60
                have c60_0 := c57_0.wr W60
                have c60_1 := c57_1.other W60 (Ne.symm P3)
                have c60_2 := c57_2.other W60 (Or.inr (slot_ne (Or.inl (hw _ (List.mem_of_getElem? (i := 29) rfl))) (Or.inl (hw _ (List.mem_of_getElem? (i := 36) rfl))) (by decide) (t := .int) (t' := .boolean) (by decide) (by decide)))
                have c60_3 := c57_3.other W60 (Or.inr (slot_ne (Or.inl (hw _ (List.mem_of_getElem? (i := 31) rfl))) (Or.inl (hw _ (List.mem_of_getElem? (i := 36) rfl))) (by decide) (t := .int) (t' := .boolean) (by decide) (by decide)))
                have c60_4 := c57_4.other W60 (Or.inr (slot_ne (Or.inl (hw _ (List.mem_of_getElem? (i := 33) rfl))) (Or.inl (hw _ (List.mem_of_getElem? (i := 36) rfl))) (by decide) (t := .boolean) (t' := .boolean) (by decide) (by decide)))
                have c60_6 := Fw57.other W60 (Or.inr (slot_ne (Or.inl (hw _ (List.mem_of_getElem? (i := 27) rfl))) (Or.inl (hw _ (List.mem_of_getElem? (i := 36) rfl))) (by decide) (t := .boolean) (t' := .boolean) (by decide) (by decide)))
                have KK60 : Keep h0 h60 [a1] := KK57.wr W60 (Or.inl (List.mem_of_getElem? (i := 0) rfl))
                have ZN60 : n0 ≤ h60.size := Nat.le_trans ZN57 (Keep.of_wr W60).1
                have NN60 := Fr.snoc X60 NF59 P1
                refine go st60 ?_
                show Go _ p e below s _ _ _ (T60.setTop (mkF m 104 #[.val (.ref a1), .val (.ref a2), .val (.int p3), .val (.int p4), .val (.int i), .val (.int z1)] []))
                refine go (fun _ => XS.aloadN X60.here hx rfl (hb hby d6_104) rfl rfl) ?_
                show Go _ p e below s _ _ _ (T60.setTop (mkF m 105 #[.val (.ref a1), .val (.ref a2), .val (.int p3), .val (.int p4), .val (.int i), .val (.int z1)] [(.ref a1)]))
                refine go (fun _ => XS.iconst X60.here hx rfl (hb hby d6_105)) ?_
                show Go _ p e below s _ _ _ (T60.setTop (mkF m 106 #[.val (.ref a1), .val (.ref a2), .val (.int p3), .val (.int p4), .val (.int i), .val (.int z1)] [(.int (0 : Int32)), (.ref a1)]))
                obtain ⟨T61, h61, X61, e61, W61, st61⟩ := putF X60 hx hZ hown (host := "") (Or.inl (hw _ (List.mem_of_getElem? (i := 30) rfl))) Via.refl e60 c60_3 c60_0 (Or.inl (hw _ (List.mem_of_getElem? (i := 31) rfl))) (hw _ (List.mem_of_getElem? (i := 1) rfl)) (ty := .int) (by decide) rfl rfl (g := (mkF m 106 #[.val (.ref a1), .val (.ref a2), .val (.int p3), .val (.int p4), .val (.int i), .val (.int z1)] [(.int (0 : Int32)), (.ref a1)])) rfl rfl (hb hby d6_106)
                have Fw61 := c60_3.same W61
                have c61_0 := c60_0.wr W61
                have c61_1 := c60_1.other W61 (Ne.symm P3)
                have c61_2 := c60_2.other W61 (Or.inr (slot_ne (Or.inl (hw _ (List.mem_of_getElem? (i := 29) rfl))) (Or.inl (hw _ (List.mem_of_getElem? (i := 31) rfl))) (by decide) (t := .int) (t' := .int) (by decide) (by decide)))
                have c61_4 := c60_4.other W61 (Or.inr (slot_ne (Or.inl (hw _ (List.mem_of_getElem? (i := 33) rfl))) (Or.inl (hw _ (List.mem_of_getElem? (i := 31) rfl))) (by decide) (t := .boolean) (t' := .int) (by decide) (by decide)))
                have c61_5 := Fw60.other W61 (Or.inr (slot_ne (Or.inl (hw _ (List.mem_of_getElem? (i := 36) rfl))) (Or.inl (hw _ (List.mem_of_getElem? (i := 31) rfl))) (by decide) (t := .boolean) (t' := .int) (by decide) (by decide)))
                have c61_6 := c60_6.other W61 (Or.inr (slot_ne (Or.inl (hw _ (List.mem_of_getElem? (i := 27) rfl))) (Or.inl (hw _ (List.mem_of_getElem? (i := 31) rfl))) (by decide) (t := .boolean) (t' := .int) (by decide) (by decide)))
                have KK61 : Keep h0 h61 [a1] := KK60.wr W61 (Or.inl (List.mem_of_getElem? (i := 0) rfl))
                have ZN61 : n0 ≤ h61.size := Nat.le_trans ZN60 (Keep.of_wr W61).1
                have NN61 := Fr.snoc X61 NN60 P1
                refine go st61 ?_
                show Go _ p e below s _ _ _ (T61.setTop (mkF m 109 #[.val (.ref a1), .val (.ref a2), .val (.int p3), .val (.int p4), .val (.int i), .val (.int z1)] []))
                refine go (fun _ => XS.goto X61.here hx rfl (pc0 := 109) (pc' := 147) rfl (hb hby d6_109) (by decide) (by decide)) ?_
                show Go _ p e below s _ _ _ (T61.setTop (mkF m 147 #[.val (.ref a1), .val (.ref a2), .val (.int p3), .val (.int p4), .val (.int i), .val (.int z1)] []))
                refine go (fun _ => XS.aloadN X61.here hx rfl (hb hby d6_147) rfl rfl) ?_
                show Go _ p e below s _ _ _ (T61.setTop (mkF m 148 #[.val (.ref a1), .val (.ref a2), .val (.int p3), .val (.int p4), .val (.int i), .val (.int z1)] [(.ref a1)]))
                refine go (fun _ => XS.dup X61.here hx rfl (hb hby d6_148) rfl rfl) ?_
                show Go _ p e below s _ _ _ (T61.setTop (mkF m 149 #[.val (.ref a1), .val (.ref a2), .val (.int p3), .val (.int p4), .val (.int i), .val (.int z1)] [(.ref a1), (.ref a1)]))
                obtain ⟨T62, X62, e62, st62⟩ := getF X61 hx hZ hown (host := "") (Or.inl (hw _ (List.mem_of_getElem? (i := 26) rfl))) Via.refl e61 c61_6 (g := (mkF m 149 #[.val (.ref a1), .val (.ref a2), .val (.int p3), .val (.int p4), .val (.int i), .val (.int z1)] [(.ref a1), (.ref a1)])) rfl rfl (hb hby d6_149)
                refine go st62 ?_
                show Go _ p e below s _ _ _ (T62.setTop (mkF m 152 #[.val (.ref a1), .val (.ref a2), .val (.int p3), .val (.int p4), .val (.int i), .val (.int z1)] [(.int (nar .boolean z2)), (.ref a1)]))
                have JE : ∀ (z5 : Int32) (T63 : State) (locs63 : List Loc) (_ : Stand p l e ({ frames := 0, cells := 0, slots := 0, locals := 0 } : Room) s m #[(.ref a1), (.ref a2), (.int p3), (.int p4)] below meth c T63 locs63 0 0) (_ : T63.heap = h61) (_ : Fr n0 locs63), (z5 = own_lk (x1 + 1)) → Go FrameEnd p e below s ({ frames := 0, cells := 0, slots := 0, locals := 0 } : Room).cells ({ frames := 0, cells := 0, slots := 0, locals := 0 } : Room).slots (Q6 Z a1 a2 p3 p4 k1 zl vs dv g nn i0 y1 y2 y3 y4 y5 h0 n0) (T63.setTop (mkF m 166 #[.val (.ref a1), .val (.ref a2), .val (.int p3), .val (.int p4), .val (.int i), .val (.int z1)] [(.int z5), (.int (nar .boolean z2)), (.ref a1)])) := by
                  intro z5 T63 locs63 X63 e63 NF63 hz5
                  show Go _ p e below s _ _ _ (T63.setTop (mkF m 166 #[.val (.ref a1), .val (.ref a2), .val (.int p3), .val (.int p4), .val (.int i), .val (.int z1)] [(.int z5), (.int (nar .boolean z2)), (.ref a1)]))
                  refine go (fun _ => XS.ior X63.here hx rfl (hb hby d6_166) rfl) ?_
                  show Go _ p e below s _ _ _ (T63.setTop (mkF m 167 #[.val (.ref a1), .val (.ref a2), .val (.int p3), .val (.int p4), .val (.int i), .val (.int z1)] [(.int ((nar .boolean z2) ||| z5)), (.ref a1)]))
                  obtain ⟨T64, h64, X64, e64, W64, st64⟩ := putFN X63 hx hZ hown (hw _ (List.mem_of_getElem? (i := 26) rfl)) Via.refl e63 c61_6 c61_0 (Or.inl (hw _ (List.mem_of_getElem? (i := 27) rfl))) (hw _ (List.mem_of_getElem? (i := 1) rfl)) (ty := .boolean) (v' := (.int (nar .boolean ((nar .boolean z2) ||| z5)))) (by decide) rfl (fits_nar_bool _) (g := (mkF m 167 #[.val (.ref a1), .val (.ref a2), .val (.int p3), .val (.int p4), .val (.int i), .val (.int z1)] [(.int ((nar .boolean z2) ||| z5)), (.ref a1)])) rfl rfl (hb hby d6_167)
                  have Fw64 := c61_6.same W64
                  have c64_0 := c61_0.wr W64
                  have c64_1 := c61_1.other W64 (Ne.symm P3)
                  have c64_2 := c61_2.other W64 (Or.inr (slot_ne (Or.inl (hw _ (List.mem_of_getElem? (i := 29) rfl))) (Or.inl (hw _ (List.mem_of_getElem? (i := 27) rfl))) (by decide) (t := .int) (t' := .boolean) (by decide) (by decide)))
                  have c64_3 := Fw61.other W64 (Or.inr (slot_ne (Or.inl (hw _ (List.mem_of_getElem? (i := 31) rfl))) (Or.inl (hw _ (List.mem_of_getElem? (i := 27) rfl))) (by decide) (t := .int) (t' := .boolean) (by decide) (by decide)))
                  have c64_4 := c61_4.other W64 (Or.inr (slot_ne (Or.inl (hw _ (List.mem_of_getElem? (i := 33) rfl))) (Or.inl (hw _ (List.mem_of_getElem? (i := 27) rfl))) (by decide) (t := .boolean) (t' := .boolean) (by decide) (by decide)))
                  have c64_5 := c61_5.other W64 (Or.inr (slot_ne (Or.inl (hw _ (List.mem_of_getElem? (i := 36) rfl))) (Or.inl (hw _ (List.mem_of_getElem? (i := 27) rfl))) (by decide) (t := .boolean) (t' := .boolean) (by decide) (by decide)))
                  have KK64 : Keep h0 h64 [a1] := KK61.wr W64 (Or.inl (List.mem_of_getElem? (i := 0) rfl))
                  have ZN64 : n0 ≤ h64.size := Nat.le_trans ZN61 (Keep.of_wr W64).1
                  have NN64 := Fr.snoc X64 NF63 P1
                  refine go st64 ?_
                  show Go _ p e below s _ _ _ (T64.setTop (mkF m 170 #[.val (.ref a1), .val (.ref a2), .val (.int p3), .val (.int p4), .val (.int i), .val (.int z1)] []))
                  refine go (fun _ => XS.iinc X64.here hx rfl (hb hby d6_170) rfl (l' := #[.val (.ref a1), .val (.ref a2), .val (.int p3), .val (.int p4), .val (.int (i + (1 : Int32))), .val (.int z1)]) rfl) ?_
                  show Go _ p e below s _ _ _ (T64.setTop (mkF m 173 #[.val (.ref a1), .val (.ref a2), .val (.int p3), .val (.int p4), .val (.int (i + (1 : Int32))), .val (.int z1)] []))
                  refine go (fun _ => XS.goto X64.here hx rfl (pc0 := 173) (pc' := 3) rfl (hb hby d6_173) (by decide) (by decide)) ?_
                  show Go _ p e below s _ _ _ (T64.setTop (mkF m 3 #[.val (.ref a1), .val (.ref a2), .val (.int p3), .val (.int p4), .val (.int (i + (1 : Int32))), .val (.int z1)] []))
                  subst hz1 hz2 hz3 hz5
                  exact ih _ (k + 1) _ _ _ _ _ _ T64 _ h64 X64 e64 NN64 KK64 ZN64  c64_0 c64_1 c64_2 c64_3 c64_4 c64_5 Fw64 (One.val rfl) (own_inc hi hz) (by rw [ht]; congr 1; omega) (by have := hz; omega) (by rw [← hr, own_runS (x := (x1, x2, x3, x4, x5)) hc13_50]; unfold own_step; rw [if_pos hc32_54])
                refine go (fun _ => XS.aloadN X62.here hx rfl (hb hby d6_152) rfl rfl) ?_
                show Go _ p e below s _ _ _ (T62.setTop (mkF m 153 #[.val (.ref a1), .val (.ref a2), .val (.int p3), .val (.int p4), .val (.int i), .val (.int z1)] [(.ref a1), (.int (nar .boolean z2)), (.ref a1)]))
                obtain ⟨T65, X65, e65, st65⟩ := getF X62 hx hZ hown (host := "") (Or.inl (hw _ (List.mem_of_getElem? (i := 28) rfl))) Via.refl e62 c61_2 (g := (mkF m 153 #[.val (.ref a1), .val (.ref a2), .val (.int p3), .val (.int p4), .val (.int i), .val (.int z1)] [(.ref a1), (.int (nar .boolean z2)), (.ref a1)])) rfl rfl (hb hby d6_153)
                refine go st65 ?_
                show Go _ p e below s _ _ _ (T65.setTop (mkF m 156 #[.val (.ref a1), .val (.ref a2), .val (.int p3), .val (.int p4), .val (.int i), .val (.int z1)] [(.int (x1 + (1 : Int32))), (.int (nar .boolean z2)), (.ref a1)]))
                refine go (X65.ldcInt hx hown (mvT hZ (hw _ (List.mem_of_getElem? (i := 34) rfl))) (g := (mkF m 156 #[.val (.ref a1), .val (.ref a2), .val (.int p3), .val (.int p4), .val (.int i), .val (.int z1)] [(.int (x1 + (1 : Int32))), (.int (nar .boolean z2)), (.ref a1)])) rfl (hb hby d6_156)) ?_
                show Go _ p e below s _ _ _ (T65.setTop (mkF m 158 #[.val (.ref a1), .val (.ref a2), .val (.int p3), .val (.int p4), .val (.int i), .val (.int z1)] [(.int (65537 : Int32)), (.int (x1 + (1 : Int32))), (.int (nar .boolean z2)), (.ref a1)]))
                by_cases hc158_66 : (x1 + (1 : Int32)) < (65537 : Int32)
                · refine go (fun _ => XS.icmpYes X65.here hx rfl (pc0 := 158) (pc' := 165) rfl (hb hby d6_158) rfl (tlt hc158_66).1 (by decide) (by decide)) ?_
                  show Go _ p e below s _ _ _ (T65.setTop (mkF m 165 #[.val (.ref a1), .val (.ref a2), .val (.int p3), .val (.int p4), .val (.int i), .val (.int z1)] [(.int (nar .boolean z2)), (.ref a1)]))
                  refine go (fun _ => XS.iconst X65.here hx rfl (hb hby d6_165)) ?_
                  show Go _ p e below s _ _ _ (T65.setTop (mkF m 166 #[.val (.ref a1), .val (.ref a2), .val (.int p3), .val (.int p4), .val (.int i), .val (.int z1)] [(.int (0 : Int32)), (.int (nar .boolean z2)), (.ref a1)]))
                  exact JE _ T65 _ X65 e65 NN61 (by unfold own_lk; simp only [if_pos hc158_66])
                · refine go (fun _ => XS.icmpNo X65.here hx rfl (hb hby d6_158) rfl (flt hc158_66).1) ?_
                  show Go _ p e below s _ _ _ (T65.setTop (mkF m 161 #[.val (.ref a1), .val (.ref a2), .val (.int p3), .val (.int p4), .val (.int i), .val (.int z1)] [(.int (nar .boolean z2)), (.ref a1)]))
                  refine go (fun _ => XS.iconst X65.here hx rfl (hb hby d6_161)) ?_
                  show Go _ p e below s _ _ _ (T65.setTop (mkF m 162 #[.val (.ref a1), .val (.ref a2), .val (.int p3), .val (.int p4), .val (.int i), .val (.int z1)] [(.int (1 : Int32)), (.int (nar .boolean z2)), (.ref a1)]))
                  refine go (fun _ => XS.goto X65.here hx rfl (pc0 := 162) (pc' := 166) rfl (hb hby d6_162) (by decide) (by decide)) ?_
                  show Go _ p e below s _ _ _ (T65.setTop (mkF m 166 #[.val (.ref a1), .val (.ref a2), .val (.int p3), .val (.int p4), .val (.int i), .val (.int z1)] [(.int (1 : Int32)), (.int (nar .boolean z2)), (.ref a1)]))
                  exact JE _ T65 _ X65 e65 NN61 (by unfold own_lk; simp only [if_neg hc158_66])
              refine go (fun _ => XS.iload X58.here hx rfl (hb hby d6_90) rfl) ?_
              show Go _ p e below s _ _ _ (T58.setTop (mkF m 92 #[.val (.ref a1), .val (.ref a2), .val (.int p3), .val (.int p4), .val (.int i), .val (.int z1)] [(.int z1), (.int x4), (.ref a1)]))
              by_cases hc92_67 : z1 = (0 : Int32)
              · refine go (fun _ => XS.ifNo X58.here hx rfl (hb hby d6_92) rfl ((if0 _ _).trans (teq hc92_67).2)) ?_
                show Go _ p e below s _ _ _ (T58.setTop (mkF m 95 #[.val (.ref a1), .val (.ref a2), .val (.int p3), .val (.int p4), .val (.int i), .val (.int z1)] [(.int x4), (.ref a1)]))
                refine go (fun _ => XS.iconst X58.here hx rfl (hb hby d6_95)) ?_
                show Go _ p e below s _ _ _ (T58.setTop (mkF m 96 #[.val (.ref a1), .val (.ref a2), .val (.int p3), .val (.int p4), .val (.int i), .val (.int z1)] [(.int (1 : Int32)), (.int x4), (.ref a1)]))
                refine go (fun _ => XS.goto X58.here hx rfl (pc0 := 96) (pc' := 100) rfl (hb hby d6_96) (by decide) (by decide)) ?_
                show Go _ p e below s _ _ _ (T58.setTop (mkF m 100 #[.val (.ref a1), .val (.ref a2), .val (.int p3), .val (.int p4), .val (.int i), .val (.int z1)] [(.int (1 : Int32)), (.int x4), (.ref a1)]))
                exact JC _ T58 _ X58 e58 NN57 (by unfold own_n; simp only [if_pos hc92_67])
              · refine go (fun _ => XS.ifYes X58.here hx rfl (pc0 := 92) (pc' := 99) rfl (hb hby d6_92) rfl ((if0 _ _).trans (feq hc92_67).2) (by decide) (by decide)) ?_
                show Go _ p e below s _ _ _ (T58.setTop (mkF m 99 #[.val (.ref a1), .val (.ref a2), .val (.int p3), .val (.int p4), .val (.int i), .val (.int z1)] [(.int x4), (.ref a1)]))
                refine go (fun _ => XS.iconst X58.here hx rfl (hb hby d6_99)) ?_
                show Go _ p e below s _ _ _ (T58.setTop (mkF m 100 #[.val (.ref a1), .val (.ref a2), .val (.int p3), .val (.int p4), .val (.int i), .val (.int z1)] [(.int (0 : Int32)), (.int x4), (.ref a1)]))
                exact JC _ T58 _ X58 e58 NN57 (by unfold own_n; simp only [if_neg hc92_67])
            refine go (fun _ => XS.iload X55.here hx rfl (hb hby d6_65) rfl) ?_
            show Go _ p e below s _ _ _ (T55.setTop (mkF m 67 #[.val (.ref a1), .val (.ref a2), .val (.int p3), .val (.int p4), .val (.int i), .val (.int z1)] [(.int z1), (.ref a1)]))
            by_cases hc67_68 : z1 = (0 : Int32)
            · refine go (fun _ => XS.ifYes X55.here hx rfl (pc0 := 67) (pc' := 81) rfl (hb hby d6_67) rfl ((if0 _ _).trans (teq hc67_68).1) (by decide) (by decide)) ?_
              show Go _ p e below s _ _ _ (T55.setTop (mkF m 81 #[.val (.ref a1), .val (.ref a2), .val (.int p3), .val (.int p4), .val (.int i), .val (.int z1)] [(.ref a1)]))
              refine go (fun _ => XS.iconst X55.here hx rfl (hb hby d6_81)) ?_
              show Go _ p e below s _ _ _ (T55.setTop (mkF m 82 #[.val (.ref a1), .val (.ref a2), .val (.int p3), .val (.int p4), .val (.int i), .val (.int z1)] [(.int (0 : Int32)), (.ref a1)]))
              exact JB _ T55 _ X55 e55 NF55 (by unfold own_f; simp only [if_pos hc67_68])
            · refine go (fun _ => XS.ifNo X55.here hx rfl (hb hby d6_67) rfl ((if0 _ _).trans (feq hc67_68).1)) ?_
              show Go _ p e below s _ _ _ (T55.setTop (mkF m 70 #[.val (.ref a1), .val (.ref a2), .val (.int p3), .val (.int p4), .val (.int i), .val (.int z1)] [(.ref a1)]))
              refine go (fun _ => XS.aloadN X55.here hx rfl (hb hby d6_70) rfl rfl) ?_
              show Go _ p e below s _ _ _ (T55.setTop (mkF m 71 #[.val (.ref a1), .val (.ref a2), .val (.int p3), .val (.int p4), .val (.int i), .val (.int z1)] [(.ref a1), (.ref a1)]))
              obtain ⟨T69, X69, e69, st69⟩ := getF X55 hx hZ hown (host := "") (Or.inl (hw _ (List.mem_of_getElem? (i := 35) rfl))) Via.refl e55 c52_5 (g := (mkF m 71 #[.val (.ref a1), .val (.ref a2), .val (.int p3), .val (.int p4), .val (.int i), .val (.int z1)] [(.ref a1), (.ref a1)])) rfl rfl (hb hby d6_71)
              refine go st69 ?_
              show Go _ p e below s _ _ _ (T69.setTop (mkF m 74 #[.val (.ref a1), .val (.ref a2), .val (.int p3), .val (.int p4), .val (.int i), .val (.int z1)] [(.int x4), (.ref a1)]))
              by_cases hc74_70 : x4 = (0 : Int32)
              · refine go (fun _ => XS.ifYes X69.here hx rfl (pc0 := 74) (pc' := 81) rfl (hb hby d6_74) rfl ((if0 _ _).trans (teq hc74_70).1) (by decide) (by decide)) ?_
                show Go _ p e below s _ _ _ (T69.setTop (mkF m 81 #[.val (.ref a1), .val (.ref a2), .val (.int p3), .val (.int p4), .val (.int i), .val (.int z1)] [(.ref a1)]))
                refine go (fun _ => XS.iconst X69.here hx rfl (hb hby d6_81)) ?_
                show Go _ p e below s _ _ _ (T69.setTop (mkF m 82 #[.val (.ref a1), .val (.ref a2), .val (.int p3), .val (.int p4), .val (.int i), .val (.int z1)] [(.int (0 : Int32)), (.ref a1)]))
                exact JB _ T69 _ X69 e69 NF55 (by unfold own_f; simp only [if_neg hc67_68, if_pos hc74_70])
              · refine go (fun _ => XS.ifNo X69.here hx rfl (hb hby d6_74) rfl ((if0 _ _).trans (feq hc74_70).1)) ?_
                show Go _ p e below s _ _ _ (T69.setTop (mkF m 77 #[.val (.ref a1), .val (.ref a2), .val (.int p3), .val (.int p4), .val (.int i), .val (.int z1)] [(.ref a1)]))
                refine go (fun _ => XS.iconst X69.here hx rfl (hb hby d6_77)) ?_
                show Go _ p e below s _ _ _ (T69.setTop (mkF m 78 #[.val (.ref a1), .val (.ref a2), .val (.int p3), .val (.int p4), .val (.int i), .val (.int z1)] [(.int (1 : Int32)), (.ref a1)]))
                refine go (fun _ => XS.goto X69.here hx rfl (pc0 := 78) (pc' := 82) rfl (hb hby d6_78) (by decide) (by decide)) ?_
                show Go _ p e below s _ _ _ (T69.setTop (mkF m 82 #[.val (.ref a1), .val (.ref a2), .val (.int p3), .val (.int p4), .val (.int i), .val (.int z1)] [(.int (1 : Int32)), (.ref a1)]))
                exact JB _ T69 _ X69 e69 NF55 (by unfold own_f; simp only [if_neg hc67_68, if_neg hc74_70])
          refine go (fun _ => XS.aloadN X52.here hx rfl (hb hby d6_35) rfl rfl) ?_
          show Go _ p e below s _ _ _ (T52.setTop (mkF m 36 #[.val (.ref a1), .val (.ref a2), .val (.int p3), .val (.int p4), .val (.int i), s5] [(.ref a1)]))
          obtain ⟨T71, X71, e71, st71⟩ := getF X52 hx hZ hown (host := "") (Or.inl (hw _ (List.mem_of_getElem? (i := 30) rfl))) Via.refl e52 c52_3 (g := (mkF m 36 #[.val (.ref a1), .val (.ref a2), .val (.int p3), .val (.int p4), .val (.int i), s5] [(.ref a1)])) rfl rfl (hb hby d6_36)
          refine go st71 ?_
          show Go _ p e below s _ _ _ (T71.setTop (mkF m 39 #[.val (.ref a1), .val (.ref a2), .val (.int p3), .val (.int p4), .val (.int i), s5] [(.int x2)]))
          by_cases hc39_72 : x2 = (0 : Int32)
          · refine go (fun _ => XS.ifYes X71.here hx rfl (pc0 := 39) (pc' := 57) rfl (hb hby d6_39) rfl ((if0 _ _).trans (teq hc39_72).1) (by decide) (by decide)) ?_
            show Go _ p e below s _ _ _ (T71.setTop (mkF m 57 #[.val (.ref a1), .val (.ref a2), .val (.int p3), .val (.int p4), .val (.int i), s5] []))
            refine go (fun _ => XS.iconst X71.here hx rfl (hb hby d6_57)) ?_
            show Go _ p e below s _ _ _ (T71.setTop (mkF m 58 #[.val (.ref a1), .val (.ref a2), .val (.int p3), .val (.int p4), .val (.int i), s5] [(.int (1 : Int32))]))
            refine go (fun _ => XS.goto X71.here hx rfl (pc0 := 58) (pc' := 62) rfl (hb hby d6_58) (by decide) (by decide)) ?_
            show Go _ p e below s _ _ _ (T71.setTop (mkF m 62 #[.val (.ref a1), .val (.ref a2), .val (.int p3), .val (.int p4), .val (.int i), s5] [(.int (1 : Int32))]))
            exact JA _ T71 _ X71 e71 NN52 (by unfold own_e; simp only [if_pos hc39_72])
          · refine go (fun _ => XS.ifNo X71.here hx rfl (hb hby d6_39) rfl ((if0 _ _).trans (feq hc39_72).1)) ?_
            show Go _ p e below s _ _ _ (T71.setTop (mkF m 42 #[.val (.ref a1), .val (.ref a2), .val (.int p3), .val (.int p4), .val (.int i), s5] []))
            refine go (fun _ => XS.aloadN X71.here hx rfl (hb hby d6_42) rfl rfl) ?_
            show Go _ p e below s _ _ _ (T71.setTop (mkF m 43 #[.val (.ref a1), .val (.ref a2), .val (.int p3), .val (.int p4), .val (.int i), s5] [(.ref a1)]))
            obtain ⟨T73, X73, e73, st73⟩ := getF X71 hx hZ hown (host := "") (Or.inl (hw _ (List.mem_of_getElem? (i := 30) rfl))) Via.refl e71 c52_3 (g := (mkF m 43 #[.val (.ref a1), .val (.ref a2), .val (.int p3), .val (.int p4), .val (.int i), s5] [(.ref a1)])) rfl rfl (hb hby d6_43)
            refine go st73 ?_
            show Go _ p e below s _ _ _ (T73.setTop (mkF m 46 #[.val (.ref a1), .val (.ref a2), .val (.int p3), .val (.int p4), .val (.int i), s5] [(.int x2)]))
            refine go (fun _ => XS.iconst X73.here hx rfl (hb hby d6_46)) ?_
            show Go _ p e below s _ _ _ (T73.setTop (mkF m 47 #[.val (.ref a1), .val (.ref a2), .val (.int p3), .val (.int p4), .val (.int i), s5] [(.int (1 : Int32)), (.int x2)]))
            by_cases hc47_74 : x2 = (1 : Int32)
            · refine go (fun _ => XS.icmpNo X73.here hx rfl (hb hby d6_47) rfl (teq hc47_74).2) ?_
              show Go _ p e below s _ _ _ (T73.setTop (mkF m 50 #[.val (.ref a1), .val (.ref a2), .val (.int p3), .val (.int p4), .val (.int i), s5] []))
              refine go (fun _ => XS.aloadN X73.here hx rfl (hb hby d6_50) rfl rfl) ?_
              show Go _ p e below s _ _ _ (T73.setTop (mkF m 51 #[.val (.ref a1), .val (.ref a2), .val (.int p3), .val (.int p4), .val (.int i), s5] [(.ref a1)]))
              obtain ⟨T75, X75, e75, st75⟩ := getF X73 hx hZ hown (host := "") (Or.inl (hw _ (List.mem_of_getElem? (i := 32) rfl))) Via.refl e73 c52_4 (g := (mkF m 51 #[.val (.ref a1), .val (.ref a2), .val (.int p3), .val (.int p4), .val (.int i), s5] [(.ref a1)])) rfl rfl (hb hby d6_51)
              refine go st75 ?_
              show Go _ p e below s _ _ _ (T75.setTop (mkF m 54 #[.val (.ref a1), .val (.ref a2), .val (.int p3), .val (.int p4), .val (.int i), s5] [(.int x3)]))
              by_cases hc54_76 : x3 = (0 : Int32)
              · refine go (fun _ => XS.ifYes X75.here hx rfl (pc0 := 54) (pc' := 61) rfl (hb hby d6_54) rfl ((if0 _ _).trans (teq hc54_76).1) (by decide) (by decide)) ?_
                show Go _ p e below s _ _ _ (T75.setTop (mkF m 61 #[.val (.ref a1), .val (.ref a2), .val (.int p3), .val (.int p4), .val (.int i), s5] []))
                refine go (fun _ => XS.iconst X75.here hx rfl (hb hby d6_61)) ?_
                show Go _ p e below s _ _ _ (T75.setTop (mkF m 62 #[.val (.ref a1), .val (.ref a2), .val (.int p3), .val (.int p4), .val (.int i), s5] [(.int (0 : Int32))]))
                exact JA _ T75 _ X75 e75 NN52 (by unfold own_e; simp only [if_neg hc39_72, if_pos hc47_74, if_pos hc54_76])
              · refine go (fun _ => XS.ifNo X75.here hx rfl (hb hby d6_54) rfl ((if0 _ _).trans (feq hc54_76).1)) ?_
                show Go _ p e below s _ _ _ (T75.setTop (mkF m 57 #[.val (.ref a1), .val (.ref a2), .val (.int p3), .val (.int p4), .val (.int i), s5] []))
                refine go (fun _ => XS.iconst X75.here hx rfl (hb hby d6_57)) ?_
                show Go _ p e below s _ _ _ (T75.setTop (mkF m 58 #[.val (.ref a1), .val (.ref a2), .val (.int p3), .val (.int p4), .val (.int i), s5] [(.int (1 : Int32))]))
                refine go (fun _ => XS.goto X75.here hx rfl (pc0 := 58) (pc' := 62) rfl (hb hby d6_58) (by decide) (by decide)) ?_
                show Go _ p e below s _ _ _ (T75.setTop (mkF m 62 #[.val (.ref a1), .val (.ref a2), .val (.int p3), .val (.int p4), .val (.int i), s5] [(.int (1 : Int32))]))
                exact JA _ T75 _ X75 e75 NN52 (by unfold own_e; simp only [if_neg hc39_72, if_pos hc47_74, if_neg hc54_76])
            · refine go (fun _ => XS.icmpYes X73.here hx rfl (pc0 := 47) (pc' := 61) rfl (hb hby d6_47) rfl (feq hc47_74).2 (by decide) (by decide)) ?_
              show Go _ p e below s _ _ _ (T73.setTop (mkF m 61 #[.val (.ref a1), .val (.ref a2), .val (.int p3), .val (.int p4), .val (.int i), s5] []))
              refine go (fun _ => XS.iconst X73.here hx rfl (hb hby d6_61)) ?_
              show Go _ p e below s _ _ _ (T73.setTop (mkF m 62 #[.val (.ref a1), .val (.ref a2), .val (.int p3), .val (.int p4), .val (.int i), s5] [(.int (0 : Int32))]))
              exact JA _ T73 _ X73 e73 NN52 (by unfold own_e; simp only [if_neg hc39_72, if_neg hc47_74])
        · refine go (fun _ => XS.icmpYes X52.here hx rfl (pc0 := 32) (pc' := 112) rfl (hb hby d6_32) rfl (feq hc32_54).2 (by decide) (by decide)) ?_
          show Go _ p e below s _ _ _ (T52.setTop (mkF m 112 #[.val (.ref a1), .val (.ref a2), .val (.int p3), .val (.int p4), .val (.int i), s5] []))
          refine go (fun _ => XS.aloadN X52.here hx rfl (hb hby d6_112) rfl rfl) ?_
          show Go _ p e below s _ _ _ (T52.setTop (mkF m 113 #[.val (.ref a1), .val (.ref a2), .val (.int p3), .val (.int p4), .val (.int i), s5] [(.ref a1)]))
          have JD : ∀ (z4 : Int32) (T77 : State) (locs77 : List Loc) (_ : Stand p l e ({ frames := 0, cells := 0, slots := 0, locals := 0 } : Room) s m #[(.ref a1), (.ref a2), (.int p3), (.int p4)] below meth c T77 locs77 0 0) (_ : T77.heap = h52) (_ : Fr n0 locs77), (z4 = own_cr x2 (g k)) → Go FrameEnd p e below s ({ frames := 0, cells := 0, slots := 0, locals := 0 } : Room).cells ({ frames := 0, cells := 0, slots := 0, locals := 0 } : Room).slots (Q6 Z a1 a2 p3 p4 k1 zl vs dv g nn i0 y1 y2 y3 y4 y5 h0 n0) (T77.setTop (mkF m 134 #[.val (.ref a1), .val (.ref a2), .val (.int p3), .val (.int p4), .val (.int i), s5] [(.int z4), (.ref a1)])) := by
            intro z4 T77 locs77 X77 e77 NF77 hz4
            show Go _ p e below s _ _ _ (T77.setTop (mkF m 134 #[.val (.ref a1), .val (.ref a2), .val (.int p3), .val (.int p4), .val (.int i), s5] [(.int z4), (.ref a1)]))
            obtain ⟨T78, h78, X78, e78, W78, st78⟩ := putFN X77 hx hZ hown (hw _ (List.mem_of_getElem? (i := 32) rfl)) Via.refl e77 c52_4 c52_0 (Or.inl (hw _ (List.mem_of_getElem? (i := 33) rfl))) (hw _ (List.mem_of_getElem? (i := 1) rfl)) (ty := .boolean) (v' := (.int (nar .boolean z4))) (by decide) rfl (fits_nar_bool _) (g := (mkF m 134 #[.val (.ref a1), .val (.ref a2), .val (.int p3), .val (.int p4), .val (.int i), s5] [(.int z4), (.ref a1)])) rfl rfl (hb hby d6_134)
            have Fw78 := c52_4.same W78
            have c78_0 := c52_0.wr W78
            have c78_1 := c52_1.other W78 (Ne.symm P3)
            have c78_2 := Fw52.other W78 (Or.inr (slot_ne (Or.inl (hw _ (List.mem_of_getElem? (i := 29) rfl))) (Or.inl (hw _ (List.mem_of_getElem? (i := 33) rfl))) (by decide) (t := .int) (t' := .boolean) (by decide) (by decide)))
            have c78_3 := c52_3.other W78 (Or.inr (slot_ne (Or.inl (hw _ (List.mem_of_getElem? (i := 31) rfl))) (Or.inl (hw _ (List.mem_of_getElem? (i := 33) rfl))) (by decide) (t := .int) (t' := .boolean) (by decide) (by decide)))
            have c78_5 := c52_5.other W78 (Or.inr (slot_ne (Or.inl (hw _ (List.mem_of_getElem? (i := 36) rfl))) (Or.inl (hw _ (List.mem_of_getElem? (i := 33) rfl))) (by decide) (t := .boolean) (t' := .boolean) (by decide) (by decide)))
            have c78_6 := c52_6.other W78 (Or.inr (slot_ne (Or.inl (hw _ (List.mem_of_getElem? (i := 27) rfl))) (Or.inl (hw _ (List.mem_of_getElem? (i := 33) rfl))) (by decide) (t := .boolean) (t' := .boolean) (by decide) (by decide)))
            have KK78 : Keep h0 h78 [a1] := KK52.wr W78 (Or.inl (List.mem_of_getElem? (i := 0) rfl))
            have ZN78 : n0 ≤ h78.size := Nat.le_trans ZN52 (Keep.of_wr W78).1
            have NN78 := Fr.snoc X78 NF77 P1
            refine go st78 ?_
            show Go _ p e below s _ _ _ (T78.setTop (mkF m 137 #[.val (.ref a1), .val (.ref a2), .val (.int p3), .val (.int p4), .val (.int i), s5] []))
            refine go (fun _ => XS.aloadN X78.here hx rfl (hb hby d6_137) rfl rfl) ?_
            show Go _ p e below s _ _ _ (T78.setTop (mkF m 138 #[.val (.ref a1), .val (.ref a2), .val (.int p3), .val (.int p4), .val (.int i), s5] [(.ref a1)]))
            refine go (fun _ => XS.dup X78.here hx rfl (hb hby d6_138) rfl rfl) ?_
            show Go _ p e below s _ _ _ (T78.setTop (mkF m 139 #[.val (.ref a1), .val (.ref a2), .val (.int p3), .val (.int p4), .val (.int i), s5] [(.ref a1), (.ref a1)]))
            obtain ⟨T79, X79, e79, st79⟩ := getF X78 hx hZ hown (host := "") (Or.inl (hw _ (List.mem_of_getElem? (i := 30) rfl))) Via.refl e78 c78_3 (g := (mkF m 139 #[.val (.ref a1), .val (.ref a2), .val (.int p3), .val (.int p4), .val (.int i), s5] [(.ref a1), (.ref a1)])) rfl rfl (hb hby d6_139)
            refine go st79 ?_
            show Go _ p e below s _ _ _ (T79.setTop (mkF m 142 #[.val (.ref a1), .val (.ref a2), .val (.int p3), .val (.int p4), .val (.int i), s5] [(.int x2), (.ref a1)]))
            refine go (fun _ => XS.iconst X79.here hx rfl (hb hby d6_142)) ?_
            show Go _ p e below s _ _ _ (T79.setTop (mkF m 143 #[.val (.ref a1), .val (.ref a2), .val (.int p3), .val (.int p4), .val (.int i), s5] [(.int (1 : Int32)), (.int x2), (.ref a1)]))
            refine go (fun _ => XS.iadd X79.here hx rfl (hb hby d6_143) rfl) ?_
            show Go _ p e below s _ _ _ (T79.setTop (mkF m 144 #[.val (.ref a1), .val (.ref a2), .val (.int p3), .val (.int p4), .val (.int i), s5] [(.int (x2 + (1 : Int32))), (.ref a1)]))
            obtain ⟨T80, h80, X80, e80, W80, st80⟩ := putF X79 hx hZ hown (host := "") (Or.inl (hw _ (List.mem_of_getElem? (i := 30) rfl))) Via.refl e79 c78_3 c78_0 (Or.inl (hw _ (List.mem_of_getElem? (i := 31) rfl))) (hw _ (List.mem_of_getElem? (i := 1) rfl)) (ty := .int) (by decide) rfl rfl (g := (mkF m 144 #[.val (.ref a1), .val (.ref a2), .val (.int p3), .val (.int p4), .val (.int i), s5] [(.int (x2 + (1 : Int32))), (.ref a1)])) rfl rfl (hb hby d6_144)
            have Fw80 := c78_3.same W80
            have c80_0 := c78_0.wr W80
            have c80_1 := c78_1.other W80 (Ne.symm P3)
            have c80_2 := c78_2.other W80 (Or.inr (slot_ne (Or.inl (hw _ (List.mem_of_getElem? (i := 29) rfl))) (Or.inl (hw _ (List.mem_of_getElem? (i := 31) rfl))) (by decide) (t := .int) (t' := .int) (by decide) (by decide)))
            have c80_4 := Fw78.other W80 (Or.inr (slot_ne (Or.inl (hw _ (List.mem_of_getElem? (i := 33) rfl))) (Or.inl (hw _ (List.mem_of_getElem? (i := 31) rfl))) (by decide) (t := .boolean) (t' := .int) (by decide) (by decide)))
            have c80_5 := c78_5.other W80 (Or.inr (slot_ne (Or.inl (hw _ (List.mem_of_getElem? (i := 36) rfl))) (Or.inl (hw _ (List.mem_of_getElem? (i := 31) rfl))) (by decide) (t := .boolean) (t' := .int) (by decide) (by decide)))
            have c80_6 := c78_6.other W80 (Or.inr (slot_ne (Or.inl (hw _ (List.mem_of_getElem? (i := 27) rfl))) (Or.inl (hw _ (List.mem_of_getElem? (i := 31) rfl))) (by decide) (t := .boolean) (t' := .int) (by decide) (by decide)))
            have KK80 : Keep h0 h80 [a1] := KK78.wr W80 (Or.inl (List.mem_of_getElem? (i := 0) rfl))
            have ZN80 : n0 ≤ h80.size := Nat.le_trans ZN78 (Keep.of_wr W80).1
            have NN80 := Fr.snoc X80 NN78 P1
            refine go st80 ?_
            show Go _ p e below s _ _ _ (T80.setTop (mkF m 147 #[.val (.ref a1), .val (.ref a2), .val (.int p3), .val (.int p4), .val (.int i), s5] []))
            refine go (fun _ => XS.aloadN X80.here hx rfl (hb hby d6_147) rfl rfl) ?_
            show Go _ p e below s _ _ _ (T80.setTop (mkF m 148 #[.val (.ref a1), .val (.ref a2), .val (.int p3), .val (.int p4), .val (.int i), s5] [(.ref a1)]))
            refine go (fun _ => XS.dup X80.here hx rfl (hb hby d6_148) rfl rfl) ?_
            show Go _ p e below s _ _ _ (T80.setTop (mkF m 149 #[.val (.ref a1), .val (.ref a2), .val (.int p3), .val (.int p4), .val (.int i), s5] [(.ref a1), (.ref a1)]))
            obtain ⟨T81, X81, e81, st81⟩ := getF X80 hx hZ hown (host := "") (Or.inl (hw _ (List.mem_of_getElem? (i := 26) rfl))) Via.refl e80 c80_6 (g := (mkF m 149 #[.val (.ref a1), .val (.ref a2), .val (.int p3), .val (.int p4), .val (.int i), s5] [(.ref a1), (.ref a1)])) rfl rfl (hb hby d6_149)
            refine go st81 ?_
            show Go _ p e below s _ _ _ (T81.setTop (mkF m 152 #[.val (.ref a1), .val (.ref a2), .val (.int p3), .val (.int p4), .val (.int i), s5] [(.int x5), (.ref a1)]))
            have JE : ∀ (z5 : Int32) (T82 : State) (locs82 : List Loc) (_ : Stand p l e ({ frames := 0, cells := 0, slots := 0, locals := 0 } : Room) s m #[(.ref a1), (.ref a2), (.int p3), (.int p4)] below meth c T82 locs82 0 0) (_ : T82.heap = h80) (_ : Fr n0 locs82), (z5 = own_lk (x1 + 1)) → Go FrameEnd p e below s ({ frames := 0, cells := 0, slots := 0, locals := 0 } : Room).cells ({ frames := 0, cells := 0, slots := 0, locals := 0 } : Room).slots (Q6 Z a1 a2 p3 p4 k1 zl vs dv g nn i0 y1 y2 y3 y4 y5 h0 n0) (T82.setTop (mkF m 166 #[.val (.ref a1), .val (.ref a2), .val (.int p3), .val (.int p4), .val (.int i), s5] [(.int z5), (.int x5), (.ref a1)])) := by
              intro z5 T82 locs82 X82 e82 NF82 hz5
              show Go _ p e below s _ _ _ (T82.setTop (mkF m 166 #[.val (.ref a1), .val (.ref a2), .val (.int p3), .val (.int p4), .val (.int i), s5] [(.int z5), (.int x5), (.ref a1)]))
              refine go (fun _ => XS.ior X82.here hx rfl (hb hby d6_166) rfl) ?_
              show Go _ p e below s _ _ _ (T82.setTop (mkF m 167 #[.val (.ref a1), .val (.ref a2), .val (.int p3), .val (.int p4), .val (.int i), s5] [(.int (x5 ||| z5)), (.ref a1)]))
              obtain ⟨T83, h83, X83, e83, W83, st83⟩ := putFN X82 hx hZ hown (hw _ (List.mem_of_getElem? (i := 26) rfl)) Via.refl e82 c80_6 c80_0 (Or.inl (hw _ (List.mem_of_getElem? (i := 27) rfl))) (hw _ (List.mem_of_getElem? (i := 1) rfl)) (ty := .boolean) (v' := (.int (nar .boolean (x5 ||| z5)))) (by decide) rfl (fits_nar_bool _) (g := (mkF m 167 #[.val (.ref a1), .val (.ref a2), .val (.int p3), .val (.int p4), .val (.int i), s5] [(.int (x5 ||| z5)), (.ref a1)])) rfl rfl (hb hby d6_167)
              have Fw83 := c80_6.same W83
              have c83_0 := c80_0.wr W83
              have c83_1 := c80_1.other W83 (Ne.symm P3)
              have c83_2 := c80_2.other W83 (Or.inr (slot_ne (Or.inl (hw _ (List.mem_of_getElem? (i := 29) rfl))) (Or.inl (hw _ (List.mem_of_getElem? (i := 27) rfl))) (by decide) (t := .int) (t' := .boolean) (by decide) (by decide)))
              have c83_3 := Fw80.other W83 (Or.inr (slot_ne (Or.inl (hw _ (List.mem_of_getElem? (i := 31) rfl))) (Or.inl (hw _ (List.mem_of_getElem? (i := 27) rfl))) (by decide) (t := .int) (t' := .boolean) (by decide) (by decide)))
              have c83_4 := c80_4.other W83 (Or.inr (slot_ne (Or.inl (hw _ (List.mem_of_getElem? (i := 33) rfl))) (Or.inl (hw _ (List.mem_of_getElem? (i := 27) rfl))) (by decide) (t := .boolean) (t' := .boolean) (by decide) (by decide)))
              have c83_5 := c80_5.other W83 (Or.inr (slot_ne (Or.inl (hw _ (List.mem_of_getElem? (i := 36) rfl))) (Or.inl (hw _ (List.mem_of_getElem? (i := 27) rfl))) (by decide) (t := .boolean) (t' := .boolean) (by decide) (by decide)))
              have KK83 : Keep h0 h83 [a1] := KK80.wr W83 (Or.inl (List.mem_of_getElem? (i := 0) rfl))
              have ZN83 : n0 ≤ h83.size := Nat.le_trans ZN80 (Keep.of_wr W83).1
              have NN83 := Fr.snoc X83 NF82 P1
              refine go st83 ?_
              show Go _ p e below s _ _ _ (T83.setTop (mkF m 170 #[.val (.ref a1), .val (.ref a2), .val (.int p3), .val (.int p4), .val (.int i), s5] []))
              refine go (fun _ => XS.iinc X83.here hx rfl (hb hby d6_170) rfl (l' := #[.val (.ref a1), .val (.ref a2), .val (.int p3), .val (.int p4), .val (.int (i + (1 : Int32))), s5]) rfl) ?_
              show Go _ p e below s _ _ _ (T83.setTop (mkF m 173 #[.val (.ref a1), .val (.ref a2), .val (.int p3), .val (.int p4), .val (.int (i + (1 : Int32))), s5] []))
              refine go (fun _ => XS.goto X83.here hx rfl (pc0 := 173) (pc' := 3) rfl (hb hby d6_173) (by decide) (by decide)) ?_
              show Go _ p e below s _ _ _ (T83.setTop (mkF m 3 #[.val (.ref a1), .val (.ref a2), .val (.int p3), .val (.int p4), .val (.int (i + (1 : Int32))), s5] []))
              subst hz4 hz5
              exact ih _ (k + 1) _ _ _ _ _ _ T83 _ h83 X83 e83 NN83 KK83 ZN83  c83_0 c83_1 c83_2 c83_3 c83_4 c83_5 Fw83 hs5 (own_inc hi hz) (by rw [ht]; congr 1; omega) (by have := hz; omega) (by rw [← hr, own_runS (x := (x1, x2, x3, x4, x5)) hc13_50]; unfold own_step; rw [if_neg hc32_54])
            refine go (fun _ => XS.aloadN X81.here hx rfl (hb hby d6_152) rfl rfl) ?_
            show Go _ p e below s _ _ _ (T81.setTop (mkF m 153 #[.val (.ref a1), .val (.ref a2), .val (.int p3), .val (.int p4), .val (.int i), s5] [(.ref a1), (.int x5), (.ref a1)]))
            obtain ⟨T84, X84, e84, st84⟩ := getF X81 hx hZ hown (host := "") (Or.inl (hw _ (List.mem_of_getElem? (i := 28) rfl))) Via.refl e81 c80_2 (g := (mkF m 153 #[.val (.ref a1), .val (.ref a2), .val (.int p3), .val (.int p4), .val (.int i), s5] [(.ref a1), (.int x5), (.ref a1)])) rfl rfl (hb hby d6_153)
            refine go st84 ?_
            show Go _ p e below s _ _ _ (T84.setTop (mkF m 156 #[.val (.ref a1), .val (.ref a2), .val (.int p3), .val (.int p4), .val (.int i), s5] [(.int (x1 + (1 : Int32))), (.int x5), (.ref a1)]))
            refine go (X84.ldcInt hx hown (mvT hZ (hw _ (List.mem_of_getElem? (i := 34) rfl))) (g := (mkF m 156 #[.val (.ref a1), .val (.ref a2), .val (.int p3), .val (.int p4), .val (.int i), s5] [(.int (x1 + (1 : Int32))), (.int x5), (.ref a1)])) rfl (hb hby d6_156)) ?_
            show Go _ p e below s _ _ _ (T84.setTop (mkF m 158 #[.val (.ref a1), .val (.ref a2), .val (.int p3), .val (.int p4), .val (.int i), s5] [(.int (65537 : Int32)), (.int (x1 + (1 : Int32))), (.int x5), (.ref a1)]))
            by_cases hc158_85 : (x1 + (1 : Int32)) < (65537 : Int32)
            · refine go (fun _ => XS.icmpYes X84.here hx rfl (pc0 := 158) (pc' := 165) rfl (hb hby d6_158) rfl (tlt hc158_85).1 (by decide) (by decide)) ?_
              show Go _ p e below s _ _ _ (T84.setTop (mkF m 165 #[.val (.ref a1), .val (.ref a2), .val (.int p3), .val (.int p4), .val (.int i), s5] [(.int x5), (.ref a1)]))
              refine go (fun _ => XS.iconst X84.here hx rfl (hb hby d6_165)) ?_
              show Go _ p e below s _ _ _ (T84.setTop (mkF m 166 #[.val (.ref a1), .val (.ref a2), .val (.int p3), .val (.int p4), .val (.int i), s5] [(.int (0 : Int32)), (.int x5), (.ref a1)]))
              exact JE _ T84 _ X84 e84 NN80 (by unfold own_lk; simp only [if_pos hc158_85])
            · refine go (fun _ => XS.icmpNo X84.here hx rfl (hb hby d6_158) rfl (flt hc158_85).1) ?_
              show Go _ p e below s _ _ _ (T84.setTop (mkF m 161 #[.val (.ref a1), .val (.ref a2), .val (.int p3), .val (.int p4), .val (.int i), s5] [(.int x5), (.ref a1)]))
              refine go (fun _ => XS.iconst X84.here hx rfl (hb hby d6_161)) ?_
              show Go _ p e below s _ _ _ (T84.setTop (mkF m 162 #[.val (.ref a1), .val (.ref a2), .val (.int p3), .val (.int p4), .val (.int i), s5] [(.int (1 : Int32)), (.int x5), (.ref a1)]))
              refine go (fun _ => XS.goto X84.here hx rfl (pc0 := 162) (pc' := 166) rfl (hb hby d6_162) (by decide) (by decide)) ?_
              show Go _ p e below s _ _ _ (T84.setTop (mkF m 166 #[.val (.ref a1), .val (.ref a2), .val (.int p3), .val (.int p4), .val (.int i), s5] [(.int (1 : Int32)), (.int x5), (.ref a1)]))
              exact JE _ T84 _ X84 e84 NN80 (by unfold own_lk; simp only [if_neg hc158_85])
          refine go (fun _ => XS.aloadN X52.here hx rfl (hb hby d6_113) rfl rfl) ?_
          show Go _ p e below s _ _ _ (T52.setTop (mkF m 114 #[.val (.ref a1), .val (.ref a2), .val (.int p3), .val (.int p4), .val (.int i), s5] [(.ref a1), (.ref a1)]))
          obtain ⟨T86, X86, e86, st86⟩ := getF X52 hx hZ hown (host := "") (Or.inl (hw _ (List.mem_of_getElem? (i := 30) rfl))) Via.refl e52 c52_3 (g := (mkF m 114 #[.val (.ref a1), .val (.ref a2), .val (.int p3), .val (.int p4), .val (.int i), s5] [(.ref a1), (.ref a1)])) rfl rfl (hb hby d6_114)
          refine go st86 ?_
          show Go _ p e below s _ _ _ (T86.setTop (mkF m 117 #[.val (.ref a1), .val (.ref a2), .val (.int p3), .val (.int p4), .val (.int i), s5] [(.int x2), (.ref a1)]))
          by_cases hc117_87 : x2 = (0 : Int32)
          · refine go (fun _ => XS.ifNo X86.here hx rfl (hb hby d6_117) rfl ((if0 _ _).trans (teq hc117_87).2)) ?_
            show Go _ p e below s _ _ _ (T86.setTop (mkF m 120 #[.val (.ref a1), .val (.ref a2), .val (.int p3), .val (.int p4), .val (.int i), s5] [(.ref a1)]))
            refine go (fun _ => XS.aloadN X86.here hx rfl (hb hby d6_120) rfl rfl) ?_
            show Go _ p e below s _ _ _ (T86.setTop (mkF m 121 #[.val (.ref a1), .val (.ref a2), .val (.int p3), .val (.int p4), .val (.int i), s5] [(.ref a2), (.ref a1)]))
            refine go (fun _ => XS.iload X86.here hx rfl (hb hby d6_121) rfl) ?_
            show Go _ p e below s _ _ _ (T86.setTop (mkF m 123 #[.val (.ref a1), .val (.ref a2), .val (.int p3), .val (.int p4), .val (.int i), s5] [(.int i), (.ref a2), (.ref a1)]))
            obtain ⟨cl88, Ar88, q88, Sz88, Nz88, Hs88, Gs88⟩ := id c52_1
            have hin88 : ¬ (i < 0 ∨ cl88.slots.size ≤ (i).toNatClampNeg) := inb_of Sz88 (own_in hi hz)
            refine go (X86.baloadBytes hx (j := i) (v := (.int (g k))) (by rw [e86]; exact Ar88.1) (State.isArrayOf_alike hZ.alike Ar88.2.1) Ar88.2.2 hin88 (Hs88.at hin88 (by rw [own_ix hi]; exact hg k)) (g := (mkF m 123 #[.val (.ref a1), .val (.ref a2), .val (.int p3), .val (.int p4), .val (.int i), s5] [(.int i), (.ref a2), (.ref a1)])) rfl rfl (hb hby d6_123)) ?_
            show Go _ p e below s _ _ _ (T86.setTop (mkF m 124 #[.val (.ref a1), .val (.ref a2), .val (.int p3), .val (.int p4), .val (.int i), s5] [(.int (g k)), (.ref a1)]))
            refine go (fun _ => XS.bipush X86.here hx rfl (hb hby d6_124)) ?_
            show Go _ p e below s _ _ _ (T86.setTop (mkF m 126 #[.val (.ref a1), .val (.ref a2), .val (.int p3), .val (.int p4), .val (.int i), s5] [(.int (13 : Int32)), (.int (g k)), (.ref a1)]))
            by_cases hc126_89 : (g k) = (13 : Int32)
            · refine go (fun _ => XS.icmpNo X86.here hx rfl (hb hby d6_126) rfl (teq hc126_89).2) ?_
              show Go _ p e below s _ _ _ (T86.setTop (mkF m 129 #[.val (.ref a1), .val (.ref a2), .val (.int p3), .val (.int p4), .val (.int i), s5] [(.ref a1)]))
              refine go (fun _ => XS.iconst X86.here hx rfl (hb hby d6_129)) ?_
              show Go _ p e below s _ _ _ (T86.setTop (mkF m 130 #[.val (.ref a1), .val (.ref a2), .val (.int p3), .val (.int p4), .val (.int i), s5] [(.int (1 : Int32)), (.ref a1)]))
              refine go (fun _ => XS.goto X86.here hx rfl (pc0 := 130) (pc' := 134) rfl (hb hby d6_130) (by decide) (by decide)) ?_
              show Go _ p e below s _ _ _ (T86.setTop (mkF m 134 #[.val (.ref a1), .val (.ref a2), .val (.int p3), .val (.int p4), .val (.int i), s5] [(.int (1 : Int32)), (.ref a1)]))
              exact JD _ T86 _ X86 e86 NN52 (by unfold own_cr; simp only [if_pos hc117_87, if_pos hc126_89])
            · refine go (fun _ => XS.icmpYes X86.here hx rfl (pc0 := 126) (pc' := 133) rfl (hb hby d6_126) rfl (feq hc126_89).2 (by decide) (by decide)) ?_
              show Go _ p e below s _ _ _ (T86.setTop (mkF m 133 #[.val (.ref a1), .val (.ref a2), .val (.int p3), .val (.int p4), .val (.int i), s5] [(.ref a1)]))
              refine go (fun _ => XS.iconst X86.here hx rfl (hb hby d6_133)) ?_
              show Go _ p e below s _ _ _ (T86.setTop (mkF m 134 #[.val (.ref a1), .val (.ref a2), .val (.int p3), .val (.int p4), .val (.int i), s5] [(.int (0 : Int32)), (.ref a1)]))
              exact JD _ T86 _ X86 e86 NN52 (by unfold own_cr; simp only [if_pos hc117_87, if_neg hc126_89])
          · refine go (fun _ => XS.ifYes X86.here hx rfl (pc0 := 117) (pc' := 133) rfl (hb hby d6_117) rfl ((if0 _ _).trans (feq hc117_87).2) (by decide) (by decide)) ?_
            show Go _ p e below s _ _ _ (T86.setTop (mkF m 133 #[.val (.ref a1), .val (.ref a2), .val (.int p3), .val (.int p4), .val (.int i), s5] [(.ref a1)]))
            refine go (fun _ => XS.iconst X86.here hx rfl (hb hby d6_133)) ?_
            show Go _ p e below s _ _ _ (T86.setTop (mkF m 134 #[.val (.ref a1), .val (.ref a2), .val (.int p3), .val (.int p4), .val (.int i), s5] [(.int (0 : Int32)), (.ref a1)]))
            exact JD _ T86 _ X86 e86 NN52 (by unfold own_cr; simp only [if_neg hc117_87])
      · refine go (fun _ => XS.ifYes X49.here hx rfl (pc0 := 13) (pc' := 176) rfl (hb hby d6_13) rfl ((if0 _ _).trans (feq hc13_50).2) (by decide) (by decide)) ?_
        show Go _ p e below s _ _ _ (T49.setTop (mkF m 176 #[.val (.ref a1), .val (.ref a2), .val (.int p3), .val (.int p4), .val (.int i), s5] []))
        rw [own_runT (x := (x1, x2, x3, x4, x5)) hc13_50] at hr
        refine go (fun _ => XS.aloadN X49.here hx rfl (hb hby d6_176) rfl rfl) ?_
        show Go _ p e below s _ _ _ (T49.setTop (mkF m 177 #[.val (.ref a1), .val (.ref a2), .val (.int p3), .val (.int p4), .val (.int i), s5] [(.ref a1)]))
        obtain ⟨T90, X90, e90, st90⟩ := getF X49 hx hZ hown (host := "") (Or.inl (hw _ (List.mem_of_getElem? (i := 26) rfl))) Via.refl e49 ff47_6 (g := (mkF m 177 #[.val (.ref a1), .val (.ref a2), .val (.int p3), .val (.int p4), .val (.int i), s5] [(.ref a1)])) rfl rfl (hb hby d6_177)
        refine go st90 ?_
        show Go _ p e below s _ _ _ (T90.setTop (mkF m 180 #[.val (.ref a1), .val (.ref a2), .val (.int p3), .val (.int p4), .val (.int i), s5] [(.int x5)]))
        refine goRetN X90 hx Bd.notSynchronized (t := .boolean) Bd.returns (by simp) (hb hby d6_180) (by decide) (by decide) (by rw [e90]; refine ⟨x1, x2, x3, x4, x5, rfl, NF47, KK47, ff47_2, ff47_3, ff47_4, ff47_5, ff47_6, hr⟩)
  exact LP nn _ i0 _ _ _ _ _ _ s₁ _ h0 X0 e0 N0 (Keep.refl h0 [a1]) Z0  P0 P2 P4 P5 P6 P7 P8 One.u hi0 hto hzl rfl

abbrev OwnX := Int32 × Int32 × Int32 × Int32 × Int32
theorem own_stick {g : Nat → Int32} {x : OwnX} (h : ¬ x.2.2.2.2 = 0) : ∀ n k, own_run g n k x = x
  | 0, _ => rfl
  | _ + 1, _ => own_runT h
theorem own_add (g : Nat → Int32) (b : Nat) : ∀ (a k : Nat) (x : OwnX), own_run g b (k + a) (own_run g a k x) = own_run g (a + b) k x
  | 0, k, x => by rw [own_run0, Nat.add_zero, Nat.zero_add]
  | a + 1, k, x => by
    by_cases h : x.2.2.2.2 = 0
    · rw [own_runS h, Nat.add_right_comm a 1 b, own_runS h, ← own_add g b a (k + 1) (own_step (g k) x)]
      congr 1; omega
    · rw [own_stick h, own_stick h, own_stick h]
def own_emp (k c : Int32) : Int32 := if k = 0 then 1 else if k = 1 then 1 else if k = 2 then (if c = 13 then 1 else if c = 10 then 1 else 0) else if k = 3 then (if c = 10 then 1 else 0) else 0
def own_fd (fd e rq : Int32) : Int32 := if fd = 0 then (if e = 0 then 0 else if rq = 0 then 0 else 1) else 1
def own_rq (rq e : Int32) : Int32 := if rq = 0 then (if e = 0 then 1 else 0) else 1
def own_inv (x : OwnX) (rq fd : Int32) (N : Nat) : Prop := x.2.2.2.2 = fd ∧ (fd = 0 ∨ fd = 1) ∧ (rq = 0 ∨ rq = 1) ∧ (fd = 0 → x.2.1 = 0 ∧ x.2.2.2.1 = rq ∧ 0 ≤ x.1.toInt ∧ x.1.toInt ≤ N)
theorem own_lk0 {x : Int32} {N : Nat} (h1 : 0 ≤ x.toInt) (h2 : x.toInt ≤ N) (hN : N ≤ 60000) : own_lk (x + 1) = 0 ∧ (x + 1).toInt = x.toInt + 1 := by
  have e1 : (1 : Int32).toInt = 1 := by decide
  have e : (x + 1).toInt = x.toInt + 1 := by rw [Jvm.Kit.i32_add (by rw [e1]; omega) (by rw [e1]; omega), e1]
  refine ⟨?_, e⟩
  unfold own_lk
  rw [if_pos (by rw [Int32.lt_iff_toInt_lt, e, show (65537 : Int32).toInt = 65537 from by decide]; omega)]
theorem own_nl {x1 x2 x3 rq : Int32} (hl : own_lk (x1 + 1) = 0) (he : own_e x2 x3 = 1) (hrq : rq = 0 ∨ rq = 1) : own_step 10 (x1, x2, x3, rq, 0) = (x1 + 1, 0, x3, rq, rq) := by
  unfold own_step; rw [if_pos rfl]; simp only [he, hl]
  rcases hrq with rfl | rfl
  · rfl
  · rfl
theorem own_nn {x1 x2 x3 rq : Int32} (hl : own_lk (x1 + 1) = 0) (he : own_e x2 x3 = 0) (hrq : rq = 0 ∨ rq = 1) : own_step 10 (x1, x2, x3, rq, 0) = (x1 + 1, 0, x3, 1, 0) := by
  unfold own_step; rw [if_pos rfl]; simp only [he, hl]
  rcases hrq with rfl | rfl
  · rfl
  · rfl
theorem own_ch {b x1 x2 x3 rq : Int32} (hb : ¬ b = 10) (hl : own_lk (x1 + 1) = 0) : own_step b (x1, x2, x3, rq, 0) = (x1 + 1, x2 + 1, nar .boolean (own_cr x2 b), rq, 0) := by
  unfold own_step; rw [if_neg hb]; simp only [hl]; rfl
theorem own_invMk {x1 x3 rq fd : Int32} {N : Nat} (hf : fd = 0 ∨ fd = 1) (hr : rq = 0 ∨ rq = 1) (h1 : 0 ≤ x1.toInt) (h2 : x1.toInt ≤ N) {x5 : Int32} (h5 : x5 = fd) {x4 : Int32} (h4 : x4 = rq) : own_inv (x1, 0, x3, x4, x5) rq fd N := ⟨h5, hf, hr, fun _ => ⟨rfl, h4, h1, h2⟩⟩
theorem own_fd0 {rq : Int32} (h : rq = 0 ∨ rq = 1) : own_fd 0 1 rq = rq := by rcases h with rfl | rfl <;> rfl
theorem own_rq0 {rq : Int32} (h : rq = 0 ∨ rq = 1) : own_rq rq 1 = rq := by rcases h with rfl | rfl <;> rfl
theorem own_fd1 (rq : Int32) : own_fd 0 0 rq = 0 := rfl
theorem own_rq1 {rq : Int32} (h : rq = 0 ∨ rq = 1) : own_rq rq 0 = 1 := by rcases h with rfl | rfl <;> rfl
/-- an empty line ends, at the line's start or behind its carriage return; then, if more newlines come, they change nothing that matters -/
theorem own_end0 {g : Nat → Int32} {k : Nat} (hg : g k = 10) {x1 x2 x3 rq : Int32} {N : Nat} (h1 : 0 ≤ x1.toInt) (h2 : x1.toInt ≤ N) (hN : N ≤ 50000) (he : own_e x2 x3 = 1) (hrq : rq = 0 ∨ rq = 1) : own_inv (own_run g 1 k (x1, x2, x3, rq, 0)) rq rq (N + 1) := by
  obtain ⟨l0, l1⟩ := own_lk0 h1 h2 (by omega)
  rw [own_runS rfl, hg, own_nl l0 he hrq, own_run0]
  exact own_invMk hrq hrq (by omega) (by omega) rfl rfl
theorem own_invUp {x : OwnX} {rq fd : Int32} {N M : Nat} (h : own_inv x rq fd N) (hm : N ≤ M) : own_inv x rq fd M := ⟨h.1, h.2.1, h.2.2.1, fun q => by obtain ⟨a, b, c, d⟩ := h.2.2.2 q; exact ⟨a, b, c, by omega⟩⟩
/-- from a state that is between two lines, one more newline -/
theorem own_more {g : Nat → Int32} {k : Nat} (hg : g k = 10) {x : OwnX} {rq : Int32} {N : Nat} (hN : N ≤ 50000) (h : own_inv x rq rq N) : own_inv (own_run g 1 k x) rq rq (N + 1) := by
  by_cases hx : x.2.2.2.2 = 0
  · obtain ⟨a, b, c, d⟩ := h
    obtain ⟨x1, x2, x3, x4, x5⟩ := x
    simp only at a hx d
    have hr : rq = 0 := a ▸ hx
    obtain ⟨d1, d2, d3, d4⟩ := d hr
    subst hx d1 d2
    exact own_end0 hg d3 d4 hN rfl c
  · rw [own_stick hx]; exact own_invUp h (by omega)
theorem own_line0 {g : Nat → Int32} (g1 : g 1 = 10) {x1 x3 rq : Int32} {N : Nat} (h1 : 0 ≤ x1.toInt) (h2 : x1.toInt ≤ N) (hN : N ≤ 10000) (hrq : rq = 0 ∨ rq = 1) : own_inv (own_run g 1 1 (x1, 0, x3, rq, 0)) (own_rq rq 1) (own_fd 0 1 rq) (N + 3) := by
  rw [own_rq0 hrq, own_fd0 hrq]; exact own_invUp (own_end0 g1 h1 h2 (by omega) rfl hrq) (by omega)
theorem own_cr13 (x1 x3 rq : Int32) (hl : own_lk (x1 + 1) = 0) : own_step 13 (x1, 0, x3, rq, 0) = (x1 + 1, 1, 1, rq, 0) := by rw [own_ch (by decide) hl]; rfl
theorem own_line1 {g : Nat → Int32} (g1 : g 1 = 13) (g2 : g 2 = 10) {x1 x3 rq : Int32} {N : Nat} (h1 : 0 ≤ x1.toInt) (h2 : x1.toInt ≤ N) (hN : N ≤ 10000) (hrq : rq = 0 ∨ rq = 1) : own_inv (own_run g 2 1 (x1, 0, x3, rq, 0)) (own_rq rq 1) (own_fd 0 1 rq) (N + 3) := by
  obtain ⟨l0, l1⟩ := own_lk0 h1 h2 (by omega)
  rw [own_rq0 hrq, own_fd0 hrq, own_runS rfl, g1, own_cr13 x1 x3 rq l0]
  exact own_invUp (own_end0 g2 (N := N + 1) (by omega) (by omega) (by omega) rfl hrq) (by omega)
theorem own_line2a {g : Nat → Int32} (g1 : g 1 = 10) (g2 : g 2 = 10) {x1 x3 rq : Int32} {N : Nat} (h1 : 0 ≤ x1.toInt) (h2 : x1.toInt ≤ N) (hN : N ≤ 10000) (hrq : rq = 0 ∨ rq = 1) : own_inv (own_run g 2 1 (x1, 0, x3, rq, 0)) (own_rq rq 1) (own_fd 0 1 rq) (N + 3) := by
  rw [own_rq0 hrq, own_fd0 hrq, ← own_add g 1 1 1]
  exact own_invUp (own_more g2 (N := N + 1) (by omega) (own_end0 g1 h1 h2 (by omega) rfl hrq)) (by omega)
theorem own_line2c {g : Nat → Int32} (g1 : ¬ g 1 = 10) (g1' : ¬ g 1 = 13) (g2 : g 2 = 10) {x1 x3 rq : Int32} {N : Nat} (h1 : 0 ≤ x1.toInt) (h2 : x1.toInt ≤ N) (hN : N ≤ 10000) (hrq : rq = 0 ∨ rq = 1) : own_inv (own_run g 2 1 (x1, 0, x3, rq, 0)) (own_rq rq 0) (own_fd 0 0 rq) (N + 3) := by
  obtain ⟨l0, l1⟩ := own_lk0 h1 h2 (by omega)
  obtain ⟨m0, m1⟩ := own_lk0 (x := x1 + 1) (N := N + 1) (by omega) (by omega) (by omega)
  have hc : nar .boolean (own_cr 0 (g 1)) = 0 := by unfold own_cr; rw [if_pos rfl, if_neg g1']; rfl
  rw [own_rq1 hrq, own_fd1, own_runS rfl, own_ch g1 l0, hc, own_runS rfl, g2, own_nn m0 rfl hrq, own_run0]
  exact own_invMk (Or.inl rfl) (Or.inr rfl) (by omega) (by omega) rfl rfl
theorem own_line3a {g : Nat → Int32} (g1 : g 1 = 13) (g2 : g 2 = 10) (g3 : g 3 = 10) {x1 x3 rq : Int32} {N : Nat} (h1 : 0 ≤ x1.toInt) (h2 : x1.toInt ≤ N) (hN : N ≤ 10000) (hrq : rq = 0 ∨ rq = 1) : own_inv (own_run g 3 1 (x1, 0, x3, rq, 0)) (own_rq rq 1) (own_fd 0 1 rq) (N + 3) := by
  obtain ⟨l0, l1⟩ := own_lk0 h1 h2 (by omega)
  rw [own_rq0 hrq, own_fd0 hrq, ← own_add g 1 2 1, own_runS (f := 1) (k := 1) (x := (x1, 0, x3, rq, 0)) rfl, g1, own_cr13 x1 x3 rq l0]
  exact own_invUp (own_more g3 (N := N + 2) (by omega) (own_end0 g2 (N := N + 1) (by omega) (by omega) (by omega) rfl hrq)) (by omega)
theorem own_line3c {g : Nat → Int32} (g1 : g 1 = 13) (g2 : ¬ g 2 = 10) (g3 : g 3 = 10) {x1 x3 rq : Int32} {N : Nat} (h1 : 0 ≤ x1.toInt) (h2 : x1.toInt ≤ N) (hN : N ≤ 10000) (hrq : rq = 0 ∨ rq = 1) : own_inv (own_run g 3 1 (x1, 0, x3, rq, 0)) (own_rq rq 0) (own_fd 0 0 rq) (N + 3) := by
  obtain ⟨l0, l1⟩ := own_lk0 h1 h2 (by omega)
  obtain ⟨m0, m1⟩ := own_lk0 (x := x1 + 1) (N := N + 1) (by omega) (by omega) (by omega)
  obtain ⟨n0, n1⟩ := own_lk0 (x := x1 + 1 + 1) (N := N + 2) (by omega) (by omega) (by omega)
  rw [own_rq1 hrq, own_fd1, own_runS rfl, g1, own_cr13 x1 x3 rq l0, own_runS rfl, own_ch g2 m0, own_runS rfl, g3, own_nn n0 rfl hrq, own_run0]
  exact own_invMk (Or.inl rfl) (Or.inr rfl) (by omega) (by omega) rfl rfl
/-- what feed asks of the two calls: A behind the first, B behind both -/
theorem own_feed {g : Nat → Int32} {L spl : Nat} (hs : spl ≤ L) {x A B : OwnX} (hA0 : A = own_run g spl 1 x) (hB0 : B = own_run g (L - spl) (1 + spl) A) {rq fd e : Int32} {N : Nat} (hi : own_inv x rq fd N) (he : e = 0 ∨ e = 1)
    (hline : ∀ x1 x3 : Int32, 0 ≤ x1.toInt → x1.toInt ≤ N → (rq = 0 ∨ rq = 1) → own_inv (own_run g L 1 (x1, 0, x3, rq, 0)) (own_rq rq e) (own_fd 0 e rq) (N + 3)) :
    own_inv B (own_rq rq e) (own_fd fd e rq) (N + 3) ∧ (¬ fd = 0 → A.2.2.2.2 = 1) ∧ (¬ A.2.2.2.2 = 0 → own_fd fd e rq = 1) ∧ B.2.2.2.2 = own_fd fd e rq ∧ (A.2.2.2.2 = 0 ∨ A.2.2.2.2 = 1) := by
  have hB : B = own_run g L 1 x := by
    rw [hB0, hA0, own_add g (L - spl) spl 1 x, Nat.add_sub_cancel' hs]
  obtain ⟨i1, i2, i3, i4⟩ := hi
  have hrqe : own_rq rq e = 0 ∨ own_rq rq e = 1 := by rcases i3 with rfl | rfl <;> rcases he with rfl | rfl <;> first | exact Or.inl rfl | exact Or.inr rfl
  by_cases hf : fd = 0
  · subst hf
    obtain ⟨j1, j2, j3, j4⟩ := i4 rfl
    obtain ⟨x1, x2, x3, x4, x5⟩ := x
    simp only at j1 j2 j3 j4 i1
    subst j1 j2 i1
    have hl := hline x1 x3 j3 j4 i3
    rw [← hB] at hl
    refine ⟨hl, fun q => absurd rfl q, fun q => ?_, hl.1, ?_⟩
    · have hBA : B = A := by
        rw [hB0]; exact own_stick q _ _
      rcases hl.2.1 with u | u
      · exact absurd (by rw [← hBA, hl.1, u]) q
      · exact u
    · by_cases q : A.2.2.2.2 = 0
      · exact Or.inl q
      · have hBA : B = A := by
          rw [hB0]; exact own_stick q _ _
        rcases hl.2.1 with u | u
        · exact absurd (by rw [← hBA, hl.1, u]) q
        · right; rw [← hBA, hl.1, u]
  · have hx : ¬ x.2.2.2.2 = 0 := by rw [i1]; exact hf
    have f1 : fd = 1 := by rcases i2 with q | q
                           · exact absurd q hf
                           · exact q
    have hA : A = x := by rw [hA0]; exact own_stick hx _ _
    have hBx : B = x := by rw [hB]; exact own_stick hx _ _
    have ff : own_fd fd e rq = 1 := by unfold own_fd; rw [if_neg hf]
    rw [ff, hBx, hA]
    exact ⟨⟨by rw [i1, f1], Or.inr rfl, hrqe, fun q => absurd q (by decide)⟩, fun _ => by rw [i1, f1], fun _ => rfl, by rw [i1, f1], Or.inr (by rw [i1, f1])⟩
theorem own_nb {z : Int32} (h : z = 0 ∨ z = 1) : nar .boolean z = z := by rcases h with rfl | rfl <;> rfl
/-- zeros -/
theorem own_zeros : ∀ (n k : Nat) (x1 x2 x3 : Int32) (a : Nat), x1.toInt = (a : Int) → a < 65537 →
    (a + n < 65537 → (own_run (fun _ => 0) n k (x1, x2, x3, 0, 0)).1.toInt = ((a + n : Nat) : Int) ∧ (own_run (fun _ => 0) n k (x1, x2, x3, 0, 0)).2.2.2.1 = 0 ∧ (own_run (fun _ => 0) n k (x1, x2, x3, 0, 0)).2.2.2.2 = 0) ∧ (65537 ≤ a + n → (own_run (fun _ => 0) n k (x1, x2, x3, 0, 0)).2.2.2.2 = 1)
  | 0, k, x1, x2, x3, a, h, ha => ⟨fun _ => ⟨h, rfl, rfl⟩, fun q => absurd q (by omega)⟩
  | n + 1, k, x1, x2, x3, a, h, ha => by
    have e1 : (1 : Int32).toInt = 1 := by decide
    have e : (x1 + 1).toInt = ((a + 1 : Nat) : Int) := by rw [Jvm.Kit.i32_add (by rw [e1]; omega) (by rw [e1]; omega), e1, h]; rfl
    have es : own_step 0 (x1, x2, x3, 0, 0) = (x1 + 1, x2 + 1, 0, 0, nar .boolean (own_lk (x1 + 1))) := by
      unfold own_step own_cr; rw [if_neg (by decide)]; simp
      first | rfl | (split <;> rfl)
    rw [own_runS rfl, es]
    by_cases hl : a + 1 < 65537
    · have l0 : own_lk (x1 + 1) = 0 := by unfold own_lk; rw [if_pos (by rw [Int32.lt_iff_toInt_lt, e, show (65537 : Int32).toInt = 65537 from by decide]; omega)]
      rw [l0, show nar .boolean 0 = 0 from rfl]
      obtain ⟨i1, i2⟩ := own_zeros n (k + 1) (x1 + 1) (x2 + 1) 0 (a + 1) e hl
      exact ⟨fun q => by obtain ⟨u, v, w⟩ := i1 (by omega); exact ⟨by rw [u]; omega, v, w⟩, fun q => i2 (by omega)⟩
    · have l1 : own_lk (x1 + 1) = 1 := by unfold own_lk; rw [if_neg (by rw [Int32.lt_iff_toInt_lt, e, show (65537 : Int32).toInt = 65537 from by decide]; omega)]
      rw [l1, show nar .boolean 1 = 1 from rfl, own_stick (by show ¬ (1 : Int32) = 0; decide)]
      exact ⟨fun q => absurd q (by omega), fun _ => rfl⟩
def own_min (a b : Int32) : Int32 := if b < a then b else a
theorem own_getD (es : List Int32) (j : Nat) : (es.map Value.int).getD j (.int 0) = .int (es.getD j 0) := by
  simp only [List.getD_eq_getElem?_getD, List.getElem?_map]
  cases es[j]? <;> rfl
theorem own_mod (x r : Int32) (n : Nat) (hr : r.toInt = (n : Int)) (hn : 0 < n) : ∃ k : Nat, ((x &&& 2147483647) % r).toInt = (k : Int) ∧ k < n := by
  have h := Jvm.Kit.i32_mask x 2147483647 (k := 31) (by decide) (by decide)
  have e1 : ((x &&& 2147483647) % r).toInt = (x &&& 2147483647).toInt % r.toInt := Jvm.Kit.i32_rem_nonneg (by omega)
  have g1 := Int.emod_nonneg (x &&& 2147483647).toInt (b := r.toInt) (by omega)
  have g2 := Int.emod_lt_of_pos (x &&& 2147483647).toInt (b := r.toInt) (by omega)
  exact ⟨((x &&& 2147483647) % r).toInt.toNat, by omega, by omega⟩
theorem own_and3 (x : Int32) : ∃ n : Nat, (x &&& 3).toInt = (n : Int) ∧ n ≤ 3 := by
  have h := Jvm.Kit.i32_mask x 3 (k := 2) (by decide) (by decide)
  exact ⟨(x &&& 3).toInt.toNat, by omega, by omega⟩
theorem own_four {x : Int32} {n : Nat} (h : x.toInt = (n : Int)) (hn : n ≤ 3) (h0 : ¬ x = 0) (h1 : ¬ x = 1) (h2 : ¬ x = 2) : x = 3 := by
  simp only [← Int32.toInt_inj, show (0 : Int32).toInt = 0 from by decide, show (1 : Int32).toInt = 1 from by decide, show (2 : Int32).toInt = 2 from by decide, show (3 : Int32).toInt = 3 from by decide] at *
  omega
theorem own_minN {a b : Int32} {n L : Nat} (ha : a.toInt = (n : Int)) (hb : b.toInt = (L : Int)) : ∃ k : Nat, (own_min a b).toInt = (k : Int) ∧ k ≤ L := by
  unfold own_min
  by_cases h : b < a
  · rw [if_pos h]; exact ⟨L, hb, Nat.le_refl _⟩
  · rw [if_neg h]; rw [Int32.lt_iff_toInt_lt] at h; exact ⟨n, ha, by omega⟩
theorem own_1p {v : Int32} {k : Nat} (h : v.toInt = (k : Int)) (hk : k ≤ 100) : (1 + v).toInt = ((1 + k : Nat) : Int) := by
  have h1 : (1 : Int32).toInt = 1 := by decide
  rw [Jvm.Kit.i32_add (by rw [h1]; omega) (by rw [h1]; omega), h1, h]; rfl
theorem d5_0 : decode jdk_29_method_69_code 0 = .ok (.iload_n 0, 1) := by decide +kernel
theorem d5_1 : decode jdk_29_method_69_code 1 = .ok (.iload_n 1, 1) := by decide +kernel
theorem d5_2 : decode jdk_29_method_69_code 2 = .ok (.if_icmp .gt 7, 3) := by decide +kernel
theorem d5_5 : decode jdk_29_method_69_code 5 = .ok (.iload_n 0, 1) := by decide +kernel
theorem d5_6 : decode jdk_29_method_69_code 6 = .ok (.goto 4, 3) := by decide +kernel
theorem d5_9 : decode jdk_29_method_69_code 9 = .ok (.iload_n 1, 1) := by decide +kernel
theorem d5_10 : decode jdk_29_method_69_code 10 = .ok (.ireturn, 1) := by decide +kernel
theorem ef_5 (m : MethodId) (p1 : Int32) (p2 : Int32) : entryFrame m #[(.int p1), (.int p2)] 2 = mkF m 0 #[.val (.int p1), .val (.int p2)] [] := by first | (simp [entryFrame, mkF, argsToLocals, Value.category]; done) | rfl
def Q5 (Z : State) (p1 : Int32) (p2 : Int32) (h0 : Heap) (n0 : Nat) (v : Option Value) (h : Heap) (L : List Loc) : Prop := v = some (.int (own_min p1 p2)) ∧ Fr n0 L ∧ (h = h0)
set_option maxRecDepth 65536 in
set_option maxHeartbeats 40000000 in
theorem rm5 (l : Launch) (Z : State) (a0 : Array Value) (hw : ∀ d ∈ tables_1, d.before a0 Z = true) (ws : List Jvm.Cond) (p1 : Int32) (p2 : Int32) (h0 : Heap) (n0 : Nat) (Z0 : n0 ≤ h0.size)  :
    MetFree l (⟨"java/lang/Math", "min", "(II)I"⟩ : MethodName) (head1 (Jvm.Cond.code (⟨"java/lang/Math", "min", "(II)I"⟩ : MethodName) jdk_29_method_69_code 2 (some .int) :: ws) ({ frames := 0, cells := 0, slots := 0, locals := 0 } : Room)) (fun a U => a = #[(.int p1), (.int p2)] ∧ Z.Warmed39 U.vm ∧ U.heap = h0) (fun _ _ _ _ _ => True) (fun _ U o U' => ∃ v L, o = .returned v ∧ Q5 Z p1 p2 h0 n0 v U'.heap L ∧ FrameEnd U o U' L ({ frames := 0, cells := 0, slots := 0, locals := 0 } : Room).cells ({ frames := 0, cells := 0, slots := 0, locals := 0 } : Room).slots) := by
  refine MetFree.of_bodySF (Jvm.Free.JP.mathPlain rfl (by decide +kernel)) hisR ?_
  intro p e s m args below meth c s₁ Bd hml0 hP hK
  obtain ⟨rfl, hZ, hh⟩ := hP
  have hx := Bd.exec
  have hby := Bd.bytes
  have hml : c.maxLocals = 2 := hml0
  have hown : s.vm.findClass "java/lang/Math" = some m.cls := findClass_of_methodNamed Bd.named
  have hnm := (name_of_methodNamed Bd.named Bd.method).1
  have X0 : Stand p l e ({ frames := 0, cells := 0, slots := 0, locals := 0 } : Room) s m #[(.int p1), (.int p2)] below meth c s₁ [] 0 0 := Stand.of_body Bd
  have e0 : s₁.heap = h0 := by rw [← hh, Bd.state]; rfl
  have N0 := Fr.nil n0
  have hS0 : s.Since s.vm 0 := (State.WarmedH.refl s).since 0
  show Go FrameEnd p e below s ({ frames := 0, cells := 0, slots := 0, locals := 0 } : Room).cells ({ frames := 0, cells := 0, slots := 0, locals := 0 } : Room).slots (Q5 Z p1 p2 h0 n0) (s₁.setTop (entryFrame m #[(.int p1), (.int p2)] 2))
  refine go (fun _ k => castTop (ef_5 m p1 p2) k) ?_
  show Go _ p e below s _ _ _ (s₁.setTop (mkF m 0 #[.val (.int p1), .val (.int p2)] []))
  refine go (fun _ => XS.iloadN X0.here hx rfl (hb hby d5_0) rfl) ?_
  show Go _ p e below s _ _ _ (s₁.setTop (mkF m 1 #[.val (.int p1), .val (.int p2)] [(.int p1)]))
  refine go (fun _ => XS.iloadN X0.here hx rfl (hb hby d5_1) rfl) ?_
  show Go _ p e below s _ _ _ (s₁.setTop (mkF m 2 #[.val (.int p1), .val (.int p2)] [(.int p2), (.int p1)]))
  by_cases hc2_92 : p2 < p1
  · refine go (fun _ => XS.icmpYes X0.here hx rfl (pc0 := 2) (pc' := 9) rfl (hb hby d5_2) rfl (tlt hc2_92).2.2.1 (by decide) (by decide)) ?_
    show Go _ p e below s _ _ _ (s₁.setTop (mkF m 9 #[.val (.int p1), .val (.int p2)] []))
    refine go (fun _ => XS.iloadN X0.here hx rfl (hb hby d5_9) rfl) ?_
    show Go _ p e below s _ _ _ (s₁.setTop (mkF m 10 #[.val (.int p1), .val (.int p2)] [(.int p2)]))
    refine goRet X0 hx Bd.notSynchronized Bd.returns rfl (Or.inl ⟨rfl, Or.inl rfl, _, rfl⟩) (hb hby d5_10) (by decide) (by decide) (by rw [e0]; refine ⟨(by unfold own_min; rw [if_pos hc2_92]), N0, rfl⟩)
  · refine go (fun _ => XS.icmpNo X0.here hx rfl (hb hby d5_2) rfl (flt hc2_92).2.2.1) ?_
    show Go _ p e below s _ _ _ (s₁.setTop (mkF m 5 #[.val (.int p1), .val (.int p2)] []))
    refine go (fun _ => XS.iloadN X0.here hx rfl (hb hby d5_5) rfl) ?_
    show Go _ p e below s _ _ _ (s₁.setTop (mkF m 6 #[.val (.int p1), .val (.int p2)] [(.int p1)]))
    refine go (fun _ => XS.goto X0.here hx rfl (pc0 := 6) (pc' := 10) rfl (hb hby d5_6) (by decide) (by decide)) ?_
    show Go _ p e below s _ _ _ (s₁.setTop (mkF m 10 #[.val (.int p1), .val (.int p2)] [(.int p1)]))
    refine goRet X0 hx Bd.notSynchronized Bd.returns rfl (Or.inl ⟨rfl, Or.inl rfl, _, rfl⟩) (hb hby d5_10) (by decide) (by decide) (by rw [e0]; refine ⟨(by unfold own_min; rw [if_neg hc2_92]), N0, rfl⟩)
theorem d3_0 : decode method_3_code 0 = .ok (.iload_n 0, 1) := by decide +kernel
theorem d3_1 : decode method_3_code 1 = .ok (.iconst 3, 1) := by decide +kernel
theorem d3_2 : decode method_3_code 2 = .ok (.iand, 1) := by decide +kernel
theorem d3_3 : decode method_3_code 3 = .ok (.istore_n 1, 1) := by decide +kernel
theorem d3_4 : decode method_3_code 4 = .ok (.iload_n 0, 1) := by decide +kernel
theorem d3_5 : decode method_3_code 5 = .ok (.iconst 2, 1) := by decide +kernel
theorem d3_6 : decode method_3_code 6 = .ok (.ishr, 1) := by decide +kernel
theorem d3_7 : decode method_3_code 7 = .ok (.sipush 255, 3) := by decide +kernel
theorem d3_10 : decode method_3_code 10 = .ok (.iand, 1) := by decide +kernel
theorem d3_11 : decode method_3_code 11 = .ok (.istore_n 2, 1) := by decide +kernel
theorem d3_12 : decode method_3_code 12 = .ok (.iload_n 1, 1) := by decide +kernel
theorem d3_13 : decode method_3_code 13 = .ok (.ifCond .eq 36, 3) := by decide +kernel
theorem d3_16 : decode method_3_code 16 = .ok (.iload_n 1, 1) := by decide +kernel
theorem d3_17 : decode method_3_code 17 = .ok (.iconst 1, 1) := by decide +kernel
theorem d3_18 : decode method_3_code 18 = .ok (.if_icmp .eq 31, 3) := by decide +kernel
theorem d3_21 : decode method_3_code 21 = .ok (.iload_n 1, 1) := by decide +kernel
theorem d3_22 : decode method_3_code 22 = .ok (.iconst 2, 1) := by decide +kernel
theorem d3_23 : decode method_3_code 23 = .ok (.if_icmp .ne 15, 3) := by decide +kernel
theorem d3_26 : decode method_3_code 26 = .ok (.iload_n 2, 1) := by decide +kernel
theorem d3_27 : decode method_3_code 27 = .ok (.bipush 13, 2) := by decide +kernel
theorem d3_29 : decode method_3_code 29 = .ok (.if_icmp .eq 20, 3) := by decide +kernel
theorem d3_32 : decode method_3_code 32 = .ok (.iload_n 2, 1) := by decide +kernel
theorem d3_33 : decode method_3_code 33 = .ok (.bipush 10, 2) := by decide +kernel
theorem d3_35 : decode method_3_code 35 = .ok (.if_icmp .eq 14, 3) := by decide +kernel
theorem d3_38 : decode method_3_code 38 = .ok (.iload_n 1, 1) := by decide +kernel
theorem d3_39 : decode method_3_code 39 = .ok (.iconst 3, 1) := by decide +kernel
theorem d3_40 : decode method_3_code 40 = .ok (.if_icmp .ne 13, 3) := by decide +kernel
theorem d3_43 : decode method_3_code 43 = .ok (.iload_n 2, 1) := by decide +kernel
theorem d3_44 : decode method_3_code 44 = .ok (.bipush 10, 2) := by decide +kernel
theorem d3_46 : decode method_3_code 46 = .ok (.if_icmp .ne 7, 3) := by decide +kernel
theorem d3_49 : decode method_3_code 49 = .ok (.iconst 1, 1) := by decide +kernel
theorem d3_50 : decode method_3_code 50 = .ok (.goto 4, 3) := by decide +kernel
theorem d3_53 : decode method_3_code 53 = .ok (.iconst 0, 1) := by decide +kernel
theorem d3_54 : decode method_3_code 54 = .ok (.ireturn, 1) := by decide +kernel
theorem pn_3 : plainName "com/example/dosisbog/dosisbog/HeadEndWholePinLaw" = true := by first | (simp [plainName, overriddenIn]; done) | decide +kernel
theorem ef_3 (m : MethodId) (p1 : Int32) : entryFrame m #[(.int p1)] 3 = mkF m 0 #[.val (.int p1), .unset, .unset] [] := by first | (simp [entryFrame, mkF, argsToLocals, Value.category]; done) | rfl
def Q3 (Z : State) (p1 : Int32) (h0 : Heap) (n0 : Nat) (v : Option Value) (h : Heap) (L : List Loc) : Prop := v = some (.int (own_emp (p1 &&& (3 : Int32)) ((p1 >>> ((2 : Int32) &&& 31)) &&& (255 : Int32)))) ∧ Fr n0 L ∧ (h = h0)
set_option maxRecDepth 65536 in
set_option maxHeartbeats 40000000 in
theorem rm3 (l : Launch) (Z : State) (a0 : Array Value) (hw : ∀ d ∈ tables_1, d.before a0 Z = true) (ws : List Jvm.Cond) (p1 : Int32) (h0 : Heap) (n0 : Nat) (Z0 : n0 ≤ h0.size)  :
    MetFree l (⟨"com/example/dosisbog/dosisbog/HeadEndWholePinLaw", "empty", "(I)Z"⟩ : MethodName) (head1 (Jvm.Cond.code (⟨"com/example/dosisbog/dosisbog/HeadEndWholePinLaw", "empty", "(I)Z"⟩ : MethodName) method_3_code 3 (some .boolean) :: ws) ({ frames := 0, cells := 0, slots := 0, locals := 0 } : Room)) (fun a U => a = #[(.int p1)] ∧ Z.Warmed39 U.vm ∧ U.heap = h0) (fun _ _ _ _ _ => True) (fun _ U o U' => ∃ v L, o = .returned v ∧ Q3 Z p1 h0 n0 v U'.heap L ∧ FrameEnd U o U' L ({ frames := 0, cells := 0, slots := 0, locals := 0 } : Room).cells ({ frames := 0, cells := 0, slots := 0, locals := 0 } : Room).slots) := by
  refine MetFree.of_bodySF (plainFor_of_name pn_3) hisR ?_
  intro p e s m args below meth c s₁ Bd hml0 hP hK
  obtain ⟨rfl, hZ, hh⟩ := hP
  have hx := Bd.exec
  have hby := Bd.bytes
  have hml : c.maxLocals = 3 := hml0
  have hown : s.vm.findClass "com/example/dosisbog/dosisbog/HeadEndWholePinLaw" = some m.cls := findClass_of_methodNamed Bd.named
  have hnm := (name_of_methodNamed Bd.named Bd.method).1
  have X0 : Stand p l e ({ frames := 0, cells := 0, slots := 0, locals := 0 } : Room) s m #[(.int p1)] below meth c s₁ [] 0 0 := Stand.of_body Bd
  have e0 : s₁.heap = h0 := by rw [← hh, Bd.state]; rfl
  have N0 := Fr.nil n0
  have hS0 : s.Since s.vm 0 := (State.WarmedH.refl s).since 0
  show Go FrameEnd p e below s ({ frames := 0, cells := 0, slots := 0, locals := 0 } : Room).cells ({ frames := 0, cells := 0, slots := 0, locals := 0 } : Room).slots (Q3 Z p1 h0 n0) (s₁.setTop (entryFrame m #[(.int p1)] 3))
  refine go (fun _ k => castTop (ef_3 m p1) k) ?_
  show Go _ p e below s _ _ _ (s₁.setTop (mkF m 0 #[.val (.int p1), .unset, .unset] []))
  refine go (fun _ => XS.iloadN X0.here hx rfl (hb hby d3_0) rfl) ?_
  show Go _ p e below s _ _ _ (s₁.setTop (mkF m 1 #[.val (.int p1), .unset, .unset] [(.int p1)]))
  refine go (fun _ => XS.iconst X0.here hx rfl (hb hby d3_1)) ?_
  show Go _ p e below s _ _ _ (s₁.setTop (mkF m 2 #[.val (.int p1), .unset, .unset] [(.int (3 : Int32)), (.int p1)]))
  refine go (fun _ => XS.iand X0.here hx rfl (hb hby d3_2) rfl) ?_
  show Go _ p e below s _ _ _ (s₁.setTop (mkF m 3 #[.val (.int p1), .unset, .unset] [(.int (p1 &&& (3 : Int32)))]))
  refine go (fun _ => XS.istoreN X0.here hx rfl (hb hby d3_3) rfl (l' := #[.val (.int p1), .val (.int (p1 &&& (3 : Int32))), .unset]) rfl) ?_
  show Go _ p e below s _ _ _ (s₁.setTop (mkF m 4 #[.val (.int p1), .val (.int (p1 &&& (3 : Int32))), .unset] []))
  refine go (fun _ => XS.iloadN X0.here hx rfl (hb hby d3_4) rfl) ?_
  show Go _ p e below s _ _ _ (s₁.setTop (mkF m 5 #[.val (.int p1), .val (.int (p1 &&& (3 : Int32))), .unset] [(.int p1)]))
  refine go (fun _ => XS.iconst X0.here hx rfl (hb hby d3_5)) ?_
  show Go _ p e below s _ _ _ (s₁.setTop (mkF m 6 #[.val (.int p1), .val (.int (p1 &&& (3 : Int32))), .unset] [(.int (2 : Int32)), (.int p1)]))
  refine go (fun _ => XS.ishr X0.here hx rfl (hb hby d3_6) rfl) ?_
  show Go _ p e below s _ _ _ (s₁.setTop (mkF m 7 #[.val (.int p1), .val (.int (p1 &&& (3 : Int32))), .unset] [(.int (p1 >>> ((2 : Int32) &&& 31)))]))
  refine go (fun _ => XS.sipush X0.here hx rfl (hb hby d3_7)) ?_
  show Go _ p e below s _ _ _ (s₁.setTop (mkF m 10 #[.val (.int p1), .val (.int (p1 &&& (3 : Int32))), .unset] [(.int (255 : Int32)), (.int (p1 >>> ((2 : Int32) &&& 31)))]))
  refine go (fun _ => XS.iand X0.here hx rfl (hb hby d3_10) rfl) ?_
  show Go _ p e below s _ _ _ (s₁.setTop (mkF m 11 #[.val (.int p1), .val (.int (p1 &&& (3 : Int32))), .unset] [(.int ((p1 >>> ((2 : Int32) &&& 31)) &&& (255 : Int32)))]))
  refine go (fun _ => XS.istoreN X0.here hx rfl (hb hby d3_11) rfl (l' := #[.val (.int p1), .val (.int (p1 &&& (3 : Int32))), .val (.int ((p1 >>> ((2 : Int32) &&& 31)) &&& (255 : Int32)))]) rfl) ?_
  show Go _ p e below s _ _ _ (s₁.setTop (mkF m 12 #[.val (.int p1), .val (.int (p1 &&& (3 : Int32))), .val (.int ((p1 >>> ((2 : Int32) &&& 31)) &&& (255 : Int32)))] []))
  refine go (fun _ => XS.iloadN X0.here hx rfl (hb hby d3_12) rfl) ?_
  show Go _ p e below s _ _ _ (s₁.setTop (mkF m 13 #[.val (.int p1), .val (.int (p1 &&& (3 : Int32))), .val (.int ((p1 >>> ((2 : Int32) &&& 31)) &&& (255 : Int32)))] [(.int (p1 &&& (3 : Int32)))]))
  by_cases hc13_101 : (p1 &&& (3 : Int32)) = (0 : Int32)
  · refine go (fun _ => XS.ifYes X0.here hx rfl (pc0 := 13) (pc' := 49) rfl (hb hby d3_13) rfl ((if0 _ _).trans (teq hc13_101).1) (by decide) (by decide)) ?_
    show Go _ p e below s _ _ _ (s₁.setTop (mkF m 49 #[.val (.int p1), .val (.int (p1 &&& (3 : Int32))), .val (.int ((p1 >>> ((2 : Int32) &&& 31)) &&& (255 : Int32)))] []))
    refine go (fun _ => XS.iconst X0.here hx rfl (hb hby d3_49)) ?_
    show Go _ p e below s _ _ _ (s₁.setTop (mkF m 50 #[.val (.int p1), .val (.int (p1 &&& (3 : Int32))), .val (.int ((p1 >>> ((2 : Int32) &&& 31)) &&& (255 : Int32)))] [(.int (1 : Int32))]))
    refine go (fun _ => XS.goto X0.here hx rfl (pc0 := 50) (pc' := 54) rfl (hb hby d3_50) (by decide) (by decide)) ?_
    show Go _ p e below s _ _ _ (s₁.setTop (mkF m 54 #[.val (.int p1), .val (.int (p1 &&& (3 : Int32))), .val (.int ((p1 >>> ((2 : Int32) &&& 31)) &&& (255 : Int32)))] [(.int (1 : Int32))]))
    refine goRet X0 hx Bd.notSynchronized Bd.returns rfl (Or.inl ⟨rfl, Or.inr (Or.inl rfl), _, rfl⟩) (hb hby d3_54) (by decide) (by decide) (by rw [e0]; refine ⟨(by unfold own_emp; simp only [if_pos hc13_101]), N0, rfl⟩)
  · refine go (fun _ => XS.ifNo X0.here hx rfl (hb hby d3_13) rfl ((if0 _ _).trans (feq hc13_101).1)) ?_
    show Go _ p e below s _ _ _ (s₁.setTop (mkF m 16 #[.val (.int p1), .val (.int (p1 &&& (3 : Int32))), .val (.int ((p1 >>> ((2 : Int32) &&& 31)) &&& (255 : Int32)))] []))
    refine go (fun _ => XS.iloadN X0.here hx rfl (hb hby d3_16) rfl) ?_
    show Go _ p e below s _ _ _ (s₁.setTop (mkF m 17 #[.val (.int p1), .val (.int (p1 &&& (3 : Int32))), .val (.int ((p1 >>> ((2 : Int32) &&& 31)) &&& (255 : Int32)))] [(.int (p1 &&& (3 : Int32)))]))
    refine go (fun _ => XS.iconst X0.here hx rfl (hb hby d3_17)) ?_
    show Go _ p e below s _ _ _ (s₁.setTop (mkF m 18 #[.val (.int p1), .val (.int (p1 &&& (3 : Int32))), .val (.int ((p1 >>> ((2 : Int32) &&& 31)) &&& (255 : Int32)))] [(.int (1 : Int32)), (.int (p1 &&& (3 : Int32)))]))
    by_cases hc18_102 : (p1 &&& (3 : Int32)) = (1 : Int32)
    · refine go (fun _ => XS.icmpYes X0.here hx rfl (pc0 := 18) (pc' := 49) rfl (hb hby d3_18) rfl (teq hc18_102).1 (by decide) (by decide)) ?_
      show Go _ p e below s _ _ _ (s₁.setTop (mkF m 49 #[.val (.int p1), .val (.int (p1 &&& (3 : Int32))), .val (.int ((p1 >>> ((2 : Int32) &&& 31)) &&& (255 : Int32)))] []))
      refine go (fun _ => XS.iconst X0.here hx rfl (hb hby d3_49)) ?_
      show Go _ p e below s _ _ _ (s₁.setTop (mkF m 50 #[.val (.int p1), .val (.int (p1 &&& (3 : Int32))), .val (.int ((p1 >>> ((2 : Int32) &&& 31)) &&& (255 : Int32)))] [(.int (1 : Int32))]))
      refine go (fun _ => XS.goto X0.here hx rfl (pc0 := 50) (pc' := 54) rfl (hb hby d3_50) (by decide) (by decide)) ?_
      show Go _ p e below s _ _ _ (s₁.setTop (mkF m 54 #[.val (.int p1), .val (.int (p1 &&& (3 : Int32))), .val (.int ((p1 >>> ((2 : Int32) &&& 31)) &&& (255 : Int32)))] [(.int (1 : Int32))]))
      refine goRet X0 hx Bd.notSynchronized Bd.returns rfl (Or.inl ⟨rfl, Or.inr (Or.inl rfl), _, rfl⟩) (hb hby d3_54) (by decide) (by decide) (by rw [e0]; refine ⟨(by unfold own_emp; simp only [if_neg hc13_101, if_pos hc18_102]), N0, rfl⟩)
    · refine go (fun _ => XS.icmpNo X0.here hx rfl (hb hby d3_18) rfl (feq hc18_102).1) ?_
      show Go _ p e below s _ _ _ (s₁.setTop (mkF m 21 #[.val (.int p1), .val (.int (p1 &&& (3 : Int32))), .val (.int ((p1 >>> ((2 : Int32) &&& 31)) &&& (255 : Int32)))] []))
      refine go (fun _ => XS.iloadN X0.here hx rfl (hb hby d3_21) rfl) ?_
      show Go _ p e below s _ _ _ (s₁.setTop (mkF m 22 #[.val (.int p1), .val (.int (p1 &&& (3 : Int32))), .val (.int ((p1 >>> ((2 : Int32) &&& 31)) &&& (255 : Int32)))] [(.int (p1 &&& (3 : Int32)))]))
      refine go (fun _ => XS.iconst X0.here hx rfl (hb hby d3_22)) ?_
      show Go _ p e below s _ _ _ (s₁.setTop (mkF m 23 #[.val (.int p1), .val (.int (p1 &&& (3 : Int32))), .val (.int ((p1 >>> ((2 : Int32) &&& 31)) &&& (255 : Int32)))] [(.int (2 : Int32)), (.int (p1 &&& (3 : Int32)))]))
      by_cases hc23_103 : (p1 &&& (3 : Int32)) = (2 : Int32)
      · refine go (fun _ => XS.icmpNo X0.here hx rfl (hb hby d3_23) rfl (teq hc23_103).2) ?_
        show Go _ p e below s _ _ _ (s₁.setTop (mkF m 26 #[.val (.int p1), .val (.int (p1 &&& (3 : Int32))), .val (.int ((p1 >>> ((2 : Int32) &&& 31)) &&& (255 : Int32)))] []))
        refine go (fun _ => XS.iloadN X0.here hx rfl (hb hby d3_26) rfl) ?_
        show Go _ p e below s _ _ _ (s₁.setTop (mkF m 27 #[.val (.int p1), .val (.int (p1 &&& (3 : Int32))), .val (.int ((p1 >>> ((2 : Int32) &&& 31)) &&& (255 : Int32)))] [(.int ((p1 >>> ((2 : Int32) &&& 31)) &&& (255 : Int32)))]))
        refine go (fun _ => XS.bipush X0.here hx rfl (hb hby d3_27)) ?_
        show Go _ p e below s _ _ _ (s₁.setTop (mkF m 29 #[.val (.int p1), .val (.int (p1 &&& (3 : Int32))), .val (.int ((p1 >>> ((2 : Int32) &&& 31)) &&& (255 : Int32)))] [(.int (13 : Int32)), (.int ((p1 >>> ((2 : Int32) &&& 31)) &&& (255 : Int32)))]))
        by_cases hc29_104 : ((p1 >>> ((2 : Int32) &&& 31)) &&& (255 : Int32)) = (13 : Int32)
        · refine go (fun _ => XS.icmpYes X0.here hx rfl (pc0 := 29) (pc' := 49) rfl (hb hby d3_29) rfl (teq hc29_104).1 (by decide) (by decide)) ?_
          show Go _ p e below s _ _ _ (s₁.setTop (mkF m 49 #[.val (.int p1), .val (.int (p1 &&& (3 : Int32))), .val (.int ((p1 >>> ((2 : Int32) &&& 31)) &&& (255 : Int32)))] []))
          refine go (fun _ => XS.iconst X0.here hx rfl (hb hby d3_49)) ?_
          show Go _ p e below s _ _ _ (s₁.setTop (mkF m 50 #[.val (.int p1), .val (.int (p1 &&& (3 : Int32))), .val (.int ((p1 >>> ((2 : Int32) &&& 31)) &&& (255 : Int32)))] [(.int (1 : Int32))]))
          refine go (fun _ => XS.goto X0.here hx rfl (pc0 := 50) (pc' := 54) rfl (hb hby d3_50) (by decide) (by decide)) ?_
          show Go _ p e below s _ _ _ (s₁.setTop (mkF m 54 #[.val (.int p1), .val (.int (p1 &&& (3 : Int32))), .val (.int ((p1 >>> ((2 : Int32) &&& 31)) &&& (255 : Int32)))] [(.int (1 : Int32))]))
          refine goRet X0 hx Bd.notSynchronized Bd.returns rfl (Or.inl ⟨rfl, Or.inr (Or.inl rfl), _, rfl⟩) (hb hby d3_54) (by decide) (by decide) (by rw [e0]; refine ⟨(by unfold own_emp; simp only [if_neg hc13_101, if_neg hc18_102, if_pos hc23_103, if_pos hc29_104]), N0, rfl⟩)
        · refine go (fun _ => XS.icmpNo X0.here hx rfl (hb hby d3_29) rfl (feq hc29_104).1) ?_
          show Go _ p e below s _ _ _ (s₁.setTop (mkF m 32 #[.val (.int p1), .val (.int (p1 &&& (3 : Int32))), .val (.int ((p1 >>> ((2 : Int32) &&& 31)) &&& (255 : Int32)))] []))
          refine go (fun _ => XS.iloadN X0.here hx rfl (hb hby d3_32) rfl) ?_
          show Go _ p e below s _ _ _ (s₁.setTop (mkF m 33 #[.val (.int p1), .val (.int (p1 &&& (3 : Int32))), .val (.int ((p1 >>> ((2 : Int32) &&& 31)) &&& (255 : Int32)))] [(.int ((p1 >>> ((2 : Int32) &&& 31)) &&& (255 : Int32)))]))
          refine go (fun _ => XS.bipush X0.here hx rfl (hb hby d3_33)) ?_
          show Go _ p e below s _ _ _ (s₁.setTop (mkF m 35 #[.val (.int p1), .val (.int (p1 &&& (3 : Int32))), .val (.int ((p1 >>> ((2 : Int32) &&& 31)) &&& (255 : Int32)))] [(.int (10 : Int32)), (.int ((p1 >>> ((2 : Int32) &&& 31)) &&& (255 : Int32)))]))
          by_cases hc35_105 : ((p1 >>> ((2 : Int32) &&& 31)) &&& (255 : Int32)) = (10 : Int32)
          · refine go (fun _ => XS.icmpYes X0.here hx rfl (pc0 := 35) (pc' := 49) rfl (hb hby d3_35) rfl (teq hc35_105).1 (by decide) (by decide)) ?_
            show Go _ p e below s _ _ _ (s₁.setTop (mkF m 49 #[.val (.int p1), .val (.int (p1 &&& (3 : Int32))), .val (.int ((p1 >>> ((2 : Int32) &&& 31)) &&& (255 : Int32)))] []))
            refine go (fun _ => XS.iconst X0.here hx rfl (hb hby d3_49)) ?_
            show Go _ p e below s _ _ _ (s₁.setTop (mkF m 50 #[.val (.int p1), .val (.int (p1 &&& (3 : Int32))), .val (.int ((p1 >>> ((2 : Int32) &&& 31)) &&& (255 : Int32)))] [(.int (1 : Int32))]))
            refine go (fun _ => XS.goto X0.here hx rfl (pc0 := 50) (pc' := 54) rfl (hb hby d3_50) (by decide) (by decide)) ?_
            show Go _ p e below s _ _ _ (s₁.setTop (mkF m 54 #[.val (.int p1), .val (.int (p1 &&& (3 : Int32))), .val (.int ((p1 >>> ((2 : Int32) &&& 31)) &&& (255 : Int32)))] [(.int (1 : Int32))]))
            refine goRet X0 hx Bd.notSynchronized Bd.returns rfl (Or.inl ⟨rfl, Or.inr (Or.inl rfl), _, rfl⟩) (hb hby d3_54) (by decide) (by decide) (by rw [e0]; refine ⟨(by unfold own_emp; simp only [if_neg hc13_101, if_neg hc18_102, if_pos hc23_103, if_neg hc29_104, if_pos hc35_105]), N0, rfl⟩)
          · refine go (fun _ => XS.icmpNo X0.here hx rfl (hb hby d3_35) rfl (feq hc35_105).1) ?_
            show Go _ p e below s _ _ _ (s₁.setTop (mkF m 38 #[.val (.int p1), .val (.int (p1 &&& (3 : Int32))), .val (.int ((p1 >>> ((2 : Int32) &&& 31)) &&& (255 : Int32)))] []))
            refine go (fun _ => XS.iloadN X0.here hx rfl (hb hby d3_38) rfl) ?_
            show Go _ p e below s _ _ _ (s₁.setTop (mkF m 39 #[.val (.int p1), .val (.int (p1 &&& (3 : Int32))), .val (.int ((p1 >>> ((2 : Int32) &&& 31)) &&& (255 : Int32)))] [(.int (p1 &&& (3 : Int32)))]))
            refine go (fun _ => XS.iconst X0.here hx rfl (hb hby d3_39)) ?_
            show Go _ p e below s _ _ _ (s₁.setTop (mkF m 40 #[.val (.int p1), .val (.int (p1 &&& (3 : Int32))), .val (.int ((p1 >>> ((2 : Int32) &&& 31)) &&& (255 : Int32)))] [(.int (3 : Int32)), (.int (p1 &&& (3 : Int32)))]))
            by_cases hc40_106 : (p1 &&& (3 : Int32)) = (3 : Int32)
            · refine go (fun _ => XS.icmpNo X0.here hx rfl (hb hby d3_40) rfl (teq hc40_106).2) ?_
              show Go _ p e below s _ _ _ (s₁.setTop (mkF m 43 #[.val (.int p1), .val (.int (p1 &&& (3 : Int32))), .val (.int ((p1 >>> ((2 : Int32) &&& 31)) &&& (255 : Int32)))] []))
              refine go (fun _ => XS.iloadN X0.here hx rfl (hb hby d3_43) rfl) ?_
              show Go _ p e below s _ _ _ (s₁.setTop (mkF m 44 #[.val (.int p1), .val (.int (p1 &&& (3 : Int32))), .val (.int ((p1 >>> ((2 : Int32) &&& 31)) &&& (255 : Int32)))] [(.int ((p1 >>> ((2 : Int32) &&& 31)) &&& (255 : Int32)))]))
              refine go (fun _ => XS.bipush X0.here hx rfl (hb hby d3_44)) ?_
              show Go _ p e below s _ _ _ (s₁.setTop (mkF m 46 #[.val (.int p1), .val (.int (p1 &&& (3 : Int32))), .val (.int ((p1 >>> ((2 : Int32) &&& 31)) &&& (255 : Int32)))] [(.int (10 : Int32)), (.int ((p1 >>> ((2 : Int32) &&& 31)) &&& (255 : Int32)))]))
              refine go (fun _ => XS.icmpYes X0.here hx rfl (pc0 := 46) (pc' := 53) rfl (hb hby d3_46) rfl (feq hc35_105).2 (by decide) (by decide)) ?_
              show Go _ p e below s _ _ _ (s₁.setTop (mkF m 53 #[.val (.int p1), .val (.int (p1 &&& (3 : Int32))), .val (.int ((p1 >>> ((2 : Int32) &&& 31)) &&& (255 : Int32)))] []))
              refine go (fun _ => XS.iconst X0.here hx rfl (hb hby d3_53)) ?_
              show Go _ p e below s _ _ _ (s₁.setTop (mkF m 54 #[.val (.int p1), .val (.int (p1 &&& (3 : Int32))), .val (.int ((p1 >>> ((2 : Int32) &&& 31)) &&& (255 : Int32)))] [(.int (0 : Int32))]))
              refine goRet X0 hx Bd.notSynchronized Bd.returns rfl (Or.inl ⟨rfl, Or.inr (Or.inl rfl), _, rfl⟩) (hb hby d3_54) (by decide) (by decide) (by rw [e0]; refine ⟨(by unfold own_emp; simp only [if_neg hc13_101, if_neg hc18_102, if_pos hc23_103, if_neg hc29_104, if_neg hc35_105, if_pos hc40_106]), N0, rfl⟩)
            · refine go (fun _ => XS.icmpYes X0.here hx rfl (pc0 := 40) (pc' := 53) rfl (hb hby d3_40) rfl (feq hc40_106).2 (by decide) (by decide)) ?_
              show Go _ p e below s _ _ _ (s₁.setTop (mkF m 53 #[.val (.int p1), .val (.int (p1 &&& (3 : Int32))), .val (.int ((p1 >>> ((2 : Int32) &&& 31)) &&& (255 : Int32)))] []))
              refine go (fun _ => XS.iconst X0.here hx rfl (hb hby d3_53)) ?_
              show Go _ p e below s _ _ _ (s₁.setTop (mkF m 54 #[.val (.int p1), .val (.int (p1 &&& (3 : Int32))), .val (.int ((p1 >>> ((2 : Int32) &&& 31)) &&& (255 : Int32)))] [(.int (0 : Int32))]))
              refine goRet X0 hx Bd.notSynchronized Bd.returns rfl (Or.inl ⟨rfl, Or.inr (Or.inl rfl), _, rfl⟩) (hb hby d3_54) (by decide) (by decide) (by rw [e0]; refine ⟨(by unfold own_emp; simp only [if_neg hc13_101, if_neg hc18_102, if_pos hc23_103, if_neg hc29_104, if_neg hc35_105, if_neg hc40_106]), N0, rfl⟩)
      · refine go (fun _ => XS.icmpYes X0.here hx rfl (pc0 := 23) (pc' := 38) rfl (hb hby d3_23) rfl (feq hc23_103).2 (by decide) (by decide)) ?_
        show Go _ p e below s _ _ _ (s₁.setTop (mkF m 38 #[.val (.int p1), .val (.int (p1 &&& (3 : Int32))), .val (.int ((p1 >>> ((2 : Int32) &&& 31)) &&& (255 : Int32)))] []))
        refine go (fun _ => XS.iloadN X0.here hx rfl (hb hby d3_38) rfl) ?_
        show Go _ p e below s _ _ _ (s₁.setTop (mkF m 39 #[.val (.int p1), .val (.int (p1 &&& (3 : Int32))), .val (.int ((p1 >>> ((2 : Int32) &&& 31)) &&& (255 : Int32)))] [(.int (p1 &&& (3 : Int32)))]))
        refine go (fun _ => XS.iconst X0.here hx rfl (hb hby d3_39)) ?_
        show Go _ p e below s _ _ _ (s₁.setTop (mkF m 40 #[.val (.int p1), .val (.int (p1 &&& (3 : Int32))), .val (.int ((p1 >>> ((2 : Int32) &&& 31)) &&& (255 : Int32)))] [(.int (3 : Int32)), (.int (p1 &&& (3 : Int32)))]))
        by_cases hc40_107 : (p1 &&& (3 : Int32)) = (3 : Int32)
        · refine go (fun _ => XS.icmpNo X0.here hx rfl (hb hby d3_40) rfl (teq hc40_107).2) ?_
          show Go _ p e below s _ _ _ (s₁.setTop (mkF m 43 #[.val (.int p1), .val (.int (p1 &&& (3 : Int32))), .val (.int ((p1 >>> ((2 : Int32) &&& 31)) &&& (255 : Int32)))] []))
          refine go (fun _ => XS.iloadN X0.here hx rfl (hb hby d3_43) rfl) ?_
          show Go _ p e below s _ _ _ (s₁.setTop (mkF m 44 #[.val (.int p1), .val (.int (p1 &&& (3 : Int32))), .val (.int ((p1 >>> ((2 : Int32) &&& 31)) &&& (255 : Int32)))] [(.int ((p1 >>> ((2 : Int32) &&& 31)) &&& (255 : Int32)))]))
          refine go (fun _ => XS.bipush X0.here hx rfl (hb hby d3_44)) ?_
          show Go _ p e below s _ _ _ (s₁.setTop (mkF m 46 #[.val (.int p1), .val (.int (p1 &&& (3 : Int32))), .val (.int ((p1 >>> ((2 : Int32) &&& 31)) &&& (255 : Int32)))] [(.int (10 : Int32)), (.int ((p1 >>> ((2 : Int32) &&& 31)) &&& (255 : Int32)))]))
          by_cases hc46_108 : ((p1 >>> ((2 : Int32) &&& 31)) &&& (255 : Int32)) = (10 : Int32)
          · refine go (fun _ => XS.icmpNo X0.here hx rfl (hb hby d3_46) rfl (teq hc46_108).2) ?_
            show Go _ p e below s _ _ _ (s₁.setTop (mkF m 49 #[.val (.int p1), .val (.int (p1 &&& (3 : Int32))), .val (.int ((p1 >>> ((2 : Int32) &&& 31)) &&& (255 : Int32)))] []))
            refine go (fun _ => XS.iconst X0.here hx rfl (hb hby d3_49)) ?_
            show Go _ p e below s _ _ _ (s₁.setTop (mkF m 50 #[.val (.int p1), .val (.int (p1 &&& (3 : Int32))), .val (.int ((p1 >>> ((2 : Int32) &&& 31)) &&& (255 : Int32)))] [(.int (1 : Int32))]))
            refine go (fun _ => XS.goto X0.here hx rfl (pc0 := 50) (pc' := 54) rfl (hb hby d3_50) (by decide) (by decide)) ?_
            show Go _ p e below s _ _ _ (s₁.setTop (mkF m 54 #[.val (.int p1), .val (.int (p1 &&& (3 : Int32))), .val (.int ((p1 >>> ((2 : Int32) &&& 31)) &&& (255 : Int32)))] [(.int (1 : Int32))]))
            refine goRet X0 hx Bd.notSynchronized Bd.returns rfl (Or.inl ⟨rfl, Or.inr (Or.inl rfl), _, rfl⟩) (hb hby d3_54) (by decide) (by decide) (by rw [e0]; refine ⟨(by unfold own_emp; simp only [if_neg hc13_101, if_neg hc18_102, if_neg hc23_103, if_pos hc40_107, if_pos hc46_108]), N0, rfl⟩)
          · refine go (fun _ => XS.icmpYes X0.here hx rfl (pc0 := 46) (pc' := 53) rfl (hb hby d3_46) rfl (feq hc46_108).2 (by decide) (by decide)) ?_
            show Go _ p e below s _ _ _ (s₁.setTop (mkF m 53 #[.val (.int p1), .val (.int (p1 &&& (3 : Int32))), .val (.int ((p1 >>> ((2 : Int32) &&& 31)) &&& (255 : Int32)))] []))
            refine go (fun _ => XS.iconst X0.here hx rfl (hb hby d3_53)) ?_
            show Go _ p e below s _ _ _ (s₁.setTop (mkF m 54 #[.val (.int p1), .val (.int (p1 &&& (3 : Int32))), .val (.int ((p1 >>> ((2 : Int32) &&& 31)) &&& (255 : Int32)))] [(.int (0 : Int32))]))
            refine goRet X0 hx Bd.notSynchronized Bd.returns rfl (Or.inl ⟨rfl, Or.inr (Or.inl rfl), _, rfl⟩) (hb hby d3_54) (by decide) (by decide) (by rw [e0]; refine ⟨(by unfold own_emp; simp only [if_neg hc13_101, if_neg hc18_102, if_neg hc23_103, if_pos hc40_107, if_neg hc46_108]), N0, rfl⟩)
        · refine go (fun _ => XS.icmpYes X0.here hx rfl (pc0 := 40) (pc' := 53) rfl (hb hby d3_40) rfl (feq hc40_107).2 (by decide) (by decide)) ?_
          show Go _ p e below s _ _ _ (s₁.setTop (mkF m 53 #[.val (.int p1), .val (.int (p1 &&& (3 : Int32))), .val (.int ((p1 >>> ((2 : Int32) &&& 31)) &&& (255 : Int32)))] []))
          refine go (fun _ => XS.iconst X0.here hx rfl (hb hby d3_53)) ?_
          show Go _ p e below s _ _ _ (s₁.setTop (mkF m 54 #[.val (.int p1), .val (.int (p1 &&& (3 : Int32))), .val (.int ((p1 >>> ((2 : Int32) &&& 31)) &&& (255 : Int32)))] [(.int (0 : Int32))]))
          refine goRet X0 hx Bd.notSynchronized Bd.returns rfl (Or.inl ⟨rfl, Or.inr (Or.inl rfl), _, rfl⟩) (hb hby d3_54) (by decide) (by decide) (by rw [e0]; refine ⟨(by unfold own_emp; simp only [if_neg hc13_101, if_neg hc18_102, if_neg hc23_103, if_neg hc40_107]), N0, rfl⟩)
theorem own_nb8 (y : Int32) : nar .byte (y.toInt8.toInt32) = y.toInt8.toInt32 := by
  show (y.toInt8.toInt32).toInt8.toInt32 = _
  rw [Int8.toInt8_toInt32]
theorem own_cc (y : Int32) (v : Int32) (n : Nat) (hv : v.toInt = (n : Int)) (hn : n ≤ 100) : ((y &&& 255) = v) ↔ y.toInt8.toInt32 = v := by
  have h1 := Jvm.Kit.i32_mask y 255 (k := 8) (by decide) (by decide)
  have h2 : (y.toInt8.toInt32).toInt = y.toInt.bmod (2 ^ 8) := by rw [Int8.toInt_toInt32, Int32.toInt_toInt8]
  have h3 := Int.bmod_emod (x := y.toInt) (m := 2 ^ 8)
  have h4 := Int8.toInt_lt y.toInt8
  have h5 := Int8.le_toInt y.toInt8
  rw [Int8.toInt_toInt32] at h2
  rw [← Int32.toInt_inj, ← Int32.toInt_inj, h1, hv, Int8.toInt_toInt32]
  rw [← h2] at h3
  constructor
  · intro q; omega
  · intro q; omega
theorem own_e01 (k c : Int32) : own_emp k c = 0 ∨ own_emp k c = 1 := by
  unfold own_emp
  repeat' split
  all_goals first | exact Or.inl rfl | exact Or.inr rfl
theorem d4_0 : decode method_4_code 0 = .ok (.iload_n 1, 1) := by decide +kernel
theorem d4_1 : decode method_4_code 1 = .ok (.iconst 3, 1) := by decide +kernel
theorem d4_2 : decode method_4_code 2 = .ok (.iand, 1) := by decide +kernel
theorem d4_3 : decode method_4_code 3 = .ok (.istore 5, 2) := by decide +kernel
theorem d4_5 : decode method_4_code 5 = .ok (.iload_n 1, 1) := by decide +kernel
theorem d4_6 : decode method_4_code 6 = .ok (.iconst 2, 1) := by decide +kernel
theorem d4_7 : decode method_4_code 7 = .ok (.ishr, 1) := by decide +kernel
theorem d4_8 : decode method_4_code 8 = .ok (.i2b, 1) := by decide +kernel
theorem d4_9 : decode method_4_code 9 = .ok (.istore 6, 2) := by decide +kernel
theorem d4_11 : decode method_4_code 11 = .ok (.bipush 10, 2) := by decide +kernel
theorem d4_13 : decode method_4_code 13 = .ok (.istore 7, 2) := by decide +kernel
theorem d4_15 : decode method_4_code 15 = .ok (.bipush 13, 2) := by decide +kernel
theorem d4_17 : decode method_4_code 17 = .ok (.istore 8, 2) := by decide +kernel
theorem d4_19 : decode method_4_code 19 = .ok (.iload 7, 2) := by decide +kernel
theorem d4_21 : decode method_4_code 21 = .ok (.istore 9, 2) := by decide +kernel
theorem d4_23 : decode method_4_code 23 = .ok (.iload 7, 2) := by decide +kernel
theorem d4_25 : decode method_4_code 25 = .ok (.istore 10, 2) := by decide +kernel
theorem d4_27 : decode method_4_code 27 = .ok (.iload 7, 2) := by decide +kernel
theorem d4_29 : decode method_4_code 29 = .ok (.istore 11, 2) := by decide +kernel
theorem d4_31 : decode method_4_code 31 = .ok (.iload 5, 2) := by decide +kernel
theorem d4_33 : decode method_4_code 33 = .ok (.ifCond .ne 9, 3) := by decide +kernel
theorem d4_36 : decode method_4_code 36 = .ok (.iconst 1, 1) := by decide +kernel
theorem d4_37 : decode method_4_code 37 = .ok (.istore 12, 2) := by decide +kernel
theorem d4_39 : decode method_4_code 39 = .ok (.goto 46, 3) := by decide +kernel
theorem d4_42 : decode method_4_code 42 = .ok (.iload 5, 2) := by decide +kernel
theorem d4_44 : decode method_4_code 44 = .ok (.iconst 1, 1) := by decide +kernel
theorem d4_45 : decode method_4_code 45 = .ok (.if_icmp .ne 13, 3) := by decide +kernel
theorem d4_48 : decode method_4_code 48 = .ok (.iload 8, 2) := by decide +kernel
theorem d4_50 : decode method_4_code 50 = .ok (.istore 9, 2) := by decide +kernel
theorem d4_52 : decode method_4_code 52 = .ok (.iconst 2, 1) := by decide +kernel
theorem d4_53 : decode method_4_code 53 = .ok (.istore 12, 2) := by decide +kernel
theorem d4_55 : decode method_4_code 55 = .ok (.goto 30, 3) := by decide +kernel
theorem d4_58 : decode method_4_code 58 = .ok (.iload 5, 2) := by decide +kernel
theorem d4_60 : decode method_4_code 60 = .ok (.iconst 2, 1) := by decide +kernel
theorem d4_61 : decode method_4_code 61 = .ok (.if_icmp .ne 13, 3) := by decide +kernel
theorem d4_64 : decode method_4_code 64 = .ok (.iload 6, 2) := by decide +kernel
theorem d4_66 : decode method_4_code 66 = .ok (.istore 9, 2) := by decide +kernel
theorem d4_68 : decode method_4_code 68 = .ok (.iconst 2, 1) := by decide +kernel
theorem d4_69 : decode method_4_code 69 = .ok (.istore 12, 2) := by decide +kernel
theorem d4_71 : decode method_4_code 71 = .ok (.goto 14, 3) := by decide +kernel
theorem d4_74 : decode method_4_code 74 = .ok (.iload 8, 2) := by decide +kernel
theorem d4_76 : decode method_4_code 76 = .ok (.istore 9, 2) := by decide +kernel
theorem d4_78 : decode method_4_code 78 = .ok (.iload 6, 2) := by decide +kernel
theorem d4_80 : decode method_4_code 80 = .ok (.istore 10, 2) := by decide +kernel
theorem d4_82 : decode method_4_code 82 = .ok (.iconst 3, 1) := by decide +kernel
theorem d4_83 : decode method_4_code 83 = .ok (.istore 12, 2) := by decide +kernel
theorem d4_85 : decode method_4_code 85 = .ok (.iconst 5, 1) := by decide +kernel
theorem d4_86 : decode method_4_code 86 = .ok (.newarray .byte, 2) := by decide +kernel
theorem d4_88 : decode method_4_code 88 = .ok (.dup, 1) := by decide +kernel
theorem d4_89 : decode method_4_code 89 = .ok (.iconst 0, 1) := by decide +kernel
theorem d4_90 : decode method_4_code 90 = .ok (.iload 7, 2) := by decide +kernel
theorem d4_92 : decode method_4_code 92 = .ok (.bastore, 1) := by decide +kernel
theorem d4_93 : decode method_4_code 93 = .ok (.dup, 1) := by decide +kernel
theorem d4_94 : decode method_4_code 94 = .ok (.iconst 1, 1) := by decide +kernel
theorem d4_95 : decode method_4_code 95 = .ok (.iload 9, 2) := by decide +kernel
theorem d4_97 : decode method_4_code 97 = .ok (.bastore, 1) := by decide +kernel
theorem d4_98 : decode method_4_code 98 = .ok (.dup, 1) := by decide +kernel
theorem d4_99 : decode method_4_code 99 = .ok (.iconst 2, 1) := by decide +kernel
theorem d4_100 : decode method_4_code 100 = .ok (.iload 10, 2) := by decide +kernel
theorem d4_102 : decode method_4_code 102 = .ok (.bastore, 1) := by decide +kernel
theorem d4_103 : decode method_4_code 103 = .ok (.dup, 1) := by decide +kernel
theorem d4_104 : decode method_4_code 104 = .ok (.iconst 3, 1) := by decide +kernel
theorem d4_105 : decode method_4_code 105 = .ok (.iload 11, 2) := by decide +kernel
theorem d4_107 : decode method_4_code 107 = .ok (.bastore, 1) := by decide +kernel
theorem d4_108 : decode method_4_code 108 = .ok (.dup, 1) := by decide +kernel
theorem d4_109 : decode method_4_code 109 = .ok (.iconst 4, 1) := by decide +kernel
theorem d4_110 : decode method_4_code 110 = .ok (.iload 7, 2) := by decide +kernel
theorem d4_112 : decode method_4_code 112 = .ok (.bastore, 1) := by decide +kernel
theorem d4_113 : decode method_4_code 113 = .ok (.astore 13, 2) := by decide +kernel
theorem d4_115 : decode method_4_code 115 = .ok (.iload_n 2, 1) := by decide +kernel
theorem d4_116 : decode method_4_code 116 = .ok (.iload 12, 2) := by decide +kernel
theorem d4_118 : decode method_4_code 118 = .ok (.invokestatic 26, 3) := by decide +kernel
theorem d4_121 : decode method_4_code 121 = .ok (.istore 14, 2) := by decide +kernel
theorem d4_123 : decode method_4_code 123 = .ok (.aload_n 0, 1) := by decide +kernel
theorem d4_124 : decode method_4_code 124 = .ok (.aload 13, 2) := by decide +kernel
theorem d4_126 : decode method_4_code 126 = .ok (.iconst 1, 1) := by decide +kernel
theorem d4_127 : decode method_4_code 127 = .ok (.iconst 1, 1) := by decide +kernel
theorem d4_128 : decode method_4_code 128 = .ok (.iload 14, 2) := by decide +kernel
theorem d4_130 : decode method_4_code 130 = .ok (.iadd, 1) := by decide +kernel
theorem d4_131 : decode method_4_code 131 = .ok (.invokevirtual 12, 3) := by decide +kernel
theorem d4_134 : decode method_4_code 134 = .ok (.istore 15, 2) := by decide +kernel
theorem d4_136 : decode method_4_code 136 = .ok (.aload_n 0, 1) := by decide +kernel
theorem d4_137 : decode method_4_code 137 = .ok (.aload 13, 2) := by decide +kernel
theorem d4_139 : decode method_4_code 139 = .ok (.iconst 1, 1) := by decide +kernel
theorem d4_140 : decode method_4_code 140 = .ok (.iload 14, 2) := by decide +kernel
theorem d4_142 : decode method_4_code 142 = .ok (.iadd, 1) := by decide +kernel
theorem d4_143 : decode method_4_code 143 = .ok (.iconst 1, 1) := by decide +kernel
theorem d4_144 : decode method_4_code 144 = .ok (.iload 12, 2) := by decide +kernel
theorem d4_146 : decode method_4_code 146 = .ok (.iadd, 1) := by decide +kernel
theorem d4_147 : decode method_4_code 147 = .ok (.invokevirtual 12, 3) := by decide +kernel
theorem d4_150 : decode method_4_code 150 = .ok (.istore 16, 2) := by decide +kernel
theorem d4_152 : decode method_4_code 152 = .ok (.iload_n 3, 1) := by decide +kernel
theorem d4_153 : decode method_4_code 153 = .ok (.ifCond .eq 8, 3) := by decide +kernel
theorem d4_156 : decode method_4_code 156 = .ok (.iload 15, 2) := by decide +kernel
theorem d4_158 : decode method_4_code 158 = .ok (.ifCond .eq 24, 3) := by decide +kernel
theorem d4_161 : decode method_4_code 161 = .ok (.iload 15, 2) := by decide +kernel
theorem d4_163 : decode method_4_code 163 = .ok (.ifCond .eq 8, 3) := by decide +kernel
theorem d4_166 : decode method_4_code 166 = .ok (.iload 4, 2) := by decide +kernel
theorem d4_168 : decode method_4_code 168 = .ok (.ifCond .eq 14, 3) := by decide +kernel
theorem d4_171 : decode method_4_code 171 = .ok (.iload 16, 2) := by decide +kernel
theorem d4_173 : decode method_4_code 173 = .ok (.iload 4, 2) := by decide +kernel
theorem d4_175 : decode method_4_code 175 = .ok (.if_icmp .ne 7, 3) := by decide +kernel
theorem d4_178 : decode method_4_code 178 = .ok (.iconst 1, 1) := by decide +kernel
theorem d4_179 : decode method_4_code 179 = .ok (.goto 4, 3) := by decide +kernel
theorem d4_183 : decode method_4_code 183 = .ok (.ireturn, 1) := by decide +kernel
theorem pn_4 : plainName "com/example/dosisbog/dosisbog/HeadEndWholePinLaw" = true := by first | (simp [plainName, overriddenIn]; done) | decide +kernel
theorem pd_4_0 : parseMethodDescriptor "(II)I" = some ⟨[.int, .int], some .int⟩ := by decide +kernel
theorem pd_4_1 : parseMethodDescriptor "([BII)Z" = some ⟨[(.array .byte), .int, .int], some .boolean⟩ := by decide +kernel
theorem ef_4 (m : MethodId) (a1 : Addr) (p2 : Int32) (p3 : Int32) (p4 : Int32) (p5 : Int32) : entryFrame m #[(.ref a1), (.int p2), (.int p3), (.int p4), (.int p5)] 17 = mkF m 0 #[.val (.ref a1), .val (.int p2), .val (.int p3), .val (.int p4), .val (.int p5), .unset, .unset, .unset, .unset, .unset, .unset, .unset, .unset, .unset, .unset, .unset, .unset] [] := by first | (simp [entryFrame, mkF, argsToLocals, Value.category]; done) | rfl
def Q4 (Z : State) (a1 : Addr) (p2 : Int32) (p3 : Int32) (p4 : Int32) (p5 : Int32) (x1 : Int32) (x2 : Int32) (x3 : Int32) (x4 : Int32) (x5 : Int32) (rq : Int32) (fd : Int32) (N : Nat) (spN : Nat) (h0 : Heap) (n0 : Nat) (v : Option Value) (h : Heap) (L : List Loc) : Prop := ∃ (w1 : Int32), ∃ (w2 : Int32), ∃ (w3 : Int32), ∃ (w4 : Int32), ∃ (w5 : Int32), v = some (.int (1 : Int32)) ∧ Fr n0 L ∧ (Keep h0 h [a1]) ∧ (Fld Z h a1 "com/example/dosisbog/dosisbog/HttpRequest$HeadEnd" "looked" "I" (.int w1)) ∧ (Fld Z h a1 "com/example/dosisbog/dosisbog/HttpRequest$HeadEnd" "inLine" "I" (.int w2)) ∧ (Fld Z h a1 "com/example/dosisbog/dosisbog/HttpRequest$HeadEnd" "carriageReturn" "Z" (.int w3)) ∧ (Fld Z h a1 "com/example/dosisbog/dosisbog/HttpRequest$HeadEnd" "requestLine" "Z" (.int w4)) ∧ (Fld Z h a1 "com/example/dosisbog/dosisbog/HttpRequest$HeadEnd" "found" "Z" (.int w5)) ∧ (own_inv (w1, w2, w3, w4, w5) (own_rq rq (own_emp (p2 &&& (3 : Int32)) ((p2 >>> ((2 : Int32) &&& 31)) &&& (255 : Int32)))) (own_fd fd (own_emp (p2 &&& (3 : Int32)) ((p2 >>> ((2 : Int32) &&& 31)) &&& (255 : Int32))) rq) (N + 3))
set_option maxRecDepth 65536 in
set_option maxHeartbeats 40000000 in
theorem rm4 (l : Launch) (Z : State) (a0 : Array Value) (hw : ∀ d ∈ tables_1, d.before a0 Z = true) (ws : List Jvm.Cond) (a1 : Addr) (p2 : Int32) (p3 : Int32) (p4 : Int32) (p5 : Int32) (x1 : Int32) (x2 : Int32) (x3 : Int32) (x4 : Int32) (x5 : Int32) (rq : Int32) (fd : Int32) (N : Nat) (spN : Nat) (h0 : Heap) (n0 : Nat) (Z0 : n0 ≤ h0.size) (P0 : Exa Z h0 a1 "com/example/dosisbog/dosisbog/HttpRequest$HeadEnd") (P1 : n0 ≤ a1) (P2 : Fld Z h0 a1 "com/example/dosisbog/dosisbog/HttpRequest$HeadEnd" "looked" "I" (.int x1)) (P3 : Fld Z h0 a1 "com/example/dosisbog/dosisbog/HttpRequest$HeadEnd" "inLine" "I" (.int x2)) (P4 : Fld Z h0 a1 "com/example/dosisbog/dosisbog/HttpRequest$HeadEnd" "carriageReturn" "Z" (.int x3)) (P5 : Fld Z h0 a1 "com/example/dosisbog/dosisbog/HttpRequest$HeadEnd" "requestLine" "Z" (.int x4)) (P6 : Fld Z h0 a1 "com/example/dosisbog/dosisbog/HttpRequest$HeadEnd" "found" "Z" (.int x5)) (hin : own_inv (x1, x2, x3, x4, x5) rq fd N) (hN : N ≤ 1000) (hsp : p3.toInt = (spN : Int)) (h4 : p4 = fd) (h5 : p5 = own_fd fd (own_emp (p2 &&& (3 : Int32)) ((p2 >>> ((2 : Int32) &&& 31)) &&& (255 : Int32))) rq) :
    MetFree l (⟨"com/example/dosisbog/dosisbog/HeadEndWholePinLaw", "feed", "(Lcom/example/dosisbog/dosisbog/HttpRequest$HeadEnd;IIZZ)Z"⟩ : MethodName) (head1 (Jvm.Cond.code (⟨"com/example/dosisbog/dosisbog/HeadEndWholePinLaw", "feed", "(Lcom/example/dosisbog/dosisbog/HttpRequest$HeadEnd;IIZZ)Z"⟩ : MethodName) method_4_code 17 (some .boolean) :: ws) ({ frames := 1, cells := 1, slots := 5, locals := 17 } : Room)) (fun a U => a = #[(.ref a1), (.int p2), (.int p3), (.int p4), (.int p5)] ∧ Z.Warmed39 U.vm ∧ U.heap = h0) (fun _ _ _ _ _ => True) (fun _ U o U' => ∃ v L, o = .returned v ∧ Q4 Z a1 p2 p3 p4 p5 x1 x2 x3 x4 x5 rq fd N spN h0 n0 v U'.heap L ∧ FrameEnd U o U' L ({ frames := 1, cells := 1, slots := 5, locals := 17 } : Room).cells ({ frames := 1, cells := 1, slots := 5, locals := 17 } : Room).slots) := by
  refine MetFree.of_bodySF (plainFor_of_name pn_4) hisR ?_
  intro p e s m args below meth c s₁ Bd hml0 hP hK
  obtain ⟨rfl, hZ, hh⟩ := hP
  have hx := Bd.exec
  have hby := Bd.bytes
  have hml : c.maxLocals = 17 := hml0
  have hown : s.vm.findClass "com/example/dosisbog/dosisbog/HeadEndWholePinLaw" = some m.cls := findClass_of_methodNamed Bd.named
  have hnm := (name_of_methodNamed Bd.named Bd.method).1
  have X0 : Stand p l e ({ frames := 1, cells := 1, slots := 5, locals := 17 } : Room) s m #[(.ref a1), (.int p2), (.int p3), (.int p4), (.int p5)] below meth c s₁ [] 0 0 := Stand.of_body Bd
  have e0 : s₁.heap = h0 := by rw [← hh, Bd.state]; rfl
  have N0 := Fr.nil n0
  have hS0 : s.Since s.vm 0 := (State.WarmedH.refl s).since 0
  show Go FrameEnd p e below s ({ frames := 1, cells := 1, slots := 5, locals := 17 } : Room).cells ({ frames := 1, cells := 1, slots := 5, locals := 17 } : Room).slots (Q4 Z a1 p2 p3 p4 p5 x1 x2 x3 x4 x5 rq fd N spN h0 n0) (s₁.setTop (entryFrame m #[(.ref a1), (.int p2), (.int p3), (.int p4), (.int p5)] 17))
  refine go (fun _ k => castTop (ef_4 m a1 p2 p3 p4 p5) k) ?_
  show Go _ p e below s _ _ _ (s₁.setTop (mkF m 0 #[.val (.ref a1), .val (.int p2), .val (.int p3), .val (.int p4), .val (.int p5), .unset, .unset, .unset, .unset, .unset, .unset, .unset, .unset, .unset, .unset, .unset, .unset] []))
  refine go (fun _ => XS.iloadN X0.here hx rfl (hb hby d4_0) rfl) ?_
  show Go _ p e below s _ _ _ (s₁.setTop (mkF m 1 #[.val (.ref a1), .val (.int p2), .val (.int p3), .val (.int p4), .val (.int p5), .unset, .unset, .unset, .unset, .unset, .unset, .unset, .unset, .unset, .unset, .unset, .unset] [(.int p2)]))
  refine go (fun _ => XS.iconst X0.here hx rfl (hb hby d4_1)) ?_
  show Go _ p e below s _ _ _ (s₁.setTop (mkF m 2 #[.val (.ref a1), .val (.int p2), .val (.int p3), .val (.int p4), .val (.int p5), .unset, .unset, .unset, .unset, .unset, .unset, .unset, .unset, .unset, .unset, .unset, .unset] [(.int (3 : Int32)), (.int p2)]))
  refine go (fun _ => XS.iand X0.here hx rfl (hb hby d4_2) rfl) ?_
  show Go _ p e below s _ _ _ (s₁.setTop (mkF m 3 #[.val (.ref a1), .val (.int p2), .val (.int p3), .val (.int p4), .val (.int p5), .unset, .unset, .unset, .unset, .unset, .unset, .unset, .unset, .unset, .unset, .unset, .unset] [(.int (p2 &&& (3 : Int32)))]))
  refine go (fun _ => XS.istore X0.here hx rfl (hb hby d4_3) rfl (l' := #[.val (.ref a1), .val (.int p2), .val (.int p3), .val (.int p4), .val (.int p5), .val (.int (p2 &&& (3 : Int32))), .unset, .unset, .unset, .unset, .unset, .unset, .unset, .unset, .unset, .unset, .unset]) rfl) ?_
  show Go _ p e below s _ _ _ (s₁.setTop (mkF m 5 #[.val (.ref a1), .val (.int p2), .val (.int p3), .val (.int p4), .val (.int p5), .val (.int (p2 &&& (3 : Int32))), .unset, .unset, .unset, .unset, .unset, .unset, .unset, .unset, .unset, .unset, .unset] []))
  refine go (fun _ => XS.iloadN X0.here hx rfl (hb hby d4_5) rfl) ?_
  show Go _ p e below s _ _ _ (s₁.setTop (mkF m 6 #[.val (.ref a1), .val (.int p2), .val (.int p3), .val (.int p4), .val (.int p5), .val (.int (p2 &&& (3 : Int32))), .unset, .unset, .unset, .unset, .unset, .unset, .unset, .unset, .unset, .unset, .unset] [(.int p2)]))
  refine go (fun _ => XS.iconst X0.here hx rfl (hb hby d4_6)) ?_
  show Go _ p e below s _ _ _ (s₁.setTop (mkF m 7 #[.val (.ref a1), .val (.int p2), .val (.int p3), .val (.int p4), .val (.int p5), .val (.int (p2 &&& (3 : Int32))), .unset, .unset, .unset, .unset, .unset, .unset, .unset, .unset, .unset, .unset, .unset] [(.int (2 : Int32)), (.int p2)]))
  refine go (fun _ => XS.ishr X0.here hx rfl (hb hby d4_7) rfl) ?_
  show Go _ p e below s _ _ _ (s₁.setTop (mkF m 8 #[.val (.ref a1), .val (.int p2), .val (.int p3), .val (.int p4), .val (.int p5), .val (.int (p2 &&& (3 : Int32))), .unset, .unset, .unset, .unset, .unset, .unset, .unset, .unset, .unset, .unset, .unset] [(.int (p2 >>> ((2 : Int32) &&& 31)))]))
  refine go (fun _ => XS.i2b X0.here hx rfl (hb hby d4_8) rfl) ?_
  show Go _ p e below s _ _ _ (s₁.setTop (mkF m 9 #[.val (.ref a1), .val (.int p2), .val (.int p3), .val (.int p4), .val (.int p5), .val (.int (p2 &&& (3 : Int32))), .unset, .unset, .unset, .unset, .unset, .unset, .unset, .unset, .unset, .unset, .unset] [(.int ((p2 >>> ((2 : Int32) &&& 31)).toInt8.toInt32))]))
  refine go (fun _ => XS.istore X0.here hx rfl (hb hby d4_9) rfl (l' := #[.val (.ref a1), .val (.int p2), .val (.int p3), .val (.int p4), .val (.int p5), .val (.int (p2 &&& (3 : Int32))), .val (.int ((p2 >>> ((2 : Int32) &&& 31)).toInt8.toInt32)), .unset, .unset, .unset, .unset, .unset, .unset, .unset, .unset, .unset, .unset]) rfl) ?_
  show Go _ p e below s _ _ _ (s₁.setTop (mkF m 11 #[.val (.ref a1), .val (.int p2), .val (.int p3), .val (.int p4), .val (.int p5), .val (.int (p2 &&& (3 : Int32))), .val (.int ((p2 >>> ((2 : Int32) &&& 31)).toInt8.toInt32)), .unset, .unset, .unset, .unset, .unset, .unset, .unset, .unset, .unset, .unset] []))
  refine go (fun _ => XS.bipush X0.here hx rfl (hb hby d4_11)) ?_
  show Go _ p e below s _ _ _ (s₁.setTop (mkF m 13 #[.val (.ref a1), .val (.int p2), .val (.int p3), .val (.int p4), .val (.int p5), .val (.int (p2 &&& (3 : Int32))), .val (.int ((p2 >>> ((2 : Int32) &&& 31)).toInt8.toInt32)), .unset, .unset, .unset, .unset, .unset, .unset, .unset, .unset, .unset, .unset] [(.int (10 : Int32))]))
  refine go (fun _ => XS.istore X0.here hx rfl (hb hby d4_13) rfl (l' := #[.val (.ref a1), .val (.int p2), .val (.int p3), .val (.int p4), .val (.int p5), .val (.int (p2 &&& (3 : Int32))), .val (.int ((p2 >>> ((2 : Int32) &&& 31)).toInt8.toInt32)), .val (.int (10 : Int32)), .unset, .unset, .unset, .unset, .unset, .unset, .unset, .unset, .unset]) rfl) ?_
  show Go _ p e below s _ _ _ (s₁.setTop (mkF m 15 #[.val (.ref a1), .val (.int p2), .val (.int p3), .val (.int p4), .val (.int p5), .val (.int (p2 &&& (3 : Int32))), .val (.int ((p2 >>> ((2 : Int32) &&& 31)).toInt8.toInt32)), .val (.int (10 : Int32)), .unset, .unset, .unset, .unset, .unset, .unset, .unset, .unset, .unset] []))
  refine go (fun _ => XS.bipush X0.here hx rfl (hb hby d4_15)) ?_
  show Go _ p e below s _ _ _ (s₁.setTop (mkF m 17 #[.val (.ref a1), .val (.int p2), .val (.int p3), .val (.int p4), .val (.int p5), .val (.int (p2 &&& (3 : Int32))), .val (.int ((p2 >>> ((2 : Int32) &&& 31)).toInt8.toInt32)), .val (.int (10 : Int32)), .unset, .unset, .unset, .unset, .unset, .unset, .unset, .unset, .unset] [(.int (13 : Int32))]))
  refine go (fun _ => XS.istore X0.here hx rfl (hb hby d4_17) rfl (l' := #[.val (.ref a1), .val (.int p2), .val (.int p3), .val (.int p4), .val (.int p5), .val (.int (p2 &&& (3 : Int32))), .val (.int ((p2 >>> ((2 : Int32) &&& 31)).toInt8.toInt32)), .val (.int (10 : Int32)), .val (.int (13 : Int32)), .unset, .unset, .unset, .unset, .unset, .unset, .unset, .unset]) rfl) ?_
  show Go _ p e below s _ _ _ (s₁.setTop (mkF m 19 #[.val (.ref a1), .val (.int p2), .val (.int p3), .val (.int p4), .val (.int p5), .val (.int (p2 &&& (3 : Int32))), .val (.int ((p2 >>> ((2 : Int32) &&& 31)).toInt8.toInt32)), .val (.int (10 : Int32)), .val (.int (13 : Int32)), .unset, .unset, .unset, .unset, .unset, .unset, .unset, .unset] []))
  refine go (fun _ => XS.iload X0.here hx rfl (hb hby d4_19) rfl) ?_
  show Go _ p e below s _ _ _ (s₁.setTop (mkF m 21 #[.val (.ref a1), .val (.int p2), .val (.int p3), .val (.int p4), .val (.int p5), .val (.int (p2 &&& (3 : Int32))), .val (.int ((p2 >>> ((2 : Int32) &&& 31)).toInt8.toInt32)), .val (.int (10 : Int32)), .val (.int (13 : Int32)), .unset, .unset, .unset, .unset, .unset, .unset, .unset, .unset] [(.int (10 : Int32))]))
  refine go (fun _ => XS.istore X0.here hx rfl (hb hby d4_21) rfl (l' := #[.val (.ref a1), .val (.int p2), .val (.int p3), .val (.int p4), .val (.int p5), .val (.int (p2 &&& (3 : Int32))), .val (.int ((p2 >>> ((2 : Int32) &&& 31)).toInt8.toInt32)), .val (.int (10 : Int32)), .val (.int (13 : Int32)), .val (.int (10 : Int32)), .unset, .unset, .unset, .unset, .unset, .unset, .unset]) rfl) ?_
  show Go _ p e below s _ _ _ (s₁.setTop (mkF m 23 #[.val (.ref a1), .val (.int p2), .val (.int p3), .val (.int p4), .val (.int p5), .val (.int (p2 &&& (3 : Int32))), .val (.int ((p2 >>> ((2 : Int32) &&& 31)).toInt8.toInt32)), .val (.int (10 : Int32)), .val (.int (13 : Int32)), .val (.int (10 : Int32)), .unset, .unset, .unset, .unset, .unset, .unset, .unset] []))
  refine go (fun _ => XS.iload X0.here hx rfl (hb hby d4_23) rfl) ?_
  show Go _ p e below s _ _ _ (s₁.setTop (mkF m 25 #[.val (.ref a1), .val (.int p2), .val (.int p3), .val (.int p4), .val (.int p5), .val (.int (p2 &&& (3 : Int32))), .val (.int ((p2 >>> ((2 : Int32) &&& 31)).toInt8.toInt32)), .val (.int (10 : Int32)), .val (.int (13 : Int32)), .val (.int (10 : Int32)), .unset, .unset, .unset, .unset, .unset, .unset, .unset] [(.int (10 : Int32))]))
  refine go (fun _ => XS.istore X0.here hx rfl (hb hby d4_25) rfl (l' := #[.val (.ref a1), .val (.int p2), .val (.int p3), .val (.int p4), .val (.int p5), .val (.int (p2 &&& (3 : Int32))), .val (.int ((p2 >>> ((2 : Int32) &&& 31)).toInt8.toInt32)), .val (.int (10 : Int32)), .val (.int (13 : Int32)), .val (.int (10 : Int32)), .val (.int (10 : Int32)), .unset, .unset, .unset, .unset, .unset, .unset]) rfl) ?_
  show Go _ p e below s _ _ _ (s₁.setTop (mkF m 27 #[.val (.ref a1), .val (.int p2), .val (.int p3), .val (.int p4), .val (.int p5), .val (.int (p2 &&& (3 : Int32))), .val (.int ((p2 >>> ((2 : Int32) &&& 31)).toInt8.toInt32)), .val (.int (10 : Int32)), .val (.int (13 : Int32)), .val (.int (10 : Int32)), .val (.int (10 : Int32)), .unset, .unset, .unset, .unset, .unset, .unset] []))
  refine go (fun _ => XS.iload X0.here hx rfl (hb hby d4_27) rfl) ?_
  show Go _ p e below s _ _ _ (s₁.setTop (mkF m 29 #[.val (.ref a1), .val (.int p2), .val (.int p3), .val (.int p4), .val (.int p5), .val (.int (p2 &&& (3 : Int32))), .val (.int ((p2 >>> ((2 : Int32) &&& 31)).toInt8.toInt32)), .val (.int (10 : Int32)), .val (.int (13 : Int32)), .val (.int (10 : Int32)), .val (.int (10 : Int32)), .unset, .unset, .unset, .unset, .unset, .unset] [(.int (10 : Int32))]))
  refine go (fun _ => XS.istore X0.here hx rfl (hb hby d4_29) rfl (l' := #[.val (.ref a1), .val (.int p2), .val (.int p3), .val (.int p4), .val (.int p5), .val (.int (p2 &&& (3 : Int32))), .val (.int ((p2 >>> ((2 : Int32) &&& 31)).toInt8.toInt32)), .val (.int (10 : Int32)), .val (.int (13 : Int32)), .val (.int (10 : Int32)), .val (.int (10 : Int32)), .val (.int (10 : Int32)), .unset, .unset, .unset, .unset, .unset]) rfl) ?_
  show Go _ p e below s _ _ _ (s₁.setTop (mkF m 31 #[.val (.ref a1), .val (.int p2), .val (.int p3), .val (.int p4), .val (.int p5), .val (.int (p2 &&& (3 : Int32))), .val (.int ((p2 >>> ((2 : Int32) &&& 31)).toInt8.toInt32)), .val (.int (10 : Int32)), .val (.int (13 : Int32)), .val (.int (10 : Int32)), .val (.int (10 : Int32)), .val (.int (10 : Int32)), .unset, .unset, .unset, .unset, .unset] []))
  refine go (fun _ => XS.iload X0.here hx rfl (hb hby d4_31) rfl) ?_
  show Go _ p e below s _ _ _ (s₁.setTop (mkF m 33 #[.val (.ref a1), .val (.int p2), .val (.int p3), .val (.int p4), .val (.int p5), .val (.int (p2 &&& (3 : Int32))), .val (.int ((p2 >>> ((2 : Int32) &&& 31)).toInt8.toInt32)), .val (.int (10 : Int32)), .val (.int (13 : Int32)), .val (.int (10 : Int32)), .val (.int (10 : Int32)), .val (.int (10 : Int32)), .unset, .unset, .unset, .unset, .unset] [(.int (p2 &&& (3 : Int32)))]))
  by_cases hc33_160 : (p2 &&& (3 : Int32)) = (0 : Int32)
  · refine go (fun _ => XS.ifNo X0.here hx rfl (hb hby d4_33) rfl ((if0 _ _).trans (teq hc33_160).2)) ?_
    show Go _ p e below s _ _ _ (s₁.setTop (mkF m 36 #[.val (.ref a1), .val (.int p2), .val (.int p3), .val (.int p4), .val (.int p5), .val (.int (p2 &&& (3 : Int32))), .val (.int ((p2 >>> ((2 : Int32) &&& 31)).toInt8.toInt32)), .val (.int (10 : Int32)), .val (.int (13 : Int32)), .val (.int (10 : Int32)), .val (.int (10 : Int32)), .val (.int (10 : Int32)), .unset, .unset, .unset, .unset, .unset] []))
    refine go (fun _ => XS.iconst X0.here hx rfl (hb hby d4_36)) ?_
    show Go _ p e below s _ _ _ (s₁.setTop (mkF m 37 #[.val (.ref a1), .val (.int p2), .val (.int p3), .val (.int p4), .val (.int p5), .val (.int (p2 &&& (3 : Int32))), .val (.int ((p2 >>> ((2 : Int32) &&& 31)).toInt8.toInt32)), .val (.int (10 : Int32)), .val (.int (13 : Int32)), .val (.int (10 : Int32)), .val (.int (10 : Int32)), .val (.int (10 : Int32)), .unset, .unset, .unset, .unset, .unset] [(.int (1 : Int32))]))
    refine go (fun _ => XS.istore X0.here hx rfl (hb hby d4_37) rfl (l' := #[.val (.ref a1), .val (.int p2), .val (.int p3), .val (.int p4), .val (.int p5), .val (.int (p2 &&& (3 : Int32))), .val (.int ((p2 >>> ((2 : Int32) &&& 31)).toInt8.toInt32)), .val (.int (10 : Int32)), .val (.int (13 : Int32)), .val (.int (10 : Int32)), .val (.int (10 : Int32)), .val (.int (10 : Int32)), .val (.int (1 : Int32)), .unset, .unset, .unset, .unset]) rfl) ?_
    show Go _ p e below s _ _ _ (s₁.setTop (mkF m 39 #[.val (.ref a1), .val (.int p2), .val (.int p3), .val (.int p4), .val (.int p5), .val (.int (p2 &&& (3 : Int32))), .val (.int ((p2 >>> ((2 : Int32) &&& 31)).toInt8.toInt32)), .val (.int (10 : Int32)), .val (.int (13 : Int32)), .val (.int (10 : Int32)), .val (.int (10 : Int32)), .val (.int (10 : Int32)), .val (.int (1 : Int32)), .unset, .unset, .unset, .unset] []))
    refine go (fun _ => XS.goto X0.here hx rfl (pc0 := 39) (pc' := 85) rfl (hb hby d4_39) (by decide) (by decide)) ?_
    show Go _ p e below s _ _ _ (s₁.setTop (mkF m 85 #[.val (.ref a1), .val (.int p2), .val (.int p3), .val (.int p4), .val (.int p5), .val (.int (p2 &&& (3 : Int32))), .val (.int ((p2 >>> ((2 : Int32) &&& 31)).toInt8.toInt32)), .val (.int (10 : Int32)), .val (.int (13 : Int32)), .val (.int (10 : Int32)), .val (.int (10 : Int32)), .val (.int (10 : Int32)), .val (.int (1 : Int32)), .unset, .unset, .unset, .unset] []))
    refine go (fun _ => XS.iconst X0.here hx rfl (hb hby d4_85)) ?_
    show Go _ p e below s _ _ _ (s₁.setTop (mkF m 86 #[.val (.ref a1), .val (.int p2), .val (.int p3), .val (.int p4), .val (.int p5), .val (.int (p2 &&& (3 : Int32))), .val (.int ((p2 >>> ((2 : Int32) &&& 31)).toInt8.toInt32)), .val (.int (10 : Int32)), .val (.int (13 : Int32)), .val (.int (10 : Int32)), .val (.int (10 : Int32)), .val (.int (10 : Int32)), .val (.int (1 : Int32)), .unset, .unset, .unset, .unset] [(.int (5 : Int32))]))
    obtain ⟨T161, h161, k161, X161, e161, E161, A161, AE161, st161⟩ := newPE X0 hx hZ (hw _ (List.mem_of_getElem? (i := 16) rfl)) e0 (g := (mkF m 86 #[.val (.ref a1), .val (.int p2), .val (.int p3), .val (.int p4), .val (.int p5), .val (.int (p2 &&& (3 : Int32))), .val (.int ((p2 >>> ((2 : Int32) &&& 31)).toInt8.toInt32)), .val (.int (10 : Int32)), .val (.int (13 : Int32)), .val (.int (10 : Int32)), .val (.int (10 : Int32)), .val (.int (10 : Int32)), .val (.int (1 : Int32)), .unset, .unset, .unset, .unset] [(.int (5 : Int32))])) rfl (hb hby d4_86) rfl (by decide) (cap := 5) (by decide) (by decide) (by decide) (by decide) (ad := "[B") (by first | rfl | decide)
    obtain ⟨b161, g161⟩ : ∃ z, z = h0.size := ⟨_, rfl⟩
    rw [← g161] at A161 AE161 st161
    have lt161_a1_b161 : a1 < b161 := Nat.lt_of_lt_of_le P0.lt (Nat.le_of_eq g161.symm)
    have G_b161 : n0 ≤ b161 := Nat.le_trans Z0 (Nat.le_of_eq g161.symm)
    have SZ_b161 : h0.size ≤ b161 := Nat.le_trans (Keep.refl h0 [a1]).1 (Nat.le_of_eq g161.symm)
    have c161_0 := P0.ext E161
    have c161_1 := P2.ext E161
    have c161_2 := P3.ext E161
    have c161_3 := P4.ext E161
    have c161_4 := P5.ext E161
    have c161_5 := P6.ext E161
    have KK161 : Keep h0 h161 [a1] := (Keep.refl h0 [a1]).ext E161
    have ZN161 : n0 ≤ h161.size := Nat.le_trans Z0 E161.1
    have V161 : Arv Z h161 b161 k161 .byte (5 : Int32) [(.int (0 : Int32)), (.int (0 : Int32)), (.int (0 : Int32)), (.int (0 : Int32)), (.int (0 : Int32))] (.int (0 : Int32)) := (Arv.new A161 (by decide)).pad (pad_rep [] (.int (0 : Int32)) 5)
    refine go st161 ?_
    show Go _ p e below s _ _ _ (T161.setTop (mkF m 88 #[.val (.ref a1), .val (.int p2), .val (.int p3), .val (.int p4), .val (.int p5), .val (.int (p2 &&& (3 : Int32))), .val (.int ((p2 >>> ((2 : Int32) &&& 31)).toInt8.toInt32)), .val (.int (10 : Int32)), .val (.int (13 : Int32)), .val (.int (10 : Int32)), .val (.int (10 : Int32)), .val (.int (10 : Int32)), .val (.int (1 : Int32)), .unset, .unset, .unset, .unset] [(.ref b161)]))
    refine go (fun _ => XS.dup X161.here hx rfl (hb hby d4_88) rfl rfl) ?_
    show Go _ p e below s _ _ _ (T161.setTop (mkF m 89 #[.val (.ref a1), .val (.int p2), .val (.int p3), .val (.int p4), .val (.int p5), .val (.int (p2 &&& (3 : Int32))), .val (.int ((p2 >>> ((2 : Int32) &&& 31)).toInt8.toInt32)), .val (.int (10 : Int32)), .val (.int (13 : Int32)), .val (.int (10 : Int32)), .val (.int (10 : Int32)), .val (.int (10 : Int32)), .val (.int (1 : Int32)), .unset, .unset, .unset, .unset] [(.ref b161), (.ref b161)]))
    refine go (fun _ => XS.iconst X161.here hx rfl (hb hby d4_89)) ?_
    show Go _ p e below s _ _ _ (T161.setTop (mkF m 90 #[.val (.ref a1), .val (.int p2), .val (.int p3), .val (.int p4), .val (.int p5), .val (.int (p2 &&& (3 : Int32))), .val (.int ((p2 >>> ((2 : Int32) &&& 31)).toInt8.toInt32)), .val (.int (10 : Int32)), .val (.int (13 : Int32)), .val (.int (10 : Int32)), .val (.int (10 : Int32)), .val (.int (10 : Int32)), .val (.int (1 : Int32)), .unset, .unset, .unset, .unset] [(.int (0 : Int32)), (.ref b161), (.ref b161)]))
    refine go (fun _ => XS.iload X161.here hx rfl (hb hby d4_90) rfl) ?_
    show Go _ p e below s _ _ _ (T161.setTop (mkF m 92 #[.val (.ref a1), .val (.int p2), .val (.int p3), .val (.int p4), .val (.int p5), .val (.int (p2 &&& (3 : Int32))), .val (.int ((p2 >>> ((2 : Int32) &&& 31)).toInt8.toInt32)), .val (.int (10 : Int32)), .val (.int (13 : Int32)), .val (.int (10 : Int32)), .val (.int (10 : Int32)), .val (.int (10 : Int32)), .val (.int (1 : Int32)), .unset, .unset, .unset, .unset] [(.int (10 : Int32)), (.int (0 : Int32)), (.ref b161), (.ref b161)]))
    obtain ⟨cl162, Ar162, q162, Sz162, Nz162, Hs162, Gs162⟩ := id V161
    have hin162 : ¬ ((0 : Int32) < 0 ∨ cl162.slots.size ≤ ((0 : Int32)).toNatClampNeg) := inb_of Sz162 ⟨by decide, by decide⟩
    obtain ⟨T162, h162, X162, e162, W162, st162⟩ := stB X161 hx hZ e161 Ar162 (j := (0 : Int32)) hin162 (g := (mkF m 92 #[.val (.ref a1), .val (.int p2), .val (.int p3), .val (.int p4), .val (.int p5), .val (.int (p2 &&& (3 : Int32))), .val (.int ((p2 >>> ((2 : Int32) &&& 31)).toInt8.toInt32)), .val (.int (10 : Int32)), .val (.int (13 : Int32)), .val (.int (10 : Int32)), .val (.int (10 : Int32)), .val (.int (10 : Int32)), .val (.int (1 : Int32)), .unset, .unset, .unset, .unset] [(.int (10 : Int32)), (.int (0 : Int32)), (.ref b161), (.ref b161)])) rfl rfl (hb hby d4_92)
    have V162 := Arv.set Ar162 q162 Sz162 Nz162 Hs162 Gs162 (fits_nar_byte _) W162 0 rfl (Nat.le_of_ble_eq_true rfl)
    have VV162 : Arv Z h162 b161 k161 .byte (5 : Int32) [(.int (nar .byte (10 : Int32))), (.int (0 : Int32)), (.int (0 : Int32)), (.int (0 : Int32)), (.int (0 : Int32))] (.int (0 : Int32)) := V162
    have c162_0 := c161_0.wr W162
    have c162_1 := c161_1.other W162 (Or.inl (Nat.ne_of_lt lt161_a1_b161))
    have c162_2 := c161_2.other W162 (Or.inl (Nat.ne_of_lt lt161_a1_b161))
    have c162_3 := c161_3.other W162 (Or.inl (Nat.ne_of_lt lt161_a1_b161))
    have c162_4 := c161_4.other W162 (Or.inl (Nat.ne_of_lt lt161_a1_b161))
    have c162_5 := c161_5.other W162 (Or.inl (Nat.ne_of_lt lt161_a1_b161))
    have c162_6 := AE161.wr W162
    have KK162 : Keep h0 h162 [a1] := KK161.wr W162 (Or.inr SZ_b161)
    have ZN162 : n0 ≤ h162.size := Nat.le_trans ZN161 (Keep.of_wr W162).1
    have NN162 := Fr.snoc X162 N0 G_b161
    refine go st162 ?_
    show Go _ p e below s _ _ _ (T162.setTop (mkF m 93 #[.val (.ref a1), .val (.int p2), .val (.int p3), .val (.int p4), .val (.int p5), .val (.int (p2 &&& (3 : Int32))), .val (.int ((p2 >>> ((2 : Int32) &&& 31)).toInt8.toInt32)), .val (.int (10 : Int32)), .val (.int (13 : Int32)), .val (.int (10 : Int32)), .val (.int (10 : Int32)), .val (.int (10 : Int32)), .val (.int (1 : Int32)), .unset, .unset, .unset, .unset] [(.ref b161)]))
    refine go (fun _ => XS.dup X162.here hx rfl (hb hby d4_93) rfl rfl) ?_
    show Go _ p e below s _ _ _ (T162.setTop (mkF m 94 #[.val (.ref a1), .val (.int p2), .val (.int p3), .val (.int p4), .val (.int p5), .val (.int (p2 &&& (3 : Int32))), .val (.int ((p2 >>> ((2 : Int32) &&& 31)).toInt8.toInt32)), .val (.int (10 : Int32)), .val (.int (13 : Int32)), .val (.int (10 : Int32)), .val (.int (10 : Int32)), .val (.int (10 : Int32)), .val (.int (1 : Int32)), .unset, .unset, .unset, .unset] [(.ref b161), (.ref b161)]))
    refine go (fun _ => XS.iconst X162.here hx rfl (hb hby d4_94)) ?_
    show Go _ p e below s _ _ _ (T162.setTop (mkF m 95 #[.val (.ref a1), .val (.int p2), .val (.int p3), .val (.int p4), .val (.int p5), .val (.int (p2 &&& (3 : Int32))), .val (.int ((p2 >>> ((2 : Int32) &&& 31)).toInt8.toInt32)), .val (.int (10 : Int32)), .val (.int (13 : Int32)), .val (.int (10 : Int32)), .val (.int (10 : Int32)), .val (.int (10 : Int32)), .val (.int (1 : Int32)), .unset, .unset, .unset, .unset] [(.int (1 : Int32)), (.ref b161), (.ref b161)]))
    refine go (fun _ => XS.iload X162.here hx rfl (hb hby d4_95) rfl) ?_
    show Go _ p e below s _ _ _ (T162.setTop (mkF m 97 #[.val (.ref a1), .val (.int p2), .val (.int p3), .val (.int p4), .val (.int p5), .val (.int (p2 &&& (3 : Int32))), .val (.int ((p2 >>> ((2 : Int32) &&& 31)).toInt8.toInt32)), .val (.int (10 : Int32)), .val (.int (13 : Int32)), .val (.int (10 : Int32)), .val (.int (10 : Int32)), .val (.int (10 : Int32)), .val (.int (1 : Int32)), .unset, .unset, .unset, .unset] [(.int (10 : Int32)), (.int (1 : Int32)), (.ref b161), (.ref b161)]))
    obtain ⟨cl163, Ar163, q163, Sz163, Nz163, Hs163, Gs163⟩ := id VV162
    have hin163 : ¬ ((1 : Int32) < 0 ∨ cl163.slots.size ≤ ((1 : Int32)).toNatClampNeg) := inb_of Sz163 ⟨by decide, by decide⟩
    obtain ⟨T163, h163, X163, e163, W163, st163⟩ := stB X162 hx hZ e162 Ar163 (j := (1 : Int32)) hin163 (g := (mkF m 97 #[.val (.ref a1), .val (.int p2), .val (.int p3), .val (.int p4), .val (.int p5), .val (.int (p2 &&& (3 : Int32))), .val (.int ((p2 >>> ((2 : Int32) &&& 31)).toInt8.toInt32)), .val (.int (10 : Int32)), .val (.int (13 : Int32)), .val (.int (10 : Int32)), .val (.int (10 : Int32)), .val (.int (10 : Int32)), .val (.int (1 : Int32)), .unset, .unset, .unset, .unset] [(.int (10 : Int32)), (.int (1 : Int32)), (.ref b161), (.ref b161)])) rfl rfl (hb hby d4_97)
    have V163 := Arv.set Ar163 q163 Sz163 Nz163 Hs163 Gs163 (fits_nar_byte _) W163 1 rfl (Nat.le_of_ble_eq_true rfl)
    have VV163 : Arv Z h163 b161 k161 .byte (5 : Int32) [(.int (nar .byte (10 : Int32))), (.int (nar .byte (10 : Int32))), (.int (0 : Int32)), (.int (0 : Int32)), (.int (0 : Int32))] (.int (0 : Int32)) := V163
    have c163_0 := c162_0.wr W163
    have c163_1 := c162_1.other W163 (Or.inl (Nat.ne_of_lt lt161_a1_b161))
    have c163_2 := c162_2.other W163 (Or.inl (Nat.ne_of_lt lt161_a1_b161))
    have c163_3 := c162_3.other W163 (Or.inl (Nat.ne_of_lt lt161_a1_b161))
    have c163_4 := c162_4.other W163 (Or.inl (Nat.ne_of_lt lt161_a1_b161))
    have c163_5 := c162_5.other W163 (Or.inl (Nat.ne_of_lt lt161_a1_b161))
    have c163_6 := c162_6.wr W163
    have KK163 : Keep h0 h163 [a1] := KK162.wr W163 (Or.inr SZ_b161)
    have ZN163 : n0 ≤ h163.size := Nat.le_trans ZN162 (Keep.of_wr W163).1
    have NN163 := Fr.snoc X163 NN162 G_b161
    refine go st163 ?_
    show Go _ p e below s _ _ _ (T163.setTop (mkF m 98 #[.val (.ref a1), .val (.int p2), .val (.int p3), .val (.int p4), .val (.int p5), .val (.int (p2 &&& (3 : Int32))), .val (.int ((p2 >>> ((2 : Int32) &&& 31)).toInt8.toInt32)), .val (.int (10 : Int32)), .val (.int (13 : Int32)), .val (.int (10 : Int32)), .val (.int (10 : Int32)), .val (.int (10 : Int32)), .val (.int (1 : Int32)), .unset, .unset, .unset, .unset] [(.ref b161)]))
    refine go (fun _ => XS.dup X163.here hx rfl (hb hby d4_98) rfl rfl) ?_
    show Go _ p e below s _ _ _ (T163.setTop (mkF m 99 #[.val (.ref a1), .val (.int p2), .val (.int p3), .val (.int p4), .val (.int p5), .val (.int (p2 &&& (3 : Int32))), .val (.int ((p2 >>> ((2 : Int32) &&& 31)).toInt8.toInt32)), .val (.int (10 : Int32)), .val (.int (13 : Int32)), .val (.int (10 : Int32)), .val (.int (10 : Int32)), .val (.int (10 : Int32)), .val (.int (1 : Int32)), .unset, .unset, .unset, .unset] [(.ref b161), (.ref b161)]))
    refine go (fun _ => XS.iconst X163.here hx rfl (hb hby d4_99)) ?_
    show Go _ p e below s _ _ _ (T163.setTop (mkF m 100 #[.val (.ref a1), .val (.int p2), .val (.int p3), .val (.int p4), .val (.int p5), .val (.int (p2 &&& (3 : Int32))), .val (.int ((p2 >>> ((2 : Int32) &&& 31)).toInt8.toInt32)), .val (.int (10 : Int32)), .val (.int (13 : Int32)), .val (.int (10 : Int32)), .val (.int (10 : Int32)), .val (.int (10 : Int32)), .val (.int (1 : Int32)), .unset, .unset, .unset, .unset] [(.int (2 : Int32)), (.ref b161), (.ref b161)]))
    refine go (fun _ => XS.iload X163.here hx rfl (hb hby d4_100) rfl) ?_
    show Go _ p e below s _ _ _ (T163.setTop (mkF m 102 #[.val (.ref a1), .val (.int p2), .val (.int p3), .val (.int p4), .val (.int p5), .val (.int (p2 &&& (3 : Int32))), .val (.int ((p2 >>> ((2 : Int32) &&& 31)).toInt8.toInt32)), .val (.int (10 : Int32)), .val (.int (13 : Int32)), .val (.int (10 : Int32)), .val (.int (10 : Int32)), .val (.int (10 : Int32)), .val (.int (1 : Int32)), .unset, .unset, .unset, .unset] [(.int (10 : Int32)), (.int (2 : Int32)), (.ref b161), (.ref b161)]))
    obtain ⟨cl164, Ar164, q164, Sz164, Nz164, Hs164, Gs164⟩ := id VV163
    have hin164 : ¬ ((2 : Int32) < 0 ∨ cl164.slots.size ≤ ((2 : Int32)).toNatClampNeg) := inb_of Sz164 ⟨by decide, by decide⟩
    obtain ⟨T164, h164, X164, e164, W164, st164⟩ := stB X163 hx hZ e163 Ar164 (j := (2 : Int32)) hin164 (g := (mkF m 102 #[.val (.ref a1), .val (.int p2), .val (.int p3), .val (.int p4), .val (.int p5), .val (.int (p2 &&& (3 : Int32))), .val (.int ((p2 >>> ((2 : Int32) &&& 31)).toInt8.toInt32)), .val (.int (10 : Int32)), .val (.int (13 : Int32)), .val (.int (10 : Int32)), .val (.int (10 : Int32)), .val (.int (10 : Int32)), .val (.int (1 : Int32)), .unset, .unset, .unset, .unset] [(.int (10 : Int32)), (.int (2 : Int32)), (.ref b161), (.ref b161)])) rfl rfl (hb hby d4_102)
    have V164 := Arv.set Ar164 q164 Sz164 Nz164 Hs164 Gs164 (fits_nar_byte _) W164 2 rfl (Nat.le_of_ble_eq_true rfl)
    have VV164 : Arv Z h164 b161 k161 .byte (5 : Int32) [(.int (nar .byte (10 : Int32))), (.int (nar .byte (10 : Int32))), (.int (nar .byte (10 : Int32))), (.int (0 : Int32)), (.int (0 : Int32))] (.int (0 : Int32)) := V164
    have c164_0 := c163_0.wr W164
    have c164_1 := c163_1.other W164 (Or.inl (Nat.ne_of_lt lt161_a1_b161))
    have c164_2 := c163_2.other W164 (Or.inl (Nat.ne_of_lt lt161_a1_b161))
    have c164_3 := c163_3.other W164 (Or.inl (Nat.ne_of_lt lt161_a1_b161))
    have c164_4 := c163_4.other W164 (Or.inl (Nat.ne_of_lt lt161_a1_b161))
    have c164_5 := c163_5.other W164 (Or.inl (Nat.ne_of_lt lt161_a1_b161))
    have c164_6 := c163_6.wr W164
    have KK164 : Keep h0 h164 [a1] := KK163.wr W164 (Or.inr SZ_b161)
    have ZN164 : n0 ≤ h164.size := Nat.le_trans ZN163 (Keep.of_wr W164).1
    have NN164 := Fr.snoc X164 NN163 G_b161
    refine go st164 ?_
    show Go _ p e below s _ _ _ (T164.setTop (mkF m 103 #[.val (.ref a1), .val (.int p2), .val (.int p3), .val (.int p4), .val (.int p5), .val (.int (p2 &&& (3 : Int32))), .val (.int ((p2 >>> ((2 : Int32) &&& 31)).toInt8.toInt32)), .val (.int (10 : Int32)), .val (.int (13 : Int32)), .val (.int (10 : Int32)), .val (.int (10 : Int32)), .val (.int (10 : Int32)), .val (.int (1 : Int32)), .unset, .unset, .unset, .unset] [(.ref b161)]))
    refine go (fun _ => XS.dup X164.here hx rfl (hb hby d4_103) rfl rfl) ?_
    show Go _ p e below s _ _ _ (T164.setTop (mkF m 104 #[.val (.ref a1), .val (.int p2), .val (.int p3), .val (.int p4), .val (.int p5), .val (.int (p2 &&& (3 : Int32))), .val (.int ((p2 >>> ((2 : Int32) &&& 31)).toInt8.toInt32)), .val (.int (10 : Int32)), .val (.int (13 : Int32)), .val (.int (10 : Int32)), .val (.int (10 : Int32)), .val (.int (10 : Int32)), .val (.int (1 : Int32)), .unset, .unset, .unset, .unset] [(.ref b161), (.ref b161)]))
    refine go (fun _ => XS.iconst X164.here hx rfl (hb hby d4_104)) ?_
    show Go _ p e below s _ _ _ (T164.setTop (mkF m 105 #[.val (.ref a1), .val (.int p2), .val (.int p3), .val (.int p4), .val (.int p5), .val (.int (p2 &&& (3 : Int32))), .val (.int ((p2 >>> ((2 : Int32) &&& 31)).toInt8.toInt32)), .val (.int (10 : Int32)), .val (.int (13 : Int32)), .val (.int (10 : Int32)), .val (.int (10 : Int32)), .val (.int (10 : Int32)), .val (.int (1 : Int32)), .unset, .unset, .unset, .unset] [(.int (3 : Int32)), (.ref b161), (.ref b161)]))
    refine go (fun _ => XS.iload X164.here hx rfl (hb hby d4_105) rfl) ?_
    show Go _ p e below s _ _ _ (T164.setTop (mkF m 107 #[.val (.ref a1), .val (.int p2), .val (.int p3), .val (.int p4), .val (.int p5), .val (.int (p2 &&& (3 : Int32))), .val (.int ((p2 >>> ((2 : Int32) &&& 31)).toInt8.toInt32)), .val (.int (10 : Int32)), .val (.int (13 : Int32)), .val (.int (10 : Int32)), .val (.int (10 : Int32)), .val (.int (10 : Int32)), .val (.int (1 : Int32)), .unset, .unset, .unset, .unset] [(.int (10 : Int32)), (.int (3 : Int32)), (.ref b161), (.ref b161)]))
    obtain ⟨cl165, Ar165, q165, Sz165, Nz165, Hs165, Gs165⟩ := id VV164
    have hin165 : ¬ ((3 : Int32) < 0 ∨ cl165.slots.size ≤ ((3 : Int32)).toNatClampNeg) := inb_of Sz165 ⟨by decide, by decide⟩
    obtain ⟨T165, h165, X165, e165, W165, st165⟩ := stB X164 hx hZ e164 Ar165 (j := (3 : Int32)) hin165 (g := (mkF m 107 #[.val (.ref a1), .val (.int p2), .val (.int p3), .val (.int p4), .val (.int p5), .val (.int (p2 &&& (3 : Int32))), .val (.int ((p2 >>> ((2 : Int32) &&& 31)).toInt8.toInt32)), .val (.int (10 : Int32)), .val (.int (13 : Int32)), .val (.int (10 : Int32)), .val (.int (10 : Int32)), .val (.int (10 : Int32)), .val (.int (1 : Int32)), .unset, .unset, .unset, .unset] [(.int (10 : Int32)), (.int (3 : Int32)), (.ref b161), (.ref b161)])) rfl rfl (hb hby d4_107)
    have V165 := Arv.set Ar165 q165 Sz165 Nz165 Hs165 Gs165 (fits_nar_byte _) W165 3 rfl (Nat.le_of_ble_eq_true rfl)
    have VV165 : Arv Z h165 b161 k161 .byte (5 : Int32) [(.int (nar .byte (10 : Int32))), (.int (nar .byte (10 : Int32))), (.int (nar .byte (10 : Int32))), (.int (nar .byte (10 : Int32))), (.int (0 : Int32))] (.int (0 : Int32)) := V165
    have c165_0 := c164_0.wr W165
    have c165_1 := c164_1.other W165 (Or.inl (Nat.ne_of_lt lt161_a1_b161))
    have c165_2 := c164_2.other W165 (Or.inl (Nat.ne_of_lt lt161_a1_b161))
    have c165_3 := c164_3.other W165 (Or.inl (Nat.ne_of_lt lt161_a1_b161))
    have c165_4 := c164_4.other W165 (Or.inl (Nat.ne_of_lt lt161_a1_b161))
    have c165_5 := c164_5.other W165 (Or.inl (Nat.ne_of_lt lt161_a1_b161))
    have c165_6 := c164_6.wr W165
    have KK165 : Keep h0 h165 [a1] := KK164.wr W165 (Or.inr SZ_b161)
    have ZN165 : n0 ≤ h165.size := Nat.le_trans ZN164 (Keep.of_wr W165).1
    have NN165 := Fr.snoc X165 NN164 G_b161
    refine go st165 ?_
    show Go _ p e below s _ _ _ (T165.setTop (mkF m 108 #[.val (.ref a1), .val (.int p2), .val (.int p3), .val (.int p4), .val (.int p5), .val (.int (p2 &&& (3 : Int32))), .val (.int ((p2 >>> ((2 : Int32) &&& 31)).toInt8.toInt32)), .val (.int (10 : Int32)), .val (.int (13 : Int32)), .val (.int (10 : Int32)), .val (.int (10 : Int32)), .val (.int (10 : Int32)), .val (.int (1 : Int32)), .unset, .unset, .unset, .unset] [(.ref b161)]))
    refine go (fun _ => XS.dup X165.here hx rfl (hb hby d4_108) rfl rfl) ?_
    show Go _ p e below s _ _ _ (T165.setTop (mkF m 109 #[.val (.ref a1), .val (.int p2), .val (.int p3), .val (.int p4), .val (.int p5), .val (.int (p2 &&& (3 : Int32))), .val (.int ((p2 >>> ((2 : Int32) &&& 31)).toInt8.toInt32)), .val (.int (10 : Int32)), .val (.int (13 : Int32)), .val (.int (10 : Int32)), .val (.int (10 : Int32)), .val (.int (10 : Int32)), .val (.int (1 : Int32)), .unset, .unset, .unset, .unset] [(.ref b161), (.ref b161)]))
    refine go (fun _ => XS.iconst X165.here hx rfl (hb hby d4_109)) ?_
    show Go _ p e below s _ _ _ (T165.setTop (mkF m 110 #[.val (.ref a1), .val (.int p2), .val (.int p3), .val (.int p4), .val (.int p5), .val (.int (p2 &&& (3 : Int32))), .val (.int ((p2 >>> ((2 : Int32) &&& 31)).toInt8.toInt32)), .val (.int (10 : Int32)), .val (.int (13 : Int32)), .val (.int (10 : Int32)), .val (.int (10 : Int32)), .val (.int (10 : Int32)), .val (.int (1 : Int32)), .unset, .unset, .unset, .unset] [(.int (4 : Int32)), (.ref b161), (.ref b161)]))
    refine go (fun _ => XS.iload X165.here hx rfl (hb hby d4_110) rfl) ?_
    show Go _ p e below s _ _ _ (T165.setTop (mkF m 112 #[.val (.ref a1), .val (.int p2), .val (.int p3), .val (.int p4), .val (.int p5), .val (.int (p2 &&& (3 : Int32))), .val (.int ((p2 >>> ((2 : Int32) &&& 31)).toInt8.toInt32)), .val (.int (10 : Int32)), .val (.int (13 : Int32)), .val (.int (10 : Int32)), .val (.int (10 : Int32)), .val (.int (10 : Int32)), .val (.int (1 : Int32)), .unset, .unset, .unset, .unset] [(.int (10 : Int32)), (.int (4 : Int32)), (.ref b161), (.ref b161)]))
    obtain ⟨cl166, Ar166, q166, Sz166, Nz166, Hs166, Gs166⟩ := id VV165
    have hin166 : ¬ ((4 : Int32) < 0 ∨ cl166.slots.size ≤ ((4 : Int32)).toNatClampNeg) := inb_of Sz166 ⟨by decide, by decide⟩
    obtain ⟨T166, h166, X166, e166, W166, st166⟩ := stB X165 hx hZ e165 Ar166 (j := (4 : Int32)) hin166 (g := (mkF m 112 #[.val (.ref a1), .val (.int p2), .val (.int p3), .val (.int p4), .val (.int p5), .val (.int (p2 &&& (3 : Int32))), .val (.int ((p2 >>> ((2 : Int32) &&& 31)).toInt8.toInt32)), .val (.int (10 : Int32)), .val (.int (13 : Int32)), .val (.int (10 : Int32)), .val (.int (10 : Int32)), .val (.int (10 : Int32)), .val (.int (1 : Int32)), .unset, .unset, .unset, .unset] [(.int (10 : Int32)), (.int (4 : Int32)), (.ref b161), (.ref b161)])) rfl rfl (hb hby d4_112)
    have V166 := Arv.set Ar166 q166 Sz166 Nz166 Hs166 Gs166 (fits_nar_byte _) W166 4 rfl (Nat.le_of_ble_eq_true rfl)
    have VV166 : Arv Z h166 b161 k161 .byte (5 : Int32) [(.int (nar .byte (10 : Int32))), (.int (nar .byte (10 : Int32))), (.int (nar .byte (10 : Int32))), (.int (nar .byte (10 : Int32))), (.int (nar .byte (10 : Int32)))] (.int (0 : Int32)) := V166
    have c166_0 := c165_0.wr W166
    have c166_1 := c165_1.other W166 (Or.inl (Nat.ne_of_lt lt161_a1_b161))
    have c166_2 := c165_2.other W166 (Or.inl (Nat.ne_of_lt lt161_a1_b161))
    have c166_3 := c165_3.other W166 (Or.inl (Nat.ne_of_lt lt161_a1_b161))
    have c166_4 := c165_4.other W166 (Or.inl (Nat.ne_of_lt lt161_a1_b161))
    have c166_5 := c165_5.other W166 (Or.inl (Nat.ne_of_lt lt161_a1_b161))
    have c166_6 := c165_6.wr W166
    have KK166 : Keep h0 h166 [a1] := KK165.wr W166 (Or.inr SZ_b161)
    have ZN166 : n0 ≤ h166.size := Nat.le_trans ZN165 (Keep.of_wr W166).1
    have NN166 := Fr.snoc X166 NN165 G_b161
    refine go st166 ?_
    show Go _ p e below s _ _ _ (T166.setTop (mkF m 113 #[.val (.ref a1), .val (.int p2), .val (.int p3), .val (.int p4), .val (.int p5), .val (.int (p2 &&& (3 : Int32))), .val (.int ((p2 >>> ((2 : Int32) &&& 31)).toInt8.toInt32)), .val (.int (10 : Int32)), .val (.int (13 : Int32)), .val (.int (10 : Int32)), .val (.int (10 : Int32)), .val (.int (10 : Int32)), .val (.int (1 : Int32)), .unset, .unset, .unset, .unset] [(.ref b161)]))
    refine go (fun _ => XS.astore X166.here hx rfl (hb hby d4_113) rfl rfl (l' := #[.val (.ref a1), .val (.int p2), .val (.int p3), .val (.int p4), .val (.int p5), .val (.int (p2 &&& (3 : Int32))), .val (.int ((p2 >>> ((2 : Int32) &&& 31)).toInt8.toInt32)), .val (.int (10 : Int32)), .val (.int (13 : Int32)), .val (.int (10 : Int32)), .val (.int (10 : Int32)), .val (.int (10 : Int32)), .val (.int (1 : Int32)), .val (.ref b161), .unset, .unset, .unset]) rfl) ?_
    show Go _ p e below s _ _ _ (T166.setTop (mkF m 115 #[.val (.ref a1), .val (.int p2), .val (.int p3), .val (.int p4), .val (.int p5), .val (.int (p2 &&& (3 : Int32))), .val (.int ((p2 >>> ((2 : Int32) &&& 31)).toInt8.toInt32)), .val (.int (10 : Int32)), .val (.int (13 : Int32)), .val (.int (10 : Int32)), .val (.int (10 : Int32)), .val (.int (10 : Int32)), .val (.int (1 : Int32)), .val (.ref b161), .unset, .unset, .unset] []))
    refine go (fun _ => XS.iloadN X166.here hx rfl (hb hby d4_115) rfl) ?_
    show Go _ p e below s _ _ _ (T166.setTop (mkF m 116 #[.val (.ref a1), .val (.int p2), .val (.int p3), .val (.int p4), .val (.int p5), .val (.int (p2 &&& (3 : Int32))), .val (.int ((p2 >>> ((2 : Int32) &&& 31)).toInt8.toInt32)), .val (.int (10 : Int32)), .val (.int (13 : Int32)), .val (.int (10 : Int32)), .val (.int (10 : Int32)), .val (.int (10 : Int32)), .val (.int (1 : Int32)), .val (.ref b161), .unset, .unset, .unset] [(.int p3)]))
    refine go (fun _ => XS.iload X166.here hx rfl (hb hby d4_116) rfl) ?_
    show Go _ p e below s _ _ _ (T166.setTop (mkF m 118 #[.val (.ref a1), .val (.int p2), .val (.int p3), .val (.int p4), .val (.int p5), .val (.int (p2 &&& (3 : Int32))), .val (.int ((p2 >>> ((2 : Int32) &&& 31)).toInt8.toInt32)), .val (.int (10 : Int32)), .val (.int (13 : Int32)), .val (.int (10 : Int32)), .val (.int (10 : Int32)), .val (.int (10 : Int32)), .val (.int (1 : Int32)), .val (.ref b161), .unset, .unset, .unset] [(.int (1 : Int32)), (.int p3)]))
    obtain ⟨_, _, ⟨T167, L167, k167, n167⟩, -, X167, ⟨Lc167, hQ167, l167, y167, z167⟩, st167⟩ := Jvm.LawKit.callS X166 hx (y := (⟨"java/lang/Math", "min", "(II)I"⟩ : MethodName)) hown (mvT hZ (hw _ (List.mem_of_getElem? (i := 17) rfl))) (mvT hZ (hw _ (List.mem_of_getElem? (i := 18) rfl))) (mvT hZ (hw _ (List.mem_of_getElem? (i := 19) rfl))) (mvT hZ (hw _ (List.mem_of_getElem? (i := 20) rfl))) (by decide) (backOf (W := 0) (rm5 l Z a0 hw [] p3 (1 : Int32) h166 n0 ZN166 ) hZ (hw _ (List.mem_of_getElem? (i := 20) rfl)) (hw _ (List.mem_of_getElem? (i := 19) rfl)) (by decide) (by decide)) (g := (mkF m 118 #[.val (.ref a1), .val (.int p2), .val (.int p3), .val (.int p4), .val (.int p5), .val (.int (p2 &&& (3 : Int32))), .val (.int ((p2 >>> ((2 : Int32) &&& 31)).toInt8.toInt32)), .val (.int (10 : Int32)), .val (.int (13 : Int32)), .val (.int (10 : Int32)), .val (.int (10 : Int32)), .val (.int (10 : Int32)), .val (.int (1 : Int32)), .val (.ref b161), .unset, .unset, .unset] [(.int (1 : Int32)), (.int p3)])) rfl (by rw [hml]; rfl) (argsL := [(.int p3), (.int (1 : Int32))]) (rest := []) (lenOf pd_4_0 rfl) rfl (by show 2 * 0 + _ ≤ _; exact Nat.le_of_eq rfl) (hb hby d4_118) (fun _ _ => ⟨rfl, e166, (by decide : 1 + 0 ≤ _), (by decide : 5 + 0 ≤ _)⟩)
    dsimp only [Pt.U, Pt.locs, Pt.cells, Pt.slots] at X167 l167 y167 z167 st167 hQ167
    subst l167 y167 z167
    obtain ⟨rfl, N167q, e167⟩ := hQ167
    have N167 := Fr.app NN166 N167q
    refine go st167 ?_
    show Go _ p e below s _ _ _ (T167.setTop (mkF m 121 #[.val (.ref a1), .val (.int p2), .val (.int p3), .val (.int p4), .val (.int p5), .val (.int (p2 &&& (3 : Int32))), .val (.int ((p2 >>> ((2 : Int32) &&& 31)).toInt8.toInt32)), .val (.int (10 : Int32)), .val (.int (13 : Int32)), .val (.int (10 : Int32)), .val (.int (10 : Int32)), .val (.int (10 : Int32)), .val (.int (1 : Int32)), .val (.ref b161), .unset, .unset, .unset] [(.int (own_min p3 (1 : Int32)))]))
    refine go (fun _ => XS.istore X167.here hx rfl (hb hby d4_121) rfl (l' := #[.val (.ref a1), .val (.int p2), .val (.int p3), .val (.int p4), .val (.int p5), .val (.int (p2 &&& (3 : Int32))), .val (.int ((p2 >>> ((2 : Int32) &&& 31)).toInt8.toInt32)), .val (.int (10 : Int32)), .val (.int (13 : Int32)), .val (.int (10 : Int32)), .val (.int (10 : Int32)), .val (.int (10 : Int32)), .val (.int (1 : Int32)), .val (.ref b161), .val (.int (own_min p3 (1 : Int32))), .unset, .unset]) rfl) ?_
    show Go _ p e below s _ _ _ (T167.setTop (mkF m 123 #[.val (.ref a1), .val (.int p2), .val (.int p3), .val (.int p4), .val (.int p5), .val (.int (p2 &&& (3 : Int32))), .val (.int ((p2 >>> ((2 : Int32) &&& 31)).toInt8.toInt32)), .val (.int (10 : Int32)), .val (.int (13 : Int32)), .val (.int (10 : Int32)), .val (.int (10 : Int32)), .val (.int (10 : Int32)), .val (.int (1 : Int32)), .val (.ref b161), .val (.int (own_min p3 (1 : Int32))), .unset, .unset] []))
    obtain ⟨spl, hs, hsl⟩ := own_minN hsp (show ((1 : Int32)).toInt = ((1 : Nat) : Int) from by decide)
    generalize own_min p3 (1 : Int32) = sv at hs ⊢
    show Go _ p e below s _ _ _ (T167.setTop (mkF m 123 #[.val (.ref a1), .val (.int p2), .val (.int p3), .val (.int p4), .val (.int p5), .val (.int (p2 &&& (3 : Int32))), .val (.int ((p2 >>> ((2 : Int32) &&& 31)).toInt8.toInt32)), .val (.int (10 : Int32)), .val (.int (13 : Int32)), .val (.int (10 : Int32)), .val (.int (10 : Int32)), .val (.int (10 : Int32)), .val (.int (1 : Int32)), .val (.ref b161), .val (.int sv), .unset, .unset] []))
    refine go (fun _ => XS.aloadN X167.here hx rfl (hb hby d4_123) rfl rfl) ?_
    show Go _ p e below s _ _ _ (T167.setTop (mkF m 124 #[.val (.ref a1), .val (.int p2), .val (.int p3), .val (.int p4), .val (.int p5), .val (.int (p2 &&& (3 : Int32))), .val (.int ((p2 >>> ((2 : Int32) &&& 31)).toInt8.toInt32)), .val (.int (10 : Int32)), .val (.int (13 : Int32)), .val (.int (10 : Int32)), .val (.int (10 : Int32)), .val (.int (10 : Int32)), .val (.int (1 : Int32)), .val (.ref b161), .val (.int sv), .unset, .unset] [(.ref a1)]))
    refine go (fun _ => XS.aload X167.here hx rfl (hb hby d4_124) rfl rfl) ?_
    show Go _ p e below s _ _ _ (T167.setTop (mkF m 126 #[.val (.ref a1), .val (.int p2), .val (.int p3), .val (.int p4), .val (.int p5), .val (.int (p2 &&& (3 : Int32))), .val (.int ((p2 >>> ((2 : Int32) &&& 31)).toInt8.toInt32)), .val (.int (10 : Int32)), .val (.int (13 : Int32)), .val (.int (10 : Int32)), .val (.int (10 : Int32)), .val (.int (10 : Int32)), .val (.int (1 : Int32)), .val (.ref b161), .val (.int sv), .unset, .unset] [(.ref b161), (.ref a1)]))
    refine go (fun _ => XS.iconst X167.here hx rfl (hb hby d4_126)) ?_
    show Go _ p e below s _ _ _ (T167.setTop (mkF m 127 #[.val (.ref a1), .val (.int p2), .val (.int p3), .val (.int p4), .val (.int p5), .val (.int (p2 &&& (3 : Int32))), .val (.int ((p2 >>> ((2 : Int32) &&& 31)).toInt8.toInt32)), .val (.int (10 : Int32)), .val (.int (13 : Int32)), .val (.int (10 : Int32)), .val (.int (10 : Int32)), .val (.int (10 : Int32)), .val (.int (1 : Int32)), .val (.ref b161), .val (.int sv), .unset, .unset] [(.int (1 : Int32)), (.ref b161), (.ref a1)]))
    refine go (fun _ => XS.iconst X167.here hx rfl (hb hby d4_127)) ?_
    show Go _ p e below s _ _ _ (T167.setTop (mkF m 128 #[.val (.ref a1), .val (.int p2), .val (.int p3), .val (.int p4), .val (.int p5), .val (.int (p2 &&& (3 : Int32))), .val (.int ((p2 >>> ((2 : Int32) &&& 31)).toInt8.toInt32)), .val (.int (10 : Int32)), .val (.int (13 : Int32)), .val (.int (10 : Int32)), .val (.int (10 : Int32)), .val (.int (10 : Int32)), .val (.int (1 : Int32)), .val (.ref b161), .val (.int sv), .unset, .unset] [(.int (1 : Int32)), (.int (1 : Int32)), (.ref b161), (.ref a1)]))
    refine go (fun _ => XS.iload X167.here hx rfl (hb hby d4_128) rfl) ?_
    show Go _ p e below s _ _ _ (T167.setTop (mkF m 130 #[.val (.ref a1), .val (.int p2), .val (.int p3), .val (.int p4), .val (.int p5), .val (.int (p2 &&& (3 : Int32))), .val (.int ((p2 >>> ((2 : Int32) &&& 31)).toInt8.toInt32)), .val (.int (10 : Int32)), .val (.int (13 : Int32)), .val (.int (10 : Int32)), .val (.int (10 : Int32)), .val (.int (10 : Int32)), .val (.int (1 : Int32)), .val (.ref b161), .val (.int sv), .unset, .unset] [(.int sv), (.int (1 : Int32)), (.int (1 : Int32)), (.ref b161), (.ref a1)]))
    refine go (fun _ => XS.iadd X167.here hx rfl (hb hby d4_130) rfl) ?_
    show Go _ p e below s _ _ _ (T167.setTop (mkF m 131 #[.val (.ref a1), .val (.int p2), .val (.int p3), .val (.int p4), .val (.int p5), .val (.int (p2 &&& (3 : Int32))), .val (.int ((p2 >>> ((2 : Int32) &&& 31)).toInt8.toInt32)), .val (.int (10 : Int32)), .val (.int (13 : Int32)), .val (.int (10 : Int32)), .val (.int (10 : Int32)), .val (.int (10 : Int32)), .val (.int (1 : Int32)), .val (.ref b161), .val (.int sv), .unset, .unset] [(.int ((1 : Int32) + sv)), (.int (1 : Int32)), (.ref b161), (.ref a1)]))
    obtain ⟨cq168, kq168, q168a, q168b, q168c⟩ := isOf hZ e167 c166_0
    obtain ⟨_, _, ⟨T168, L168, k168, n168⟩, -, X168, ⟨Lc168, hQ168, l168, y168, z168⟩, st168⟩ := X167.virtualBack hx (y := (⟨"com/example/dosisbog/dosisbog/HttpRequest$HeadEnd", "whole", "([BII)Z"⟩ : MethodName)) (z := (⟨"com/example/dosisbog/dosisbog/HttpRequest$HeadEnd", "whole", "([BII)Z"⟩ : MethodName)) hown (mvT hZ (hw _ (List.mem_of_getElem? (i := 21) rfl))) (mvT hZ (hw _ (List.mem_of_getElem? (i := 22) rfl))) (notFace_of_selects (args := #[]) (mvT hZ (hw _ (List.mem_of_getElem? (i := 24) rfl)))) (mvT hZ (hw _ (List.mem_of_getElem? (i := 24) rfl))) (mvT hZ (hw _ (List.mem_of_getElem? (i := 23) rfl))) (by decide) (backOf (W := 0) (rm6 l Z a0 hw [] a1 b161 (1 : Int32) ((1 : Int32) + sv) k161 (5 : Int32) [(.int (nar .byte (10 : Int32))), (.int (nar .byte (10 : Int32))), (.int (nar .byte (10 : Int32))), (.int (nar .byte (10 : Int32))), (.int (nar .byte (10 : Int32)))] (.int (0 : Int32)) (fun j => [(nar .byte (10 : Int32)), (nar .byte (10 : Int32)), (nar .byte (10 : Int32)), (nar .byte (10 : Int32)), (nar .byte (10 : Int32))].getD j 0) spl 1 x1 x2 x3 x4 x5 h166 n0 ZN166 c166_0 P1 VV166 (Nat.ne_of_lt lt161_a1_b161) c166_1 c166_2 c166_3 c166_4 c166_5 (by decide) (own_1p hs (by omega)) (by have : (5 : Int32).toInt = 5 := (by decide); omega) (own_getD [(nar .byte (10 : Int32)), (nar .byte (10 : Int32)), (nar .byte (10 : Int32)), (nar .byte (10 : Int32)), (nar .byte (10 : Int32))])) hZ (hw _ (List.mem_of_getElem? (i := 25) rfl)) (hw _ (List.mem_of_getElem? (i := 2) rfl)) (by decide) (by decide)) q168a q168c (g := (mkF m 131 #[.val (.ref a1), .val (.int p2), .val (.int p3), .val (.int p4), .val (.int p5), .val (.int (p2 &&& (3 : Int32))), .val (.int ((p2 >>> ((2 : Int32) &&& 31)).toInt8.toInt32)), .val (.int (10 : Int32)), .val (.int (13 : Int32)), .val (.int (10 : Int32)), .val (.int (10 : Int32)), .val (.int (10 : Int32)), .val (.int (1 : Int32)), .val (.ref b161), .val (.int sv), .unset, .unset] [(.int ((1 : Int32) + sv)), (.int (1 : Int32)), (.ref b161), (.ref a1)])) rfl (by rw [hml]; rfl) (Steps.refl _) (argsL := [(.ref b161), (.int (1 : Int32)), (.int ((1 : Int32) + sv))]) (rest := []) (lenOf pd_4_1 rfl) rfl (by show 2 * 0 + _ ≤ _; exact Nat.le_of_eq rfl) (hb hby d4_131) (fun _ _ => ⟨rfl, e167, (by decide : 1 + 0 ≤ _), (by decide : 5 + 0 ≤ _)⟩)
    dsimp only [Pt.U, Pt.locs, Pt.cells, Pt.slots] at X168 l168 y168 z168 st168 hQ168
    subst l168 y168 z168
    obtain ⟨w1168, w2168, w3168, w4168, w5168, rfl, N168q, K168, u168_1, u168_2, u168_3, u168_4, u168_5, u168_6⟩ := hQ168
    have N168 := Fr.app N167 N168q
    have c168_0 := c166_0.keep K168
    have c168_1 := c166_6.keep K168
    have c168_2 := VV166.keep K168 (ninS (Ne.symm (Nat.ne_of_lt lt161_a1_b161)) nin0)
    have KK168 : Keep h0 T168.heap [a1] := KK166.trans K168 (allS (P := fun x => x ∈ [a1] ∨ h0.size ≤ x) (Or.inl (List.mem_of_getElem? (i := 0) rfl)) all0)
    have ZN168 : n0 ≤ T168.heap.size := Nat.le_trans ZN166 K168.1
    refine goT st168 ?_
    show Go _ p e below s _ _ _ (T168.setTop (mkF m 134 #[.val (.ref a1), .val (.int p2), .val (.int p3), .val (.int p4), .val (.int p5), .val (.int (p2 &&& (3 : Int32))), .val (.int ((p2 >>> ((2 : Int32) &&& 31)).toInt8.toInt32)), .val (.int (10 : Int32)), .val (.int (13 : Int32)), .val (.int (10 : Int32)), .val (.int (10 : Int32)), .val (.int (10 : Int32)), .val (.int (1 : Int32)), .val (.ref b161), .val (.int sv), .unset, .unset] [(.int (nar .boolean w5168))]))
    refine go (fun _ => XS.istore X168.here hx rfl (hb hby d4_134) rfl (l' := #[.val (.ref a1), .val (.int p2), .val (.int p3), .val (.int p4), .val (.int p5), .val (.int (p2 &&& (3 : Int32))), .val (.int ((p2 >>> ((2 : Int32) &&& 31)).toInt8.toInt32)), .val (.int (10 : Int32)), .val (.int (13 : Int32)), .val (.int (10 : Int32)), .val (.int (10 : Int32)), .val (.int (10 : Int32)), .val (.int (1 : Int32)), .val (.ref b161), .val (.int sv), .val (.int (nar .boolean w5168)), .unset]) rfl) ?_
    show Go _ p e below s _ _ _ (T168.setTop (mkF m 136 #[.val (.ref a1), .val (.int p2), .val (.int p3), .val (.int p4), .val (.int p5), .val (.int (p2 &&& (3 : Int32))), .val (.int ((p2 >>> ((2 : Int32) &&& 31)).toInt8.toInt32)), .val (.int (10 : Int32)), .val (.int (13 : Int32)), .val (.int (10 : Int32)), .val (.int (10 : Int32)), .val (.int (10 : Int32)), .val (.int (1 : Int32)), .val (.ref b161), .val (.int sv), .val (.int (nar .boolean w5168)), .unset] []))
    refine go (fun _ => XS.aloadN X168.here hx rfl (hb hby d4_136) rfl rfl) ?_
    show Go _ p e below s _ _ _ (T168.setTop (mkF m 137 #[.val (.ref a1), .val (.int p2), .val (.int p3), .val (.int p4), .val (.int p5), .val (.int (p2 &&& (3 : Int32))), .val (.int ((p2 >>> ((2 : Int32) &&& 31)).toInt8.toInt32)), .val (.int (10 : Int32)), .val (.int (13 : Int32)), .val (.int (10 : Int32)), .val (.int (10 : Int32)), .val (.int (10 : Int32)), .val (.int (1 : Int32)), .val (.ref b161), .val (.int sv), .val (.int (nar .boolean w5168)), .unset] [(.ref a1)]))
    refine go (fun _ => XS.aload X168.here hx rfl (hb hby d4_137) rfl rfl) ?_
    show Go _ p e below s _ _ _ (T168.setTop (mkF m 139 #[.val (.ref a1), .val (.int p2), .val (.int p3), .val (.int p4), .val (.int p5), .val (.int (p2 &&& (3 : Int32))), .val (.int ((p2 >>> ((2 : Int32) &&& 31)).toInt8.toInt32)), .val (.int (10 : Int32)), .val (.int (13 : Int32)), .val (.int (10 : Int32)), .val (.int (10 : Int32)), .val (.int (10 : Int32)), .val (.int (1 : Int32)), .val (.ref b161), .val (.int sv), .val (.int (nar .boolean w5168)), .unset] [(.ref b161), (.ref a1)]))
    refine go (fun _ => XS.iconst X168.here hx rfl (hb hby d4_139)) ?_
    show Go _ p e below s _ _ _ (T168.setTop (mkF m 140 #[.val (.ref a1), .val (.int p2), .val (.int p3), .val (.int p4), .val (.int p5), .val (.int (p2 &&& (3 : Int32))), .val (.int ((p2 >>> ((2 : Int32) &&& 31)).toInt8.toInt32)), .val (.int (10 : Int32)), .val (.int (13 : Int32)), .val (.int (10 : Int32)), .val (.int (10 : Int32)), .val (.int (10 : Int32)), .val (.int (1 : Int32)), .val (.ref b161), .val (.int sv), .val (.int (nar .boolean w5168)), .unset] [(.int (1 : Int32)), (.ref b161), (.ref a1)]))
    refine go (fun _ => XS.iload X168.here hx rfl (hb hby d4_140) rfl) ?_
    show Go _ p e below s _ _ _ (T168.setTop (mkF m 142 #[.val (.ref a1), .val (.int p2), .val (.int p3), .val (.int p4), .val (.int p5), .val (.int (p2 &&& (3 : Int32))), .val (.int ((p2 >>> ((2 : Int32) &&& 31)).toInt8.toInt32)), .val (.int (10 : Int32)), .val (.int (13 : Int32)), .val (.int (10 : Int32)), .val (.int (10 : Int32)), .val (.int (10 : Int32)), .val (.int (1 : Int32)), .val (.ref b161), .val (.int sv), .val (.int (nar .boolean w5168)), .unset] [(.int sv), (.int (1 : Int32)), (.ref b161), (.ref a1)]))
    refine go (fun _ => XS.iadd X168.here hx rfl (hb hby d4_142) rfl) ?_
    show Go _ p e below s _ _ _ (T168.setTop (mkF m 143 #[.val (.ref a1), .val (.int p2), .val (.int p3), .val (.int p4), .val (.int p5), .val (.int (p2 &&& (3 : Int32))), .val (.int ((p2 >>> ((2 : Int32) &&& 31)).toInt8.toInt32)), .val (.int (10 : Int32)), .val (.int (13 : Int32)), .val (.int (10 : Int32)), .val (.int (10 : Int32)), .val (.int (10 : Int32)), .val (.int (1 : Int32)), .val (.ref b161), .val (.int sv), .val (.int (nar .boolean w5168)), .unset] [(.int ((1 : Int32) + sv)), (.ref b161), (.ref a1)]))
    refine go (fun _ => XS.iconst X168.here hx rfl (hb hby d4_143)) ?_
    show Go _ p e below s _ _ _ (T168.setTop (mkF m 144 #[.val (.ref a1), .val (.int p2), .val (.int p3), .val (.int p4), .val (.int p5), .val (.int (p2 &&& (3 : Int32))), .val (.int ((p2 >>> ((2 : Int32) &&& 31)).toInt8.toInt32)), .val (.int (10 : Int32)), .val (.int (13 : Int32)), .val (.int (10 : Int32)), .val (.int (10 : Int32)), .val (.int (10 : Int32)), .val (.int (1 : Int32)), .val (.ref b161), .val (.int sv), .val (.int (nar .boolean w5168)), .unset] [(.int (1 : Int32)), (.int ((1 : Int32) + sv)), (.ref b161), (.ref a1)]))
    refine go (fun _ => XS.iload X168.here hx rfl (hb hby d4_144) rfl) ?_
    show Go _ p e below s _ _ _ (T168.setTop (mkF m 146 #[.val (.ref a1), .val (.int p2), .val (.int p3), .val (.int p4), .val (.int p5), .val (.int (p2 &&& (3 : Int32))), .val (.int ((p2 >>> ((2 : Int32) &&& 31)).toInt8.toInt32)), .val (.int (10 : Int32)), .val (.int (13 : Int32)), .val (.int (10 : Int32)), .val (.int (10 : Int32)), .val (.int (10 : Int32)), .val (.int (1 : Int32)), .val (.ref b161), .val (.int sv), .val (.int (nar .boolean w5168)), .unset] [(.int (1 : Int32)), (.int (1 : Int32)), (.int ((1 : Int32) + sv)), (.ref b161), (.ref a1)]))
    refine go (fun _ => XS.iadd X168.here hx rfl (hb hby d4_146) rfl) ?_
    show Go _ p e below s _ _ _ (T168.setTop (mkF m 147 #[.val (.ref a1), .val (.int p2), .val (.int p3), .val (.int p4), .val (.int p5), .val (.int (p2 &&& (3 : Int32))), .val (.int ((p2 >>> ((2 : Int32) &&& 31)).toInt8.toInt32)), .val (.int (10 : Int32)), .val (.int (13 : Int32)), .val (.int (10 : Int32)), .val (.int (10 : Int32)), .val (.int (10 : Int32)), .val (.int (1 : Int32)), .val (.ref b161), .val (.int sv), .val (.int (nar .boolean w5168)), .unset] [(.int (2 : Int32)), (.int ((1 : Int32) + sv)), (.ref b161), (.ref a1)]))
    obtain ⟨cq169, kq169, q169a, q169b, q169c⟩ := isOf hZ rfl c168_0
    obtain ⟨_, _, ⟨T169, L169, k169, n169⟩, -, X169, ⟨Lc169, hQ169, l169, y169, z169⟩, st169⟩ := X168.virtualBack hx (y := (⟨"com/example/dosisbog/dosisbog/HttpRequest$HeadEnd", "whole", "([BII)Z"⟩ : MethodName)) (z := (⟨"com/example/dosisbog/dosisbog/HttpRequest$HeadEnd", "whole", "([BII)Z"⟩ : MethodName)) hown (mvT hZ (hw _ (List.mem_of_getElem? (i := 21) rfl))) (mvT hZ (hw _ (List.mem_of_getElem? (i := 22) rfl))) (notFace_of_selects (args := #[]) (mvT hZ (hw _ (List.mem_of_getElem? (i := 24) rfl)))) (mvT hZ (hw _ (List.mem_of_getElem? (i := 24) rfl))) (mvT hZ (hw _ (List.mem_of_getElem? (i := 23) rfl))) (by decide) (backOf (W := 0) (rm6 l Z a0 hw [] a1 b161 ((1 : Int32) + sv) (2 : Int32) k161 (5 : Int32) [(.int (nar .byte (10 : Int32))), (.int (nar .byte (10 : Int32))), (.int (nar .byte (10 : Int32))), (.int (nar .byte (10 : Int32))), (.int (nar .byte (10 : Int32)))] (.int (0 : Int32)) (fun j => [(nar .byte (10 : Int32)), (nar .byte (10 : Int32)), (nar .byte (10 : Int32)), (nar .byte (10 : Int32)), (nar .byte (10 : Int32))].getD j 0) (1 - spl) (1 + spl) w1168 w2168 w3168 w4168 w5168 (T168.heap) n0 ZN168 c168_0 P1 c168_2 (Nat.ne_of_lt lt161_a1_b161) u168_1 u168_2 u168_3 u168_4 u168_5 (own_1p hs (by omega)) (by have : ((2 : Int32)).toInt = 2 := (by decide); omega) (by have : (5 : Int32).toInt = 5 := (by decide); omega) (own_getD [(nar .byte (10 : Int32)), (nar .byte (10 : Int32)), (nar .byte (10 : Int32)), (nar .byte (10 : Int32)), (nar .byte (10 : Int32))])) hZ (hw _ (List.mem_of_getElem? (i := 25) rfl)) (hw _ (List.mem_of_getElem? (i := 2) rfl)) (by decide) (by decide)) q169a q169c (g := (mkF m 147 #[.val (.ref a1), .val (.int p2), .val (.int p3), .val (.int p4), .val (.int p5), .val (.int (p2 &&& (3 : Int32))), .val (.int ((p2 >>> ((2 : Int32) &&& 31)).toInt8.toInt32)), .val (.int (10 : Int32)), .val (.int (13 : Int32)), .val (.int (10 : Int32)), .val (.int (10 : Int32)), .val (.int (10 : Int32)), .val (.int (1 : Int32)), .val (.ref b161), .val (.int sv), .val (.int (nar .boolean w5168)), .unset] [(.int (2 : Int32)), (.int ((1 : Int32) + sv)), (.ref b161), (.ref a1)])) rfl (by rw [hml]; rfl) (Steps.refl _) (argsL := [(.ref b161), (.int ((1 : Int32) + sv)), (.int (2 : Int32))]) (rest := []) (lenOf pd_4_1 rfl) rfl (by show 2 * 0 + _ ≤ _; exact Nat.le_of_eq rfl) (hb hby d4_147) (fun _ _ => ⟨rfl, rfl, (by decide : 1 + 0 ≤ _), (by decide : 5 + 0 ≤ _)⟩)
    dsimp only [Pt.U, Pt.locs, Pt.cells, Pt.slots] at X169 l169 y169 z169 st169 hQ169
    subst l169 y169 z169
    obtain ⟨w1169, w2169, w3169, w4169, w5169, rfl, N169q, K169, u169_1, u169_2, u169_3, u169_4, u169_5, u169_6⟩ := hQ169
    have N169 := Fr.app N168 N169q
    have c169_0 := c168_0.keep K169
    have c169_1 := c168_1.keep K169
    have c169_2 := c168_2.keep K169 (ninS (Ne.symm (Nat.ne_of_lt lt161_a1_b161)) nin0)
    have KK169 : Keep h0 T169.heap [a1] := KK168.trans K169 (allS (P := fun x => x ∈ [a1] ∨ h0.size ≤ x) (Or.inl (List.mem_of_getElem? (i := 0) rfl)) all0)
    have ZN169 : n0 ≤ T169.heap.size := Nat.le_trans ZN168 K169.1
    refine goT st169 ?_
    show Go _ p e below s _ _ _ (T169.setTop (mkF m 150 #[.val (.ref a1), .val (.int p2), .val (.int p3), .val (.int p4), .val (.int p5), .val (.int (p2 &&& (3 : Int32))), .val (.int ((p2 >>> ((2 : Int32) &&& 31)).toInt8.toInt32)), .val (.int (10 : Int32)), .val (.int (13 : Int32)), .val (.int (10 : Int32)), .val (.int (10 : Int32)), .val (.int (10 : Int32)), .val (.int (1 : Int32)), .val (.ref b161), .val (.int sv), .val (.int (nar .boolean w5168)), .unset] [(.int (nar .boolean w5169))]))
    refine go (fun _ => XS.istore X169.here hx rfl (hb hby d4_150) rfl (l' := #[.val (.ref a1), .val (.int p2), .val (.int p3), .val (.int p4), .val (.int p5), .val (.int (p2 &&& (3 : Int32))), .val (.int ((p2 >>> ((2 : Int32) &&& 31)).toInt8.toInt32)), .val (.int (10 : Int32)), .val (.int (13 : Int32)), .val (.int (10 : Int32)), .val (.int (10 : Int32)), .val (.int (10 : Int32)), .val (.int (1 : Int32)), .val (.ref b161), .val (.int sv), .val (.int (nar .boolean w5168)), .val (.int (nar .boolean w5169))]) rfl) ?_
    show Go _ p e below s _ _ _ (T169.setTop (mkF m 152 #[.val (.ref a1), .val (.int p2), .val (.int p3), .val (.int p4), .val (.int p5), .val (.int (p2 &&& (3 : Int32))), .val (.int ((p2 >>> ((2 : Int32) &&& 31)).toInt8.toInt32)), .val (.int (10 : Int32)), .val (.int (13 : Int32)), .val (.int (10 : Int32)), .val (.int (10 : Int32)), .val (.int (10 : Int32)), .val (.int (1 : Int32)), .val (.ref b161), .val (.int sv), .val (.int (nar .boolean w5168)), .val (.int (nar .boolean w5169))] []))
    have hline : ∀ x1 x3 : Int32, 0 ≤ x1.toInt → x1.toInt ≤ N → (rq = 0 ∨ rq = 1) → own_inv (own_run (fun j => [(nar .byte (10 : Int32)), (nar .byte (10 : Int32)), (nar .byte (10 : Int32)), (nar .byte (10 : Int32)), (nar .byte (10 : Int32))].getD j 0) 1 1 (x1, 0, x3, rq, 0)) (own_rq rq (own_emp (p2 &&& (3 : Int32)) ((p2 >>> ((2 : Int32) &&& 31)) &&& (255 : Int32)))) (own_fd 0 (own_emp (p2 &&& (3 : Int32)) ((p2 >>> ((2 : Int32) &&& 31)) &&& (255 : Int32))) rq) (N + 3) := by
      intro x1 x3 g1 g2 g3
      rw [show (own_emp (p2 &&& (3 : Int32)) ((p2 >>> ((2 : Int32) &&& 31)) &&& (255 : Int32))) = 1 from by unfold own_emp; simp only [if_pos hc33_160]]
      exact own_line0 rfl g1 g2 (by omega) g3
    obtain ⟨f1, f2, f3, f4, f5⟩ := own_feed (g := (fun j => [(nar .byte (10 : Int32)), (nar .byte (10 : Int32)), (nar .byte (10 : Int32)), (nar .byte (10 : Int32)), (nar .byte (10 : Int32))].getD j 0)) hsl u168_6 u169_6 hin (own_e01 _ _) hline
    dsimp only at f2 f3 f4 f5
    refine go (fun _ => XS.iloadN X169.here hx rfl (hb hby d4_152) rfl) ?_
    show Go _ p e below s _ _ _ (T169.setTop (mkF m 153 #[.val (.ref a1), .val (.int p2), .val (.int p3), .val (.int p4), .val (.int p5), .val (.int (p2 &&& (3 : Int32))), .val (.int ((p2 >>> ((2 : Int32) &&& 31)).toInt8.toInt32)), .val (.int (10 : Int32)), .val (.int (13 : Int32)), .val (.int (10 : Int32)), .val (.int (10 : Int32)), .val (.int (10 : Int32)), .val (.int (1 : Int32)), .val (.ref b161), .val (.int sv), .val (.int (nar .boolean w5168)), .val (.int (nar .boolean w5169))] [(.int p4)]))
    by_cases hc153_170 : p4 = (0 : Int32)
    · refine go (fun _ => XS.ifYes X169.here hx rfl (pc0 := 153) (pc' := 161) rfl (hb hby d4_153) rfl ((if0 _ _).trans (teq hc153_170).1) (by decide) (by decide)) ?_
      show Go _ p e below s _ _ _ (T169.setTop (mkF m 161 #[.val (.ref a1), .val (.int p2), .val (.int p3), .val (.int p4), .val (.int p5), .val (.int (p2 &&& (3 : Int32))), .val (.int ((p2 >>> ((2 : Int32) &&& 31)).toInt8.toInt32)), .val (.int (10 : Int32)), .val (.int (13 : Int32)), .val (.int (10 : Int32)), .val (.int (10 : Int32)), .val (.int (10 : Int32)), .val (.int (1 : Int32)), .val (.ref b161), .val (.int sv), .val (.int (nar .boolean w5168)), .val (.int (nar .boolean w5169))] []))
      refine go (fun _ => XS.iload X169.here hx rfl (hb hby d4_161) rfl) ?_
      show Go _ p e below s _ _ _ (T169.setTop (mkF m 163 #[.val (.ref a1), .val (.int p2), .val (.int p3), .val (.int p4), .val (.int p5), .val (.int (p2 &&& (3 : Int32))), .val (.int ((p2 >>> ((2 : Int32) &&& 31)).toInt8.toInt32)), .val (.int (10 : Int32)), .val (.int (13 : Int32)), .val (.int (10 : Int32)), .val (.int (10 : Int32)), .val (.int (10 : Int32)), .val (.int (1 : Int32)), .val (.ref b161), .val (.int sv), .val (.int (nar .boolean w5168)), .val (.int (nar .boolean w5169))] [(.int (nar .boolean w5168))]))
      by_cases hc163_171 : (nar .boolean w5168) = (0 : Int32)
      · refine go (fun _ => XS.ifYes X169.here hx rfl (pc0 := 163) (pc' := 171) rfl (hb hby d4_163) rfl ((if0 _ _).trans (teq hc163_171).1) (by decide) (by decide)) ?_
        show Go _ p e below s _ _ _ (T169.setTop (mkF m 171 #[.val (.ref a1), .val (.int p2), .val (.int p3), .val (.int p4), .val (.int p5), .val (.int (p2 &&& (3 : Int32))), .val (.int ((p2 >>> ((2 : Int32) &&& 31)).toInt8.toInt32)), .val (.int (10 : Int32)), .val (.int (13 : Int32)), .val (.int (10 : Int32)), .val (.int (10 : Int32)), .val (.int (10 : Int32)), .val (.int (1 : Int32)), .val (.ref b161), .val (.int sv), .val (.int (nar .boolean w5168)), .val (.int (nar .boolean w5169))] []))
        refine go (fun _ => XS.iload X169.here hx rfl (hb hby d4_171) rfl) ?_
        show Go _ p e below s _ _ _ (T169.setTop (mkF m 173 #[.val (.ref a1), .val (.int p2), .val (.int p3), .val (.int p4), .val (.int p5), .val (.int (p2 &&& (3 : Int32))), .val (.int ((p2 >>> ((2 : Int32) &&& 31)).toInt8.toInt32)), .val (.int (10 : Int32)), .val (.int (13 : Int32)), .val (.int (10 : Int32)), .val (.int (10 : Int32)), .val (.int (10 : Int32)), .val (.int (1 : Int32)), .val (.ref b161), .val (.int sv), .val (.int (nar .boolean w5168)), .val (.int (nar .boolean w5169))] [(.int (nar .boolean w5169))]))
        refine go (fun _ => XS.iload X169.here hx rfl (hb hby d4_173) rfl) ?_
        show Go _ p e below s _ _ _ (T169.setTop (mkF m 175 #[.val (.ref a1), .val (.int p2), .val (.int p3), .val (.int p4), .val (.int p5), .val (.int (p2 &&& (3 : Int32))), .val (.int ((p2 >>> ((2 : Int32) &&& 31)).toInt8.toInt32)), .val (.int (10 : Int32)), .val (.int (13 : Int32)), .val (.int (10 : Int32)), .val (.int (10 : Int32)), .val (.int (10 : Int32)), .val (.int (1 : Int32)), .val (.ref b161), .val (.int sv), .val (.int (nar .boolean w5168)), .val (.int (nar .boolean w5169))] [(.int p5), (.int (nar .boolean w5169))]))
        refine go (fun _ => XS.icmpNo X169.here hx rfl (hb hby d4_175) rfl (teq (by rw [h5, ← f4]; exact own_nb (by rw [f4]; exact f1.2.1))).2) ?_
        show Go _ p e below s _ _ _ (T169.setTop (mkF m 178 #[.val (.ref a1), .val (.int p2), .val (.int p3), .val (.int p4), .val (.int p5), .val (.int (p2 &&& (3 : Int32))), .val (.int ((p2 >>> ((2 : Int32) &&& 31)).toInt8.toInt32)), .val (.int (10 : Int32)), .val (.int (13 : Int32)), .val (.int (10 : Int32)), .val (.int (10 : Int32)), .val (.int (10 : Int32)), .val (.int (1 : Int32)), .val (.ref b161), .val (.int sv), .val (.int (nar .boolean w5168)), .val (.int (nar .boolean w5169))] []))
        refine go (fun _ => XS.iconst X169.here hx rfl (hb hby d4_178)) ?_
        show Go _ p e below s _ _ _ (T169.setTop (mkF m 179 #[.val (.ref a1), .val (.int p2), .val (.int p3), .val (.int p4), .val (.int p5), .val (.int (p2 &&& (3 : Int32))), .val (.int ((p2 >>> ((2 : Int32) &&& 31)).toInt8.toInt32)), .val (.int (10 : Int32)), .val (.int (13 : Int32)), .val (.int (10 : Int32)), .val (.int (10 : Int32)), .val (.int (10 : Int32)), .val (.int (1 : Int32)), .val (.ref b161), .val (.int sv), .val (.int (nar .boolean w5168)), .val (.int (nar .boolean w5169))] [(.int (1 : Int32))]))
        refine go (fun _ => XS.goto X169.here hx rfl (pc0 := 179) (pc' := 183) rfl (hb hby d4_179) (by decide) (by decide)) ?_
        show Go _ p e below s _ _ _ (T169.setTop (mkF m 183 #[.val (.ref a1), .val (.int p2), .val (.int p3), .val (.int p4), .val (.int p5), .val (.int (p2 &&& (3 : Int32))), .val (.int ((p2 >>> ((2 : Int32) &&& 31)).toInt8.toInt32)), .val (.int (10 : Int32)), .val (.int (13 : Int32)), .val (.int (10 : Int32)), .val (.int (10 : Int32)), .val (.int (10 : Int32)), .val (.int (1 : Int32)), .val (.ref b161), .val (.int sv), .val (.int (nar .boolean w5168)), .val (.int (nar .boolean w5169))] [(.int (1 : Int32))]))
        refine goRet X169 hx Bd.notSynchronized Bd.returns rfl (Or.inl ⟨rfl, Or.inr (Or.inl rfl), _, rfl⟩) (hb hby d4_183) (by decide) (by decide) (by refine ⟨w1169, w2169, w3169, w4169, w5169, rfl, N169, KK169, u169_1, u169_2, u169_3, u169_4, u169_5, f1⟩)
      · refine go (fun _ => XS.ifNo X169.here hx rfl (hb hby d4_163) rfl ((if0 _ _).trans (feq hc163_171).1)) ?_
        show Go _ p e below s _ _ _ (T169.setTop (mkF m 166 #[.val (.ref a1), .val (.int p2), .val (.int p3), .val (.int p4), .val (.int p5), .val (.int (p2 &&& (3 : Int32))), .val (.int ((p2 >>> ((2 : Int32) &&& 31)).toInt8.toInt32)), .val (.int (10 : Int32)), .val (.int (13 : Int32)), .val (.int (10 : Int32)), .val (.int (10 : Int32)), .val (.int (10 : Int32)), .val (.int (1 : Int32)), .val (.ref b161), .val (.int sv), .val (.int (nar .boolean w5168)), .val (.int (nar .boolean w5169))] []))
        refine go (fun _ => XS.iload X169.here hx rfl (hb hby d4_166) rfl) ?_
        show Go _ p e below s _ _ _ (T169.setTop (mkF m 168 #[.val (.ref a1), .val (.int p2), .val (.int p3), .val (.int p4), .val (.int p5), .val (.int (p2 &&& (3 : Int32))), .val (.int ((p2 >>> ((2 : Int32) &&& 31)).toInt8.toInt32)), .val (.int (10 : Int32)), .val (.int (13 : Int32)), .val (.int (10 : Int32)), .val (.int (10 : Int32)), .val (.int (10 : Int32)), .val (.int (1 : Int32)), .val (.ref b161), .val (.int sv), .val (.int (nar .boolean w5168)), .val (.int (nar .boolean w5169))] [(.int p5)]))
        refine go (fun _ => XS.ifNo X169.here hx rfl (hb hby d4_168) rfl ((if0 _ _).trans (feq (fun u => by rw [h5, f3 (fun v => hc163_171 (by rw [own_nb f5]; exact v))] at u; exact absurd u (by decide))).1)) ?_
        show Go _ p e below s _ _ _ (T169.setTop (mkF m 171 #[.val (.ref a1), .val (.int p2), .val (.int p3), .val (.int p4), .val (.int p5), .val (.int (p2 &&& (3 : Int32))), .val (.int ((p2 >>> ((2 : Int32) &&& 31)).toInt8.toInt32)), .val (.int (10 : Int32)), .val (.int (13 : Int32)), .val (.int (10 : Int32)), .val (.int (10 : Int32)), .val (.int (10 : Int32)), .val (.int (1 : Int32)), .val (.ref b161), .val (.int sv), .val (.int (nar .boolean w5168)), .val (.int (nar .boolean w5169))] []))
        refine go (fun _ => XS.iload X169.here hx rfl (hb hby d4_171) rfl) ?_
        show Go _ p e below s _ _ _ (T169.setTop (mkF m 173 #[.val (.ref a1), .val (.int p2), .val (.int p3), .val (.int p4), .val (.int p5), .val (.int (p2 &&& (3 : Int32))), .val (.int ((p2 >>> ((2 : Int32) &&& 31)).toInt8.toInt32)), .val (.int (10 : Int32)), .val (.int (13 : Int32)), .val (.int (10 : Int32)), .val (.int (10 : Int32)), .val (.int (10 : Int32)), .val (.int (1 : Int32)), .val (.ref b161), .val (.int sv), .val (.int (nar .boolean w5168)), .val (.int (nar .boolean w5169))] [(.int (nar .boolean w5169))]))
        refine go (fun _ => XS.iload X169.here hx rfl (hb hby d4_173) rfl) ?_
        show Go _ p e below s _ _ _ (T169.setTop (mkF m 175 #[.val (.ref a1), .val (.int p2), .val (.int p3), .val (.int p4), .val (.int p5), .val (.int (p2 &&& (3 : Int32))), .val (.int ((p2 >>> ((2 : Int32) &&& 31)).toInt8.toInt32)), .val (.int (10 : Int32)), .val (.int (13 : Int32)), .val (.int (10 : Int32)), .val (.int (10 : Int32)), .val (.int (10 : Int32)), .val (.int (1 : Int32)), .val (.ref b161), .val (.int sv), .val (.int (nar .boolean w5168)), .val (.int (nar .boolean w5169))] [(.int p5), (.int (nar .boolean w5169))]))
        refine go (fun _ => XS.icmpNo X169.here hx rfl (hb hby d4_175) rfl (teq (by rw [h5, ← f4]; exact own_nb (by rw [f4]; exact f1.2.1))).2) ?_
        show Go _ p e below s _ _ _ (T169.setTop (mkF m 178 #[.val (.ref a1), .val (.int p2), .val (.int p3), .val (.int p4), .val (.int p5), .val (.int (p2 &&& (3 : Int32))), .val (.int ((p2 >>> ((2 : Int32) &&& 31)).toInt8.toInt32)), .val (.int (10 : Int32)), .val (.int (13 : Int32)), .val (.int (10 : Int32)), .val (.int (10 : Int32)), .val (.int (10 : Int32)), .val (.int (1 : Int32)), .val (.ref b161), .val (.int sv), .val (.int (nar .boolean w5168)), .val (.int (nar .boolean w5169))] []))
        refine go (fun _ => XS.iconst X169.here hx rfl (hb hby d4_178)) ?_
        show Go _ p e below s _ _ _ (T169.setTop (mkF m 179 #[.val (.ref a1), .val (.int p2), .val (.int p3), .val (.int p4), .val (.int p5), .val (.int (p2 &&& (3 : Int32))), .val (.int ((p2 >>> ((2 : Int32) &&& 31)).toInt8.toInt32)), .val (.int (10 : Int32)), .val (.int (13 : Int32)), .val (.int (10 : Int32)), .val (.int (10 : Int32)), .val (.int (10 : Int32)), .val (.int (1 : Int32)), .val (.ref b161), .val (.int sv), .val (.int (nar .boolean w5168)), .val (.int (nar .boolean w5169))] [(.int (1 : Int32))]))
        refine go (fun _ => XS.goto X169.here hx rfl (pc0 := 179) (pc' := 183) rfl (hb hby d4_179) (by decide) (by decide)) ?_
        show Go _ p e below s _ _ _ (T169.setTop (mkF m 183 #[.val (.ref a1), .val (.int p2), .val (.int p3), .val (.int p4), .val (.int p5), .val (.int (p2 &&& (3 : Int32))), .val (.int ((p2 >>> ((2 : Int32) &&& 31)).toInt8.toInt32)), .val (.int (10 : Int32)), .val (.int (13 : Int32)), .val (.int (10 : Int32)), .val (.int (10 : Int32)), .val (.int (10 : Int32)), .val (.int (1 : Int32)), .val (.ref b161), .val (.int sv), .val (.int (nar .boolean w5168)), .val (.int (nar .boolean w5169))] [(.int (1 : Int32))]))
        refine goRet X169 hx Bd.notSynchronized Bd.returns rfl (Or.inl ⟨rfl, Or.inr (Or.inl rfl), _, rfl⟩) (hb hby d4_183) (by decide) (by decide) (by refine ⟨w1169, w2169, w3169, w4169, w5169, rfl, N169, KK169, u169_1, u169_2, u169_3, u169_4, u169_5, f1⟩)
    · refine go (fun _ => XS.ifNo X169.here hx rfl (hb hby d4_153) rfl ((if0 _ _).trans (feq hc153_170).1)) ?_
      show Go _ p e below s _ _ _ (T169.setTop (mkF m 156 #[.val (.ref a1), .val (.int p2), .val (.int p3), .val (.int p4), .val (.int p5), .val (.int (p2 &&& (3 : Int32))), .val (.int ((p2 >>> ((2 : Int32) &&& 31)).toInt8.toInt32)), .val (.int (10 : Int32)), .val (.int (13 : Int32)), .val (.int (10 : Int32)), .val (.int (10 : Int32)), .val (.int (10 : Int32)), .val (.int (1 : Int32)), .val (.ref b161), .val (.int sv), .val (.int (nar .boolean w5168)), .val (.int (nar .boolean w5169))] []))
      refine go (fun _ => XS.iload X169.here hx rfl (hb hby d4_156) rfl) ?_
      show Go _ p e below s _ _ _ (T169.setTop (mkF m 158 #[.val (.ref a1), .val (.int p2), .val (.int p3), .val (.int p4), .val (.int p5), .val (.int (p2 &&& (3 : Int32))), .val (.int ((p2 >>> ((2 : Int32) &&& 31)).toInt8.toInt32)), .val (.int (10 : Int32)), .val (.int (13 : Int32)), .val (.int (10 : Int32)), .val (.int (10 : Int32)), .val (.int (10 : Int32)), .val (.int (1 : Int32)), .val (.ref b161), .val (.int sv), .val (.int (nar .boolean w5168)), .val (.int (nar .boolean w5169))] [(.int (nar .boolean w5168))]))
      refine go (fun _ => XS.ifNo X169.here hx rfl (hb hby d4_158) rfl ((if0 _ _).trans (feq (fun u => by rw [own_nb f5, f2 (fun v => hc153_170 (h4.trans v))] at u; exact absurd u (by decide))).1)) ?_
      show Go _ p e below s _ _ _ (T169.setTop (mkF m 161 #[.val (.ref a1), .val (.int p2), .val (.int p3), .val (.int p4), .val (.int p5), .val (.int (p2 &&& (3 : Int32))), .val (.int ((p2 >>> ((2 : Int32) &&& 31)).toInt8.toInt32)), .val (.int (10 : Int32)), .val (.int (13 : Int32)), .val (.int (10 : Int32)), .val (.int (10 : Int32)), .val (.int (10 : Int32)), .val (.int (1 : Int32)), .val (.ref b161), .val (.int sv), .val (.int (nar .boolean w5168)), .val (.int (nar .boolean w5169))] []))
      refine go (fun _ => XS.iload X169.here hx rfl (hb hby d4_161) rfl) ?_
      show Go _ p e below s _ _ _ (T169.setTop (mkF m 163 #[.val (.ref a1), .val (.int p2), .val (.int p3), .val (.int p4), .val (.int p5), .val (.int (p2 &&& (3 : Int32))), .val (.int ((p2 >>> ((2 : Int32) &&& 31)).toInt8.toInt32)), .val (.int (10 : Int32)), .val (.int (13 : Int32)), .val (.int (10 : Int32)), .val (.int (10 : Int32)), .val (.int (10 : Int32)), .val (.int (1 : Int32)), .val (.ref b161), .val (.int sv), .val (.int (nar .boolean w5168)), .val (.int (nar .boolean w5169))] [(.int (nar .boolean w5168))]))
      by_cases hc163_172 : (nar .boolean w5168) = (0 : Int32)
      · refine go (fun _ => XS.ifYes X169.here hx rfl (pc0 := 163) (pc' := 171) rfl (hb hby d4_163) rfl ((if0 _ _).trans (teq hc163_172).1) (by decide) (by decide)) ?_
        show Go _ p e below s _ _ _ (T169.setTop (mkF m 171 #[.val (.ref a1), .val (.int p2), .val (.int p3), .val (.int p4), .val (.int p5), .val (.int (p2 &&& (3 : Int32))), .val (.int ((p2 >>> ((2 : Int32) &&& 31)).toInt8.toInt32)), .val (.int (10 : Int32)), .val (.int (13 : Int32)), .val (.int (10 : Int32)), .val (.int (10 : Int32)), .val (.int (10 : Int32)), .val (.int (1 : Int32)), .val (.ref b161), .val (.int sv), .val (.int (nar .boolean w5168)), .val (.int (nar .boolean w5169))] []))
        refine go (fun _ => XS.iload X169.here hx rfl (hb hby d4_171) rfl) ?_
        show Go _ p e below s _ _ _ (T169.setTop (mkF m 173 #[.val (.ref a1), .val (.int p2), .val (.int p3), .val (.int p4), .val (.int p5), .val (.int (p2 &&& (3 : Int32))), .val (.int ((p2 >>> ((2 : Int32) &&& 31)).toInt8.toInt32)), .val (.int (10 : Int32)), .val (.int (13 : Int32)), .val (.int (10 : Int32)), .val (.int (10 : Int32)), .val (.int (10 : Int32)), .val (.int (1 : Int32)), .val (.ref b161), .val (.int sv), .val (.int (nar .boolean w5168)), .val (.int (nar .boolean w5169))] [(.int (nar .boolean w5169))]))
        refine go (fun _ => XS.iload X169.here hx rfl (hb hby d4_173) rfl) ?_
        show Go _ p e below s _ _ _ (T169.setTop (mkF m 175 #[.val (.ref a1), .val (.int p2), .val (.int p3), .val (.int p4), .val (.int p5), .val (.int (p2 &&& (3 : Int32))), .val (.int ((p2 >>> ((2 : Int32) &&& 31)).toInt8.toInt32)), .val (.int (10 : Int32)), .val (.int (13 : Int32)), .val (.int (10 : Int32)), .val (.int (10 : Int32)), .val (.int (10 : Int32)), .val (.int (1 : Int32)), .val (.ref b161), .val (.int sv), .val (.int (nar .boolean w5168)), .val (.int (nar .boolean w5169))] [(.int p5), (.int (nar .boolean w5169))]))
        refine go (fun _ => XS.icmpNo X169.here hx rfl (hb hby d4_175) rfl (teq (by rw [h5, ← f4]; exact own_nb (by rw [f4]; exact f1.2.1))).2) ?_
        show Go _ p e below s _ _ _ (T169.setTop (mkF m 178 #[.val (.ref a1), .val (.int p2), .val (.int p3), .val (.int p4), .val (.int p5), .val (.int (p2 &&& (3 : Int32))), .val (.int ((p2 >>> ((2 : Int32) &&& 31)).toInt8.toInt32)), .val (.int (10 : Int32)), .val (.int (13 : Int32)), .val (.int (10 : Int32)), .val (.int (10 : Int32)), .val (.int (10 : Int32)), .val (.int (1 : Int32)), .val (.ref b161), .val (.int sv), .val (.int (nar .boolean w5168)), .val (.int (nar .boolean w5169))] []))
        refine go (fun _ => XS.iconst X169.here hx rfl (hb hby d4_178)) ?_
        show Go _ p e below s _ _ _ (T169.setTop (mkF m 179 #[.val (.ref a1), .val (.int p2), .val (.int p3), .val (.int p4), .val (.int p5), .val (.int (p2 &&& (3 : Int32))), .val (.int ((p2 >>> ((2 : Int32) &&& 31)).toInt8.toInt32)), .val (.int (10 : Int32)), .val (.int (13 : Int32)), .val (.int (10 : Int32)), .val (.int (10 : Int32)), .val (.int (10 : Int32)), .val (.int (1 : Int32)), .val (.ref b161), .val (.int sv), .val (.int (nar .boolean w5168)), .val (.int (nar .boolean w5169))] [(.int (1 : Int32))]))
        refine go (fun _ => XS.goto X169.here hx rfl (pc0 := 179) (pc' := 183) rfl (hb hby d4_179) (by decide) (by decide)) ?_
        show Go _ p e below s _ _ _ (T169.setTop (mkF m 183 #[.val (.ref a1), .val (.int p2), .val (.int p3), .val (.int p4), .val (.int p5), .val (.int (p2 &&& (3 : Int32))), .val (.int ((p2 >>> ((2 : Int32) &&& 31)).toInt8.toInt32)), .val (.int (10 : Int32)), .val (.int (13 : Int32)), .val (.int (10 : Int32)), .val (.int (10 : Int32)), .val (.int (10 : Int32)), .val (.int (1 : Int32)), .val (.ref b161), .val (.int sv), .val (.int (nar .boolean w5168)), .val (.int (nar .boolean w5169))] [(.int (1 : Int32))]))
        refine goRet X169 hx Bd.notSynchronized Bd.returns rfl (Or.inl ⟨rfl, Or.inr (Or.inl rfl), _, rfl⟩) (hb hby d4_183) (by decide) (by decide) (by refine ⟨w1169, w2169, w3169, w4169, w5169, rfl, N169, KK169, u169_1, u169_2, u169_3, u169_4, u169_5, f1⟩)
      · refine go (fun _ => XS.ifNo X169.here hx rfl (hb hby d4_163) rfl ((if0 _ _).trans (feq hc163_172).1)) ?_
        show Go _ p e below s _ _ _ (T169.setTop (mkF m 166 #[.val (.ref a1), .val (.int p2), .val (.int p3), .val (.int p4), .val (.int p5), .val (.int (p2 &&& (3 : Int32))), .val (.int ((p2 >>> ((2 : Int32) &&& 31)).toInt8.toInt32)), .val (.int (10 : Int32)), .val (.int (13 : Int32)), .val (.int (10 : Int32)), .val (.int (10 : Int32)), .val (.int (10 : Int32)), .val (.int (1 : Int32)), .val (.ref b161), .val (.int sv), .val (.int (nar .boolean w5168)), .val (.int (nar .boolean w5169))] []))
        refine go (fun _ => XS.iload X169.here hx rfl (hb hby d4_166) rfl) ?_
        show Go _ p e below s _ _ _ (T169.setTop (mkF m 168 #[.val (.ref a1), .val (.int p2), .val (.int p3), .val (.int p4), .val (.int p5), .val (.int (p2 &&& (3 : Int32))), .val (.int ((p2 >>> ((2 : Int32) &&& 31)).toInt8.toInt32)), .val (.int (10 : Int32)), .val (.int (13 : Int32)), .val (.int (10 : Int32)), .val (.int (10 : Int32)), .val (.int (10 : Int32)), .val (.int (1 : Int32)), .val (.ref b161), .val (.int sv), .val (.int (nar .boolean w5168)), .val (.int (nar .boolean w5169))] [(.int p5)]))
        refine go (fun _ => XS.ifNo X169.here hx rfl (hb hby d4_168) rfl ((if0 _ _).trans (feq (fun u => by rw [h5, f3 (fun v => hc163_172 (by rw [own_nb f5]; exact v))] at u; exact absurd u (by decide))).1)) ?_
        show Go _ p e below s _ _ _ (T169.setTop (mkF m 171 #[.val (.ref a1), .val (.int p2), .val (.int p3), .val (.int p4), .val (.int p5), .val (.int (p2 &&& (3 : Int32))), .val (.int ((p2 >>> ((2 : Int32) &&& 31)).toInt8.toInt32)), .val (.int (10 : Int32)), .val (.int (13 : Int32)), .val (.int (10 : Int32)), .val (.int (10 : Int32)), .val (.int (10 : Int32)), .val (.int (1 : Int32)), .val (.ref b161), .val (.int sv), .val (.int (nar .boolean w5168)), .val (.int (nar .boolean w5169))] []))
        refine go (fun _ => XS.iload X169.here hx rfl (hb hby d4_171) rfl) ?_
        show Go _ p e below s _ _ _ (T169.setTop (mkF m 173 #[.val (.ref a1), .val (.int p2), .val (.int p3), .val (.int p4), .val (.int p5), .val (.int (p2 &&& (3 : Int32))), .val (.int ((p2 >>> ((2 : Int32) &&& 31)).toInt8.toInt32)), .val (.int (10 : Int32)), .val (.int (13 : Int32)), .val (.int (10 : Int32)), .val (.int (10 : Int32)), .val (.int (10 : Int32)), .val (.int (1 : Int32)), .val (.ref b161), .val (.int sv), .val (.int (nar .boolean w5168)), .val (.int (nar .boolean w5169))] [(.int (nar .boolean w5169))]))
        refine go (fun _ => XS.iload X169.here hx rfl (hb hby d4_173) rfl) ?_
        show Go _ p e below s _ _ _ (T169.setTop (mkF m 175 #[.val (.ref a1), .val (.int p2), .val (.int p3), .val (.int p4), .val (.int p5), .val (.int (p2 &&& (3 : Int32))), .val (.int ((p2 >>> ((2 : Int32) &&& 31)).toInt8.toInt32)), .val (.int (10 : Int32)), .val (.int (13 : Int32)), .val (.int (10 : Int32)), .val (.int (10 : Int32)), .val (.int (10 : Int32)), .val (.int (1 : Int32)), .val (.ref b161), .val (.int sv), .val (.int (nar .boolean w5168)), .val (.int (nar .boolean w5169))] [(.int p5), (.int (nar .boolean w5169))]))
        refine go (fun _ => XS.icmpNo X169.here hx rfl (hb hby d4_175) rfl (teq (by rw [h5, ← f4]; exact own_nb (by rw [f4]; exact f1.2.1))).2) ?_
        show Go _ p e below s _ _ _ (T169.setTop (mkF m 178 #[.val (.ref a1), .val (.int p2), .val (.int p3), .val (.int p4), .val (.int p5), .val (.int (p2 &&& (3 : Int32))), .val (.int ((p2 >>> ((2 : Int32) &&& 31)).toInt8.toInt32)), .val (.int (10 : Int32)), .val (.int (13 : Int32)), .val (.int (10 : Int32)), .val (.int (10 : Int32)), .val (.int (10 : Int32)), .val (.int (1 : Int32)), .val (.ref b161), .val (.int sv), .val (.int (nar .boolean w5168)), .val (.int (nar .boolean w5169))] []))
        refine go (fun _ => XS.iconst X169.here hx rfl (hb hby d4_178)) ?_
        show Go _ p e below s _ _ _ (T169.setTop (mkF m 179 #[.val (.ref a1), .val (.int p2), .val (.int p3), .val (.int p4), .val (.int p5), .val (.int (p2 &&& (3 : Int32))), .val (.int ((p2 >>> ((2 : Int32) &&& 31)).toInt8.toInt32)), .val (.int (10 : Int32)), .val (.int (13 : Int32)), .val (.int (10 : Int32)), .val (.int (10 : Int32)), .val (.int (10 : Int32)), .val (.int (1 : Int32)), .val (.ref b161), .val (.int sv), .val (.int (nar .boolean w5168)), .val (.int (nar .boolean w5169))] [(.int (1 : Int32))]))
        refine go (fun _ => XS.goto X169.here hx rfl (pc0 := 179) (pc' := 183) rfl (hb hby d4_179) (by decide) (by decide)) ?_
        show Go _ p e below s _ _ _ (T169.setTop (mkF m 183 #[.val (.ref a1), .val (.int p2), .val (.int p3), .val (.int p4), .val (.int p5), .val (.int (p2 &&& (3 : Int32))), .val (.int ((p2 >>> ((2 : Int32) &&& 31)).toInt8.toInt32)), .val (.int (10 : Int32)), .val (.int (13 : Int32)), .val (.int (10 : Int32)), .val (.int (10 : Int32)), .val (.int (10 : Int32)), .val (.int (1 : Int32)), .val (.ref b161), .val (.int sv), .val (.int (nar .boolean w5168)), .val (.int (nar .boolean w5169))] [(.int (1 : Int32))]))
        refine goRet X169 hx Bd.notSynchronized Bd.returns rfl (Or.inl ⟨rfl, Or.inr (Or.inl rfl), _, rfl⟩) (hb hby d4_183) (by decide) (by decide) (by refine ⟨w1169, w2169, w3169, w4169, w5169, rfl, N169, KK169, u169_1, u169_2, u169_3, u169_4, u169_5, f1⟩)
  · refine go (fun _ => XS.ifYes X0.here hx rfl (pc0 := 33) (pc' := 42) rfl (hb hby d4_33) rfl ((if0 _ _).trans (feq hc33_160).2) (by decide) (by decide)) ?_
    show Go _ p e below s _ _ _ (s₁.setTop (mkF m 42 #[.val (.ref a1), .val (.int p2), .val (.int p3), .val (.int p4), .val (.int p5), .val (.int (p2 &&& (3 : Int32))), .val (.int ((p2 >>> ((2 : Int32) &&& 31)).toInt8.toInt32)), .val (.int (10 : Int32)), .val (.int (13 : Int32)), .val (.int (10 : Int32)), .val (.int (10 : Int32)), .val (.int (10 : Int32)), .unset, .unset, .unset, .unset, .unset] []))
    refine go (fun _ => XS.iload X0.here hx rfl (hb hby d4_42) rfl) ?_
    show Go _ p e below s _ _ _ (s₁.setTop (mkF m 44 #[.val (.ref a1), .val (.int p2), .val (.int p3), .val (.int p4), .val (.int p5), .val (.int (p2 &&& (3 : Int32))), .val (.int ((p2 >>> ((2 : Int32) &&& 31)).toInt8.toInt32)), .val (.int (10 : Int32)), .val (.int (13 : Int32)), .val (.int (10 : Int32)), .val (.int (10 : Int32)), .val (.int (10 : Int32)), .unset, .unset, .unset, .unset, .unset] [(.int (p2 &&& (3 : Int32)))]))
    refine go (fun _ => XS.iconst X0.here hx rfl (hb hby d4_44)) ?_
    show Go _ p e below s _ _ _ (s₁.setTop (mkF m 45 #[.val (.ref a1), .val (.int p2), .val (.int p3), .val (.int p4), .val (.int p5), .val (.int (p2 &&& (3 : Int32))), .val (.int ((p2 >>> ((2 : Int32) &&& 31)).toInt8.toInt32)), .val (.int (10 : Int32)), .val (.int (13 : Int32)), .val (.int (10 : Int32)), .val (.int (10 : Int32)), .val (.int (10 : Int32)), .unset, .unset, .unset, .unset, .unset] [(.int (1 : Int32)), (.int (p2 &&& (3 : Int32)))]))
    by_cases hc45_173 : (p2 &&& (3 : Int32)) = (1 : Int32)
    · refine go (fun _ => XS.icmpNo X0.here hx rfl (hb hby d4_45) rfl (teq hc45_173).2) ?_
      show Go _ p e below s _ _ _ (s₁.setTop (mkF m 48 #[.val (.ref a1), .val (.int p2), .val (.int p3), .val (.int p4), .val (.int p5), .val (.int (p2 &&& (3 : Int32))), .val (.int ((p2 >>> ((2 : Int32) &&& 31)).toInt8.toInt32)), .val (.int (10 : Int32)), .val (.int (13 : Int32)), .val (.int (10 : Int32)), .val (.int (10 : Int32)), .val (.int (10 : Int32)), .unset, .unset, .unset, .unset, .unset] []))
      refine go (fun _ => XS.iload X0.here hx rfl (hb hby d4_48) rfl) ?_
      show Go _ p e below s _ _ _ (s₁.setTop (mkF m 50 #[.val (.ref a1), .val (.int p2), .val (.int p3), .val (.int p4), .val (.int p5), .val (.int (p2 &&& (3 : Int32))), .val (.int ((p2 >>> ((2 : Int32) &&& 31)).toInt8.toInt32)), .val (.int (10 : Int32)), .val (.int (13 : Int32)), .val (.int (10 : Int32)), .val (.int (10 : Int32)), .val (.int (10 : Int32)), .unset, .unset, .unset, .unset, .unset] [(.int (13 : Int32))]))
      refine go (fun _ => XS.istore X0.here hx rfl (hb hby d4_50) rfl (l' := #[.val (.ref a1), .val (.int p2), .val (.int p3), .val (.int p4), .val (.int p5), .val (.int (p2 &&& (3 : Int32))), .val (.int ((p2 >>> ((2 : Int32) &&& 31)).toInt8.toInt32)), .val (.int (10 : Int32)), .val (.int (13 : Int32)), .val (.int (13 : Int32)), .val (.int (10 : Int32)), .val (.int (10 : Int32)), .unset, .unset, .unset, .unset, .unset]) rfl) ?_
      show Go _ p e below s _ _ _ (s₁.setTop (mkF m 52 #[.val (.ref a1), .val (.int p2), .val (.int p3), .val (.int p4), .val (.int p5), .val (.int (p2 &&& (3 : Int32))), .val (.int ((p2 >>> ((2 : Int32) &&& 31)).toInt8.toInt32)), .val (.int (10 : Int32)), .val (.int (13 : Int32)), .val (.int (13 : Int32)), .val (.int (10 : Int32)), .val (.int (10 : Int32)), .unset, .unset, .unset, .unset, .unset] []))
      refine go (fun _ => XS.iconst X0.here hx rfl (hb hby d4_52)) ?_
      show Go _ p e below s _ _ _ (s₁.setTop (mkF m 53 #[.val (.ref a1), .val (.int p2), .val (.int p3), .val (.int p4), .val (.int p5), .val (.int (p2 &&& (3 : Int32))), .val (.int ((p2 >>> ((2 : Int32) &&& 31)).toInt8.toInt32)), .val (.int (10 : Int32)), .val (.int (13 : Int32)), .val (.int (13 : Int32)), .val (.int (10 : Int32)), .val (.int (10 : Int32)), .unset, .unset, .unset, .unset, .unset] [(.int (2 : Int32))]))
      refine go (fun _ => XS.istore X0.here hx rfl (hb hby d4_53) rfl (l' := #[.val (.ref a1), .val (.int p2), .val (.int p3), .val (.int p4), .val (.int p5), .val (.int (p2 &&& (3 : Int32))), .val (.int ((p2 >>> ((2 : Int32) &&& 31)).toInt8.toInt32)), .val (.int (10 : Int32)), .val (.int (13 : Int32)), .val (.int (13 : Int32)), .val (.int (10 : Int32)), .val (.int (10 : Int32)), .val (.int (2 : Int32)), .unset, .unset, .unset, .unset]) rfl) ?_
      show Go _ p e below s _ _ _ (s₁.setTop (mkF m 55 #[.val (.ref a1), .val (.int p2), .val (.int p3), .val (.int p4), .val (.int p5), .val (.int (p2 &&& (3 : Int32))), .val (.int ((p2 >>> ((2 : Int32) &&& 31)).toInt8.toInt32)), .val (.int (10 : Int32)), .val (.int (13 : Int32)), .val (.int (13 : Int32)), .val (.int (10 : Int32)), .val (.int (10 : Int32)), .val (.int (2 : Int32)), .unset, .unset, .unset, .unset] []))
      refine go (fun _ => XS.goto X0.here hx rfl (pc0 := 55) (pc' := 85) rfl (hb hby d4_55) (by decide) (by decide)) ?_
      show Go _ p e below s _ _ _ (s₁.setTop (mkF m 85 #[.val (.ref a1), .val (.int p2), .val (.int p3), .val (.int p4), .val (.int p5), .val (.int (p2 &&& (3 : Int32))), .val (.int ((p2 >>> ((2 : Int32) &&& 31)).toInt8.toInt32)), .val (.int (10 : Int32)), .val (.int (13 : Int32)), .val (.int (13 : Int32)), .val (.int (10 : Int32)), .val (.int (10 : Int32)), .val (.int (2 : Int32)), .unset, .unset, .unset, .unset] []))
      refine go (fun _ => XS.iconst X0.here hx rfl (hb hby d4_85)) ?_
      show Go _ p e below s _ _ _ (s₁.setTop (mkF m 86 #[.val (.ref a1), .val (.int p2), .val (.int p3), .val (.int p4), .val (.int p5), .val (.int (p2 &&& (3 : Int32))), .val (.int ((p2 >>> ((2 : Int32) &&& 31)).toInt8.toInt32)), .val (.int (10 : Int32)), .val (.int (13 : Int32)), .val (.int (13 : Int32)), .val (.int (10 : Int32)), .val (.int (10 : Int32)), .val (.int (2 : Int32)), .unset, .unset, .unset, .unset] [(.int (5 : Int32))]))
      obtain ⟨T174, h174, k174, X174, e174, E174, A174, AE174, st174⟩ := newPE X0 hx hZ (hw _ (List.mem_of_getElem? (i := 16) rfl)) e0 (g := (mkF m 86 #[.val (.ref a1), .val (.int p2), .val (.int p3), .val (.int p4), .val (.int p5), .val (.int (p2 &&& (3 : Int32))), .val (.int ((p2 >>> ((2 : Int32) &&& 31)).toInt8.toInt32)), .val (.int (10 : Int32)), .val (.int (13 : Int32)), .val (.int (13 : Int32)), .val (.int (10 : Int32)), .val (.int (10 : Int32)), .val (.int (2 : Int32)), .unset, .unset, .unset, .unset] [(.int (5 : Int32))])) rfl (hb hby d4_86) rfl (by decide) (cap := 5) (by decide) (by decide) (by decide) (by decide) (ad := "[B") (by first | rfl | decide)
      obtain ⟨b174, g174⟩ : ∃ z, z = h0.size := ⟨_, rfl⟩
      rw [← g174] at A174 AE174 st174
      have lt174_a1_b174 : a1 < b174 := Nat.lt_of_lt_of_le P0.lt (Nat.le_of_eq g174.symm)
      have G_b174 : n0 ≤ b174 := Nat.le_trans Z0 (Nat.le_of_eq g174.symm)
      have SZ_b174 : h0.size ≤ b174 := Nat.le_trans (Keep.refl h0 [a1]).1 (Nat.le_of_eq g174.symm)
      have c174_0 := P0.ext E174
      have c174_1 := P2.ext E174
      have c174_2 := P3.ext E174
      have c174_3 := P4.ext E174
      have c174_4 := P5.ext E174
      have c174_5 := P6.ext E174
      have KK174 : Keep h0 h174 [a1] := (Keep.refl h0 [a1]).ext E174
      have ZN174 : n0 ≤ h174.size := Nat.le_trans Z0 E174.1
      have V174 : Arv Z h174 b174 k174 .byte (5 : Int32) [(.int (0 : Int32)), (.int (0 : Int32)), (.int (0 : Int32)), (.int (0 : Int32)), (.int (0 : Int32))] (.int (0 : Int32)) := (Arv.new A174 (by decide)).pad (pad_rep [] (.int (0 : Int32)) 5)
      refine go st174 ?_
      show Go _ p e below s _ _ _ (T174.setTop (mkF m 88 #[.val (.ref a1), .val (.int p2), .val (.int p3), .val (.int p4), .val (.int p5), .val (.int (p2 &&& (3 : Int32))), .val (.int ((p2 >>> ((2 : Int32) &&& 31)).toInt8.toInt32)), .val (.int (10 : Int32)), .val (.int (13 : Int32)), .val (.int (13 : Int32)), .val (.int (10 : Int32)), .val (.int (10 : Int32)), .val (.int (2 : Int32)), .unset, .unset, .unset, .unset] [(.ref b174)]))
      refine go (fun _ => XS.dup X174.here hx rfl (hb hby d4_88) rfl rfl) ?_
      show Go _ p e below s _ _ _ (T174.setTop (mkF m 89 #[.val (.ref a1), .val (.int p2), .val (.int p3), .val (.int p4), .val (.int p5), .val (.int (p2 &&& (3 : Int32))), .val (.int ((p2 >>> ((2 : Int32) &&& 31)).toInt8.toInt32)), .val (.int (10 : Int32)), .val (.int (13 : Int32)), .val (.int (13 : Int32)), .val (.int (10 : Int32)), .val (.int (10 : Int32)), .val (.int (2 : Int32)), .unset, .unset, .unset, .unset] [(.ref b174), (.ref b174)]))
      refine go (fun _ => XS.iconst X174.here hx rfl (hb hby d4_89)) ?_
      show Go _ p e below s _ _ _ (T174.setTop (mkF m 90 #[.val (.ref a1), .val (.int p2), .val (.int p3), .val (.int p4), .val (.int p5), .val (.int (p2 &&& (3 : Int32))), .val (.int ((p2 >>> ((2 : Int32) &&& 31)).toInt8.toInt32)), .val (.int (10 : Int32)), .val (.int (13 : Int32)), .val (.int (13 : Int32)), .val (.int (10 : Int32)), .val (.int (10 : Int32)), .val (.int (2 : Int32)), .unset, .unset, .unset, .unset] [(.int (0 : Int32)), (.ref b174), (.ref b174)]))
      refine go (fun _ => XS.iload X174.here hx rfl (hb hby d4_90) rfl) ?_
      show Go _ p e below s _ _ _ (T174.setTop (mkF m 92 #[.val (.ref a1), .val (.int p2), .val (.int p3), .val (.int p4), .val (.int p5), .val (.int (p2 &&& (3 : Int32))), .val (.int ((p2 >>> ((2 : Int32) &&& 31)).toInt8.toInt32)), .val (.int (10 : Int32)), .val (.int (13 : Int32)), .val (.int (13 : Int32)), .val (.int (10 : Int32)), .val (.int (10 : Int32)), .val (.int (2 : Int32)), .unset, .unset, .unset, .unset] [(.int (10 : Int32)), (.int (0 : Int32)), (.ref b174), (.ref b174)]))
      obtain ⟨cl175, Ar175, q175, Sz175, Nz175, Hs175, Gs175⟩ := id V174
      have hin175 : ¬ ((0 : Int32) < 0 ∨ cl175.slots.size ≤ ((0 : Int32)).toNatClampNeg) := inb_of Sz175 ⟨by decide, by decide⟩
      obtain ⟨T175, h175, X175, e175, W175, st175⟩ := stB X174 hx hZ e174 Ar175 (j := (0 : Int32)) hin175 (g := (mkF m 92 #[.val (.ref a1), .val (.int p2), .val (.int p3), .val (.int p4), .val (.int p5), .val (.int (p2 &&& (3 : Int32))), .val (.int ((p2 >>> ((2 : Int32) &&& 31)).toInt8.toInt32)), .val (.int (10 : Int32)), .val (.int (13 : Int32)), .val (.int (13 : Int32)), .val (.int (10 : Int32)), .val (.int (10 : Int32)), .val (.int (2 : Int32)), .unset, .unset, .unset, .unset] [(.int (10 : Int32)), (.int (0 : Int32)), (.ref b174), (.ref b174)])) rfl rfl (hb hby d4_92)
      have V175 := Arv.set Ar175 q175 Sz175 Nz175 Hs175 Gs175 (fits_nar_byte _) W175 0 rfl (Nat.le_of_ble_eq_true rfl)
      have VV175 : Arv Z h175 b174 k174 .byte (5 : Int32) [(.int (nar .byte (10 : Int32))), (.int (0 : Int32)), (.int (0 : Int32)), (.int (0 : Int32)), (.int (0 : Int32))] (.int (0 : Int32)) := V175
      have c175_0 := c174_0.wr W175
      have c175_1 := c174_1.other W175 (Or.inl (Nat.ne_of_lt lt174_a1_b174))
      have c175_2 := c174_2.other W175 (Or.inl (Nat.ne_of_lt lt174_a1_b174))
      have c175_3 := c174_3.other W175 (Or.inl (Nat.ne_of_lt lt174_a1_b174))
      have c175_4 := c174_4.other W175 (Or.inl (Nat.ne_of_lt lt174_a1_b174))
      have c175_5 := c174_5.other W175 (Or.inl (Nat.ne_of_lt lt174_a1_b174))
      have c175_6 := AE174.wr W175
      have KK175 : Keep h0 h175 [a1] := KK174.wr W175 (Or.inr SZ_b174)
      have ZN175 : n0 ≤ h175.size := Nat.le_trans ZN174 (Keep.of_wr W175).1
      have NN175 := Fr.snoc X175 N0 G_b174
      refine go st175 ?_
      show Go _ p e below s _ _ _ (T175.setTop (mkF m 93 #[.val (.ref a1), .val (.int p2), .val (.int p3), .val (.int p4), .val (.int p5), .val (.int (p2 &&& (3 : Int32))), .val (.int ((p2 >>> ((2 : Int32) &&& 31)).toInt8.toInt32)), .val (.int (10 : Int32)), .val (.int (13 : Int32)), .val (.int (13 : Int32)), .val (.int (10 : Int32)), .val (.int (10 : Int32)), .val (.int (2 : Int32)), .unset, .unset, .unset, .unset] [(.ref b174)]))
      refine go (fun _ => XS.dup X175.here hx rfl (hb hby d4_93) rfl rfl) ?_
      show Go _ p e below s _ _ _ (T175.setTop (mkF m 94 #[.val (.ref a1), .val (.int p2), .val (.int p3), .val (.int p4), .val (.int p5), .val (.int (p2 &&& (3 : Int32))), .val (.int ((p2 >>> ((2 : Int32) &&& 31)).toInt8.toInt32)), .val (.int (10 : Int32)), .val (.int (13 : Int32)), .val (.int (13 : Int32)), .val (.int (10 : Int32)), .val (.int (10 : Int32)), .val (.int (2 : Int32)), .unset, .unset, .unset, .unset] [(.ref b174), (.ref b174)]))
      refine go (fun _ => XS.iconst X175.here hx rfl (hb hby d4_94)) ?_
      show Go _ p e below s _ _ _ (T175.setTop (mkF m 95 #[.val (.ref a1), .val (.int p2), .val (.int p3), .val (.int p4), .val (.int p5), .val (.int (p2 &&& (3 : Int32))), .val (.int ((p2 >>> ((2 : Int32) &&& 31)).toInt8.toInt32)), .val (.int (10 : Int32)), .val (.int (13 : Int32)), .val (.int (13 : Int32)), .val (.int (10 : Int32)), .val (.int (10 : Int32)), .val (.int (2 : Int32)), .unset, .unset, .unset, .unset] [(.int (1 : Int32)), (.ref b174), (.ref b174)]))
      refine go (fun _ => XS.iload X175.here hx rfl (hb hby d4_95) rfl) ?_
      show Go _ p e below s _ _ _ (T175.setTop (mkF m 97 #[.val (.ref a1), .val (.int p2), .val (.int p3), .val (.int p4), .val (.int p5), .val (.int (p2 &&& (3 : Int32))), .val (.int ((p2 >>> ((2 : Int32) &&& 31)).toInt8.toInt32)), .val (.int (10 : Int32)), .val (.int (13 : Int32)), .val (.int (13 : Int32)), .val (.int (10 : Int32)), .val (.int (10 : Int32)), .val (.int (2 : Int32)), .unset, .unset, .unset, .unset] [(.int (13 : Int32)), (.int (1 : Int32)), (.ref b174), (.ref b174)]))
      obtain ⟨cl176, Ar176, q176, Sz176, Nz176, Hs176, Gs176⟩ := id VV175
      have hin176 : ¬ ((1 : Int32) < 0 ∨ cl176.slots.size ≤ ((1 : Int32)).toNatClampNeg) := inb_of Sz176 ⟨by decide, by decide⟩
      obtain ⟨T176, h176, X176, e176, W176, st176⟩ := stB X175 hx hZ e175 Ar176 (j := (1 : Int32)) hin176 (g := (mkF m 97 #[.val (.ref a1), .val (.int p2), .val (.int p3), .val (.int p4), .val (.int p5), .val (.int (p2 &&& (3 : Int32))), .val (.int ((p2 >>> ((2 : Int32) &&& 31)).toInt8.toInt32)), .val (.int (10 : Int32)), .val (.int (13 : Int32)), .val (.int (13 : Int32)), .val (.int (10 : Int32)), .val (.int (10 : Int32)), .val (.int (2 : Int32)), .unset, .unset, .unset, .unset] [(.int (13 : Int32)), (.int (1 : Int32)), (.ref b174), (.ref b174)])) rfl rfl (hb hby d4_97)
      have V176 := Arv.set Ar176 q176 Sz176 Nz176 Hs176 Gs176 (fits_nar_byte _) W176 1 rfl (Nat.le_of_ble_eq_true rfl)
      have VV176 : Arv Z h176 b174 k174 .byte (5 : Int32) [(.int (nar .byte (10 : Int32))), (.int (nar .byte (13 : Int32))), (.int (0 : Int32)), (.int (0 : Int32)), (.int (0 : Int32))] (.int (0 : Int32)) := V176
      have c176_0 := c175_0.wr W176
      have c176_1 := c175_1.other W176 (Or.inl (Nat.ne_of_lt lt174_a1_b174))
      have c176_2 := c175_2.other W176 (Or.inl (Nat.ne_of_lt lt174_a1_b174))
      have c176_3 := c175_3.other W176 (Or.inl (Nat.ne_of_lt lt174_a1_b174))
      have c176_4 := c175_4.other W176 (Or.inl (Nat.ne_of_lt lt174_a1_b174))
      have c176_5 := c175_5.other W176 (Or.inl (Nat.ne_of_lt lt174_a1_b174))
      have c176_6 := c175_6.wr W176
      have KK176 : Keep h0 h176 [a1] := KK175.wr W176 (Or.inr SZ_b174)
      have ZN176 : n0 ≤ h176.size := Nat.le_trans ZN175 (Keep.of_wr W176).1
      have NN176 := Fr.snoc X176 NN175 G_b174
      refine go st176 ?_
      show Go _ p e below s _ _ _ (T176.setTop (mkF m 98 #[.val (.ref a1), .val (.int p2), .val (.int p3), .val (.int p4), .val (.int p5), .val (.int (p2 &&& (3 : Int32))), .val (.int ((p2 >>> ((2 : Int32) &&& 31)).toInt8.toInt32)), .val (.int (10 : Int32)), .val (.int (13 : Int32)), .val (.int (13 : Int32)), .val (.int (10 : Int32)), .val (.int (10 : Int32)), .val (.int (2 : Int32)), .unset, .unset, .unset, .unset] [(.ref b174)]))
      refine go (fun _ => XS.dup X176.here hx rfl (hb hby d4_98) rfl rfl) ?_
      show Go _ p e below s _ _ _ (T176.setTop (mkF m 99 #[.val (.ref a1), .val (.int p2), .val (.int p3), .val (.int p4), .val (.int p5), .val (.int (p2 &&& (3 : Int32))), .val (.int ((p2 >>> ((2 : Int32) &&& 31)).toInt8.toInt32)), .val (.int (10 : Int32)), .val (.int (13 : Int32)), .val (.int (13 : Int32)), .val (.int (10 : Int32)), .val (.int (10 : Int32)), .val (.int (2 : Int32)), .unset, .unset, .unset, .unset] [(.ref b174), (.ref b174)]))
      refine go (fun _ => XS.iconst X176.here hx rfl (hb hby d4_99)) ?_
      show Go _ p e below s _ _ _ (T176.setTop (mkF m 100 #[.val (.ref a1), .val (.int p2), .val (.int p3), .val (.int p4), .val (.int p5), .val (.int (p2 &&& (3 : Int32))), .val (.int ((p2 >>> ((2 : Int32) &&& 31)).toInt8.toInt32)), .val (.int (10 : Int32)), .val (.int (13 : Int32)), .val (.int (13 : Int32)), .val (.int (10 : Int32)), .val (.int (10 : Int32)), .val (.int (2 : Int32)), .unset, .unset, .unset, .unset] [(.int (2 : Int32)), (.ref b174), (.ref b174)]))
      refine go (fun _ => XS.iload X176.here hx rfl (hb hby d4_100) rfl) ?_
      show Go _ p e below s _ _ _ (T176.setTop (mkF m 102 #[.val (.ref a1), .val (.int p2), .val (.int p3), .val (.int p4), .val (.int p5), .val (.int (p2 &&& (3 : Int32))), .val (.int ((p2 >>> ((2 : Int32) &&& 31)).toInt8.toInt32)), .val (.int (10 : Int32)), .val (.int (13 : Int32)), .val (.int (13 : Int32)), .val (.int (10 : Int32)), .val (.int (10 : Int32)), .val (.int (2 : Int32)), .unset, .unset, .unset, .unset] [(.int (10 : Int32)), (.int (2 : Int32)), (.ref b174), (.ref b174)]))
      obtain ⟨cl177, Ar177, q177, Sz177, Nz177, Hs177, Gs177⟩ := id VV176
      have hin177 : ¬ ((2 : Int32) < 0 ∨ cl177.slots.size ≤ ((2 : Int32)).toNatClampNeg) := inb_of Sz177 ⟨by decide, by decide⟩
      obtain ⟨T177, h177, X177, e177, W177, st177⟩ := stB X176 hx hZ e176 Ar177 (j := (2 : Int32)) hin177 (g := (mkF m 102 #[.val (.ref a1), .val (.int p2), .val (.int p3), .val (.int p4), .val (.int p5), .val (.int (p2 &&& (3 : Int32))), .val (.int ((p2 >>> ((2 : Int32) &&& 31)).toInt8.toInt32)), .val (.int (10 : Int32)), .val (.int (13 : Int32)), .val (.int (13 : Int32)), .val (.int (10 : Int32)), .val (.int (10 : Int32)), .val (.int (2 : Int32)), .unset, .unset, .unset, .unset] [(.int (10 : Int32)), (.int (2 : Int32)), (.ref b174), (.ref b174)])) rfl rfl (hb hby d4_102)
      have V177 := Arv.set Ar177 q177 Sz177 Nz177 Hs177 Gs177 (fits_nar_byte _) W177 2 rfl (Nat.le_of_ble_eq_true rfl)
      have VV177 : Arv Z h177 b174 k174 .byte (5 : Int32) [(.int (nar .byte (10 : Int32))), (.int (nar .byte (13 : Int32))), (.int (nar .byte (10 : Int32))), (.int (0 : Int32)), (.int (0 : Int32))] (.int (0 : Int32)) := V177
      have c177_0 := c176_0.wr W177
      have c177_1 := c176_1.other W177 (Or.inl (Nat.ne_of_lt lt174_a1_b174))
      have c177_2 := c176_2.other W177 (Or.inl (Nat.ne_of_lt lt174_a1_b174))
      have c177_3 := c176_3.other W177 (Or.inl (Nat.ne_of_lt lt174_a1_b174))
      have c177_4 := c176_4.other W177 (Or.inl (Nat.ne_of_lt lt174_a1_b174))
      have c177_5 := c176_5.other W177 (Or.inl (Nat.ne_of_lt lt174_a1_b174))
      have c177_6 := c176_6.wr W177
      have KK177 : Keep h0 h177 [a1] := KK176.wr W177 (Or.inr SZ_b174)
      have ZN177 : n0 ≤ h177.size := Nat.le_trans ZN176 (Keep.of_wr W177).1
      have NN177 := Fr.snoc X177 NN176 G_b174
      refine go st177 ?_
      show Go _ p e below s _ _ _ (T177.setTop (mkF m 103 #[.val (.ref a1), .val (.int p2), .val (.int p3), .val (.int p4), .val (.int p5), .val (.int (p2 &&& (3 : Int32))), .val (.int ((p2 >>> ((2 : Int32) &&& 31)).toInt8.toInt32)), .val (.int (10 : Int32)), .val (.int (13 : Int32)), .val (.int (13 : Int32)), .val (.int (10 : Int32)), .val (.int (10 : Int32)), .val (.int (2 : Int32)), .unset, .unset, .unset, .unset] [(.ref b174)]))
      refine go (fun _ => XS.dup X177.here hx rfl (hb hby d4_103) rfl rfl) ?_
      show Go _ p e below s _ _ _ (T177.setTop (mkF m 104 #[.val (.ref a1), .val (.int p2), .val (.int p3), .val (.int p4), .val (.int p5), .val (.int (p2 &&& (3 : Int32))), .val (.int ((p2 >>> ((2 : Int32) &&& 31)).toInt8.toInt32)), .val (.int (10 : Int32)), .val (.int (13 : Int32)), .val (.int (13 : Int32)), .val (.int (10 : Int32)), .val (.int (10 : Int32)), .val (.int (2 : Int32)), .unset, .unset, .unset, .unset] [(.ref b174), (.ref b174)]))
      refine go (fun _ => XS.iconst X177.here hx rfl (hb hby d4_104)) ?_
      show Go _ p e below s _ _ _ (T177.setTop (mkF m 105 #[.val (.ref a1), .val (.int p2), .val (.int p3), .val (.int p4), .val (.int p5), .val (.int (p2 &&& (3 : Int32))), .val (.int ((p2 >>> ((2 : Int32) &&& 31)).toInt8.toInt32)), .val (.int (10 : Int32)), .val (.int (13 : Int32)), .val (.int (13 : Int32)), .val (.int (10 : Int32)), .val (.int (10 : Int32)), .val (.int (2 : Int32)), .unset, .unset, .unset, .unset] [(.int (3 : Int32)), (.ref b174), (.ref b174)]))
      refine go (fun _ => XS.iload X177.here hx rfl (hb hby d4_105) rfl) ?_
      show Go _ p e below s _ _ _ (T177.setTop (mkF m 107 #[.val (.ref a1), .val (.int p2), .val (.int p3), .val (.int p4), .val (.int p5), .val (.int (p2 &&& (3 : Int32))), .val (.int ((p2 >>> ((2 : Int32) &&& 31)).toInt8.toInt32)), .val (.int (10 : Int32)), .val (.int (13 : Int32)), .val (.int (13 : Int32)), .val (.int (10 : Int32)), .val (.int (10 : Int32)), .val (.int (2 : Int32)), .unset, .unset, .unset, .unset] [(.int (10 : Int32)), (.int (3 : Int32)), (.ref b174), (.ref b174)]))
      obtain ⟨cl178, Ar178, q178, Sz178, Nz178, Hs178, Gs178⟩ := id VV177
      have hin178 : ¬ ((3 : Int32) < 0 ∨ cl178.slots.size ≤ ((3 : Int32)).toNatClampNeg) := inb_of Sz178 ⟨by decide, by decide⟩
      obtain ⟨T178, h178, X178, e178, W178, st178⟩ := stB X177 hx hZ e177 Ar178 (j := (3 : Int32)) hin178 (g := (mkF m 107 #[.val (.ref a1), .val (.int p2), .val (.int p3), .val (.int p4), .val (.int p5), .val (.int (p2 &&& (3 : Int32))), .val (.int ((p2 >>> ((2 : Int32) &&& 31)).toInt8.toInt32)), .val (.int (10 : Int32)), .val (.int (13 : Int32)), .val (.int (13 : Int32)), .val (.int (10 : Int32)), .val (.int (10 : Int32)), .val (.int (2 : Int32)), .unset, .unset, .unset, .unset] [(.int (10 : Int32)), (.int (3 : Int32)), (.ref b174), (.ref b174)])) rfl rfl (hb hby d4_107)
      have V178 := Arv.set Ar178 q178 Sz178 Nz178 Hs178 Gs178 (fits_nar_byte _) W178 3 rfl (Nat.le_of_ble_eq_true rfl)
      have VV178 : Arv Z h178 b174 k174 .byte (5 : Int32) [(.int (nar .byte (10 : Int32))), (.int (nar .byte (13 : Int32))), (.int (nar .byte (10 : Int32))), (.int (nar .byte (10 : Int32))), (.int (0 : Int32))] (.int (0 : Int32)) := V178
      have c178_0 := c177_0.wr W178
      have c178_1 := c177_1.other W178 (Or.inl (Nat.ne_of_lt lt174_a1_b174))
      have c178_2 := c177_2.other W178 (Or.inl (Nat.ne_of_lt lt174_a1_b174))
      have c178_3 := c177_3.other W178 (Or.inl (Nat.ne_of_lt lt174_a1_b174))
      have c178_4 := c177_4.other W178 (Or.inl (Nat.ne_of_lt lt174_a1_b174))
      have c178_5 := c177_5.other W178 (Or.inl (Nat.ne_of_lt lt174_a1_b174))
      have c178_6 := c177_6.wr W178
      have KK178 : Keep h0 h178 [a1] := KK177.wr W178 (Or.inr SZ_b174)
      have ZN178 : n0 ≤ h178.size := Nat.le_trans ZN177 (Keep.of_wr W178).1
      have NN178 := Fr.snoc X178 NN177 G_b174
      refine go st178 ?_
      show Go _ p e below s _ _ _ (T178.setTop (mkF m 108 #[.val (.ref a1), .val (.int p2), .val (.int p3), .val (.int p4), .val (.int p5), .val (.int (p2 &&& (3 : Int32))), .val (.int ((p2 >>> ((2 : Int32) &&& 31)).toInt8.toInt32)), .val (.int (10 : Int32)), .val (.int (13 : Int32)), .val (.int (13 : Int32)), .val (.int (10 : Int32)), .val (.int (10 : Int32)), .val (.int (2 : Int32)), .unset, .unset, .unset, .unset] [(.ref b174)]))
      refine go (fun _ => XS.dup X178.here hx rfl (hb hby d4_108) rfl rfl) ?_
      show Go _ p e below s _ _ _ (T178.setTop (mkF m 109 #[.val (.ref a1), .val (.int p2), .val (.int p3), .val (.int p4), .val (.int p5), .val (.int (p2 &&& (3 : Int32))), .val (.int ((p2 >>> ((2 : Int32) &&& 31)).toInt8.toInt32)), .val (.int (10 : Int32)), .val (.int (13 : Int32)), .val (.int (13 : Int32)), .val (.int (10 : Int32)), .val (.int (10 : Int32)), .val (.int (2 : Int32)), .unset, .unset, .unset, .unset] [(.ref b174), (.ref b174)]))
      refine go (fun _ => XS.iconst X178.here hx rfl (hb hby d4_109)) ?_
      show Go _ p e below s _ _ _ (T178.setTop (mkF m 110 #[.val (.ref a1), .val (.int p2), .val (.int p3), .val (.int p4), .val (.int p5), .val (.int (p2 &&& (3 : Int32))), .val (.int ((p2 >>> ((2 : Int32) &&& 31)).toInt8.toInt32)), .val (.int (10 : Int32)), .val (.int (13 : Int32)), .val (.int (13 : Int32)), .val (.int (10 : Int32)), .val (.int (10 : Int32)), .val (.int (2 : Int32)), .unset, .unset, .unset, .unset] [(.int (4 : Int32)), (.ref b174), (.ref b174)]))
      refine go (fun _ => XS.iload X178.here hx rfl (hb hby d4_110) rfl) ?_
      show Go _ p e below s _ _ _ (T178.setTop (mkF m 112 #[.val (.ref a1), .val (.int p2), .val (.int p3), .val (.int p4), .val (.int p5), .val (.int (p2 &&& (3 : Int32))), .val (.int ((p2 >>> ((2 : Int32) &&& 31)).toInt8.toInt32)), .val (.int (10 : Int32)), .val (.int (13 : Int32)), .val (.int (13 : Int32)), .val (.int (10 : Int32)), .val (.int (10 : Int32)), .val (.int (2 : Int32)), .unset, .unset, .unset, .unset] [(.int (10 : Int32)), (.int (4 : Int32)), (.ref b174), (.ref b174)]))
      obtain ⟨cl179, Ar179, q179, Sz179, Nz179, Hs179, Gs179⟩ := id VV178
      have hin179 : ¬ ((4 : Int32) < 0 ∨ cl179.slots.size ≤ ((4 : Int32)).toNatClampNeg) := inb_of Sz179 ⟨by decide, by decide⟩
      obtain ⟨T179, h179, X179, e179, W179, st179⟩ := stB X178 hx hZ e178 Ar179 (j := (4 : Int32)) hin179 (g := (mkF m 112 #[.val (.ref a1), .val (.int p2), .val (.int p3), .val (.int p4), .val (.int p5), .val (.int (p2 &&& (3 : Int32))), .val (.int ((p2 >>> ((2 : Int32) &&& 31)).toInt8.toInt32)), .val (.int (10 : Int32)), .val (.int (13 : Int32)), .val (.int (13 : Int32)), .val (.int (10 : Int32)), .val (.int (10 : Int32)), .val (.int (2 : Int32)), .unset, .unset, .unset, .unset] [(.int (10 : Int32)), (.int (4 : Int32)), (.ref b174), (.ref b174)])) rfl rfl (hb hby d4_112)
      have V179 := Arv.set Ar179 q179 Sz179 Nz179 Hs179 Gs179 (fits_nar_byte _) W179 4 rfl (Nat.le_of_ble_eq_true rfl)
      have VV179 : Arv Z h179 b174 k174 .byte (5 : Int32) [(.int (nar .byte (10 : Int32))), (.int (nar .byte (13 : Int32))), (.int (nar .byte (10 : Int32))), (.int (nar .byte (10 : Int32))), (.int (nar .byte (10 : Int32)))] (.int (0 : Int32)) := V179
      have c179_0 := c178_0.wr W179
      have c179_1 := c178_1.other W179 (Or.inl (Nat.ne_of_lt lt174_a1_b174))
      have c179_2 := c178_2.other W179 (Or.inl (Nat.ne_of_lt lt174_a1_b174))
      have c179_3 := c178_3.other W179 (Or.inl (Nat.ne_of_lt lt174_a1_b174))
      have c179_4 := c178_4.other W179 (Or.inl (Nat.ne_of_lt lt174_a1_b174))
      have c179_5 := c178_5.other W179 (Or.inl (Nat.ne_of_lt lt174_a1_b174))
      have c179_6 := c178_6.wr W179
      have KK179 : Keep h0 h179 [a1] := KK178.wr W179 (Or.inr SZ_b174)
      have ZN179 : n0 ≤ h179.size := Nat.le_trans ZN178 (Keep.of_wr W179).1
      have NN179 := Fr.snoc X179 NN178 G_b174
      refine go st179 ?_
      show Go _ p e below s _ _ _ (T179.setTop (mkF m 113 #[.val (.ref a1), .val (.int p2), .val (.int p3), .val (.int p4), .val (.int p5), .val (.int (p2 &&& (3 : Int32))), .val (.int ((p2 >>> ((2 : Int32) &&& 31)).toInt8.toInt32)), .val (.int (10 : Int32)), .val (.int (13 : Int32)), .val (.int (13 : Int32)), .val (.int (10 : Int32)), .val (.int (10 : Int32)), .val (.int (2 : Int32)), .unset, .unset, .unset, .unset] [(.ref b174)]))
      refine go (fun _ => XS.astore X179.here hx rfl (hb hby d4_113) rfl rfl (l' := #[.val (.ref a1), .val (.int p2), .val (.int p3), .val (.int p4), .val (.int p5), .val (.int (p2 &&& (3 : Int32))), .val (.int ((p2 >>> ((2 : Int32) &&& 31)).toInt8.toInt32)), .val (.int (10 : Int32)), .val (.int (13 : Int32)), .val (.int (13 : Int32)), .val (.int (10 : Int32)), .val (.int (10 : Int32)), .val (.int (2 : Int32)), .val (.ref b174), .unset, .unset, .unset]) rfl) ?_
      show Go _ p e below s _ _ _ (T179.setTop (mkF m 115 #[.val (.ref a1), .val (.int p2), .val (.int p3), .val (.int p4), .val (.int p5), .val (.int (p2 &&& (3 : Int32))), .val (.int ((p2 >>> ((2 : Int32) &&& 31)).toInt8.toInt32)), .val (.int (10 : Int32)), .val (.int (13 : Int32)), .val (.int (13 : Int32)), .val (.int (10 : Int32)), .val (.int (10 : Int32)), .val (.int (2 : Int32)), .val (.ref b174), .unset, .unset, .unset] []))
      refine go (fun _ => XS.iloadN X179.here hx rfl (hb hby d4_115) rfl) ?_
      show Go _ p e below s _ _ _ (T179.setTop (mkF m 116 #[.val (.ref a1), .val (.int p2), .val (.int p3), .val (.int p4), .val (.int p5), .val (.int (p2 &&& (3 : Int32))), .val (.int ((p2 >>> ((2 : Int32) &&& 31)).toInt8.toInt32)), .val (.int (10 : Int32)), .val (.int (13 : Int32)), .val (.int (13 : Int32)), .val (.int (10 : Int32)), .val (.int (10 : Int32)), .val (.int (2 : Int32)), .val (.ref b174), .unset, .unset, .unset] [(.int p3)]))
      refine go (fun _ => XS.iload X179.here hx rfl (hb hby d4_116) rfl) ?_
      show Go _ p e below s _ _ _ (T179.setTop (mkF m 118 #[.val (.ref a1), .val (.int p2), .val (.int p3), .val (.int p4), .val (.int p5), .val (.int (p2 &&& (3 : Int32))), .val (.int ((p2 >>> ((2 : Int32) &&& 31)).toInt8.toInt32)), .val (.int (10 : Int32)), .val (.int (13 : Int32)), .val (.int (13 : Int32)), .val (.int (10 : Int32)), .val (.int (10 : Int32)), .val (.int (2 : Int32)), .val (.ref b174), .unset, .unset, .unset] [(.int (2 : Int32)), (.int p3)]))
      obtain ⟨_, _, ⟨T180, L180, k180, n180⟩, -, X180, ⟨Lc180, hQ180, l180, y180, z180⟩, st180⟩ := Jvm.LawKit.callS X179 hx (y := (⟨"java/lang/Math", "min", "(II)I"⟩ : MethodName)) hown (mvT hZ (hw _ (List.mem_of_getElem? (i := 17) rfl))) (mvT hZ (hw _ (List.mem_of_getElem? (i := 18) rfl))) (mvT hZ (hw _ (List.mem_of_getElem? (i := 19) rfl))) (mvT hZ (hw _ (List.mem_of_getElem? (i := 20) rfl))) (by decide) (backOf (W := 0) (rm5 l Z a0 hw [] p3 (2 : Int32) h179 n0 ZN179 ) hZ (hw _ (List.mem_of_getElem? (i := 20) rfl)) (hw _ (List.mem_of_getElem? (i := 19) rfl)) (by decide) (by decide)) (g := (mkF m 118 #[.val (.ref a1), .val (.int p2), .val (.int p3), .val (.int p4), .val (.int p5), .val (.int (p2 &&& (3 : Int32))), .val (.int ((p2 >>> ((2 : Int32) &&& 31)).toInt8.toInt32)), .val (.int (10 : Int32)), .val (.int (13 : Int32)), .val (.int (13 : Int32)), .val (.int (10 : Int32)), .val (.int (10 : Int32)), .val (.int (2 : Int32)), .val (.ref b174), .unset, .unset, .unset] [(.int (2 : Int32)), (.int p3)])) rfl (by rw [hml]; rfl) (argsL := [(.int p3), (.int (2 : Int32))]) (rest := []) (lenOf pd_4_0 rfl) rfl (by show 2 * 0 + _ ≤ _; exact Nat.le_of_eq rfl) (hb hby d4_118) (fun _ _ => ⟨rfl, e179, (by decide : 1 + 0 ≤ _), (by decide : 5 + 0 ≤ _)⟩)
      dsimp only [Pt.U, Pt.locs, Pt.cells, Pt.slots] at X180 l180 y180 z180 st180 hQ180
      subst l180 y180 z180
      obtain ⟨rfl, N180q, e180⟩ := hQ180
      have N180 := Fr.app NN179 N180q
      refine go st180 ?_
      show Go _ p e below s _ _ _ (T180.setTop (mkF m 121 #[.val (.ref a1), .val (.int p2), .val (.int p3), .val (.int p4), .val (.int p5), .val (.int (p2 &&& (3 : Int32))), .val (.int ((p2 >>> ((2 : Int32) &&& 31)).toInt8.toInt32)), .val (.int (10 : Int32)), .val (.int (13 : Int32)), .val (.int (13 : Int32)), .val (.int (10 : Int32)), .val (.int (10 : Int32)), .val (.int (2 : Int32)), .val (.ref b174), .unset, .unset, .unset] [(.int (own_min p3 (2 : Int32)))]))
      refine go (fun _ => XS.istore X180.here hx rfl (hb hby d4_121) rfl (l' := #[.val (.ref a1), .val (.int p2), .val (.int p3), .val (.int p4), .val (.int p5), .val (.int (p2 &&& (3 : Int32))), .val (.int ((p2 >>> ((2 : Int32) &&& 31)).toInt8.toInt32)), .val (.int (10 : Int32)), .val (.int (13 : Int32)), .val (.int (13 : Int32)), .val (.int (10 : Int32)), .val (.int (10 : Int32)), .val (.int (2 : Int32)), .val (.ref b174), .val (.int (own_min p3 (2 : Int32))), .unset, .unset]) rfl) ?_
      show Go _ p e below s _ _ _ (T180.setTop (mkF m 123 #[.val (.ref a1), .val (.int p2), .val (.int p3), .val (.int p4), .val (.int p5), .val (.int (p2 &&& (3 : Int32))), .val (.int ((p2 >>> ((2 : Int32) &&& 31)).toInt8.toInt32)), .val (.int (10 : Int32)), .val (.int (13 : Int32)), .val (.int (13 : Int32)), .val (.int (10 : Int32)), .val (.int (10 : Int32)), .val (.int (2 : Int32)), .val (.ref b174), .val (.int (own_min p3 (2 : Int32))), .unset, .unset] []))
      obtain ⟨spl, hs, hsl⟩ := own_minN hsp (show ((2 : Int32)).toInt = ((2 : Nat) : Int) from by decide)
      generalize own_min p3 (2 : Int32) = sv at hs ⊢
      show Go _ p e below s _ _ _ (T180.setTop (mkF m 123 #[.val (.ref a1), .val (.int p2), .val (.int p3), .val (.int p4), .val (.int p5), .val (.int (p2 &&& (3 : Int32))), .val (.int ((p2 >>> ((2 : Int32) &&& 31)).toInt8.toInt32)), .val (.int (10 : Int32)), .val (.int (13 : Int32)), .val (.int (13 : Int32)), .val (.int (10 : Int32)), .val (.int (10 : Int32)), .val (.int (2 : Int32)), .val (.ref b174), .val (.int sv), .unset, .unset] []))
      refine go (fun _ => XS.aloadN X180.here hx rfl (hb hby d4_123) rfl rfl) ?_
      show Go _ p e below s _ _ _ (T180.setTop (mkF m 124 #[.val (.ref a1), .val (.int p2), .val (.int p3), .val (.int p4), .val (.int p5), .val (.int (p2 &&& (3 : Int32))), .val (.int ((p2 >>> ((2 : Int32) &&& 31)).toInt8.toInt32)), .val (.int (10 : Int32)), .val (.int (13 : Int32)), .val (.int (13 : Int32)), .val (.int (10 : Int32)), .val (.int (10 : Int32)), .val (.int (2 : Int32)), .val (.ref b174), .val (.int sv), .unset, .unset] [(.ref a1)]))
      refine go (fun _ => XS.aload X180.here hx rfl (hb hby d4_124) rfl rfl) ?_
      show Go _ p e below s _ _ _ (T180.setTop (mkF m 126 #[.val (.ref a1), .val (.int p2), .val (.int p3), .val (.int p4), .val (.int p5), .val (.int (p2 &&& (3 : Int32))), .val (.int ((p2 >>> ((2 : Int32) &&& 31)).toInt8.toInt32)), .val (.int (10 : Int32)), .val (.int (13 : Int32)), .val (.int (13 : Int32)), .val (.int (10 : Int32)), .val (.int (10 : Int32)), .val (.int (2 : Int32)), .val (.ref b174), .val (.int sv), .unset, .unset] [(.ref b174), (.ref a1)]))
      refine go (fun _ => XS.iconst X180.here hx rfl (hb hby d4_126)) ?_
      show Go _ p e below s _ _ _ (T180.setTop (mkF m 127 #[.val (.ref a1), .val (.int p2), .val (.int p3), .val (.int p4), .val (.int p5), .val (.int (p2 &&& (3 : Int32))), .val (.int ((p2 >>> ((2 : Int32) &&& 31)).toInt8.toInt32)), .val (.int (10 : Int32)), .val (.int (13 : Int32)), .val (.int (13 : Int32)), .val (.int (10 : Int32)), .val (.int (10 : Int32)), .val (.int (2 : Int32)), .val (.ref b174), .val (.int sv), .unset, .unset] [(.int (1 : Int32)), (.ref b174), (.ref a1)]))
      refine go (fun _ => XS.iconst X180.here hx rfl (hb hby d4_127)) ?_
      show Go _ p e below s _ _ _ (T180.setTop (mkF m 128 #[.val (.ref a1), .val (.int p2), .val (.int p3), .val (.int p4), .val (.int p5), .val (.int (p2 &&& (3 : Int32))), .val (.int ((p2 >>> ((2 : Int32) &&& 31)).toInt8.toInt32)), .val (.int (10 : Int32)), .val (.int (13 : Int32)), .val (.int (13 : Int32)), .val (.int (10 : Int32)), .val (.int (10 : Int32)), .val (.int (2 : Int32)), .val (.ref b174), .val (.int sv), .unset, .unset] [(.int (1 : Int32)), (.int (1 : Int32)), (.ref b174), (.ref a1)]))
      refine go (fun _ => XS.iload X180.here hx rfl (hb hby d4_128) rfl) ?_
      show Go _ p e below s _ _ _ (T180.setTop (mkF m 130 #[.val (.ref a1), .val (.int p2), .val (.int p3), .val (.int p4), .val (.int p5), .val (.int (p2 &&& (3 : Int32))), .val (.int ((p2 >>> ((2 : Int32) &&& 31)).toInt8.toInt32)), .val (.int (10 : Int32)), .val (.int (13 : Int32)), .val (.int (13 : Int32)), .val (.int (10 : Int32)), .val (.int (10 : Int32)), .val (.int (2 : Int32)), .val (.ref b174), .val (.int sv), .unset, .unset] [(.int sv), (.int (1 : Int32)), (.int (1 : Int32)), (.ref b174), (.ref a1)]))
      refine go (fun _ => XS.iadd X180.here hx rfl (hb hby d4_130) rfl) ?_
      show Go _ p e below s _ _ _ (T180.setTop (mkF m 131 #[.val (.ref a1), .val (.int p2), .val (.int p3), .val (.int p4), .val (.int p5), .val (.int (p2 &&& (3 : Int32))), .val (.int ((p2 >>> ((2 : Int32) &&& 31)).toInt8.toInt32)), .val (.int (10 : Int32)), .val (.int (13 : Int32)), .val (.int (13 : Int32)), .val (.int (10 : Int32)), .val (.int (10 : Int32)), .val (.int (2 : Int32)), .val (.ref b174), .val (.int sv), .unset, .unset] [(.int ((1 : Int32) + sv)), (.int (1 : Int32)), (.ref b174), (.ref a1)]))
      obtain ⟨cq181, kq181, q181a, q181b, q181c⟩ := isOf hZ e180 c179_0
      obtain ⟨_, _, ⟨T181, L181, k181, n181⟩, -, X181, ⟨Lc181, hQ181, l181, y181, z181⟩, st181⟩ := X180.virtualBack hx (y := (⟨"com/example/dosisbog/dosisbog/HttpRequest$HeadEnd", "whole", "([BII)Z"⟩ : MethodName)) (z := (⟨"com/example/dosisbog/dosisbog/HttpRequest$HeadEnd", "whole", "([BII)Z"⟩ : MethodName)) hown (mvT hZ (hw _ (List.mem_of_getElem? (i := 21) rfl))) (mvT hZ (hw _ (List.mem_of_getElem? (i := 22) rfl))) (notFace_of_selects (args := #[]) (mvT hZ (hw _ (List.mem_of_getElem? (i := 24) rfl)))) (mvT hZ (hw _ (List.mem_of_getElem? (i := 24) rfl))) (mvT hZ (hw _ (List.mem_of_getElem? (i := 23) rfl))) (by decide) (backOf (W := 0) (rm6 l Z a0 hw [] a1 b174 (1 : Int32) ((1 : Int32) + sv) k174 (5 : Int32) [(.int (nar .byte (10 : Int32))), (.int (nar .byte (13 : Int32))), (.int (nar .byte (10 : Int32))), (.int (nar .byte (10 : Int32))), (.int (nar .byte (10 : Int32)))] (.int (0 : Int32)) (fun j => [(nar .byte (10 : Int32)), (nar .byte (13 : Int32)), (nar .byte (10 : Int32)), (nar .byte (10 : Int32)), (nar .byte (10 : Int32))].getD j 0) spl 1 x1 x2 x3 x4 x5 h179 n0 ZN179 c179_0 P1 VV179 (Nat.ne_of_lt lt174_a1_b174) c179_1 c179_2 c179_3 c179_4 c179_5 (by decide) (own_1p hs (by omega)) (by have : (5 : Int32).toInt = 5 := (by decide); omega) (own_getD [(nar .byte (10 : Int32)), (nar .byte (13 : Int32)), (nar .byte (10 : Int32)), (nar .byte (10 : Int32)), (nar .byte (10 : Int32))])) hZ (hw _ (List.mem_of_getElem? (i := 25) rfl)) (hw _ (List.mem_of_getElem? (i := 2) rfl)) (by decide) (by decide)) q181a q181c (g := (mkF m 131 #[.val (.ref a1), .val (.int p2), .val (.int p3), .val (.int p4), .val (.int p5), .val (.int (p2 &&& (3 : Int32))), .val (.int ((p2 >>> ((2 : Int32) &&& 31)).toInt8.toInt32)), .val (.int (10 : Int32)), .val (.int (13 : Int32)), .val (.int (13 : Int32)), .val (.int (10 : Int32)), .val (.int (10 : Int32)), .val (.int (2 : Int32)), .val (.ref b174), .val (.int sv), .unset, .unset] [(.int ((1 : Int32) + sv)), (.int (1 : Int32)), (.ref b174), (.ref a1)])) rfl (by rw [hml]; rfl) (Steps.refl _) (argsL := [(.ref b174), (.int (1 : Int32)), (.int ((1 : Int32) + sv))]) (rest := []) (lenOf pd_4_1 rfl) rfl (by show 2 * 0 + _ ≤ _; exact Nat.le_of_eq rfl) (hb hby d4_131) (fun _ _ => ⟨rfl, e180, (by decide : 1 + 0 ≤ _), (by decide : 5 + 0 ≤ _)⟩)
      dsimp only [Pt.U, Pt.locs, Pt.cells, Pt.slots] at X181 l181 y181 z181 st181 hQ181
      subst l181 y181 z181
      obtain ⟨w1181, w2181, w3181, w4181, w5181, rfl, N181q, K181, u181_1, u181_2, u181_3, u181_4, u181_5, u181_6⟩ := hQ181
      have N181 := Fr.app N180 N181q
      have c181_0 := c179_0.keep K181
      have c181_1 := c179_6.keep K181
      have c181_2 := VV179.keep K181 (ninS (Ne.symm (Nat.ne_of_lt lt174_a1_b174)) nin0)
      have KK181 : Keep h0 T181.heap [a1] := KK179.trans K181 (allS (P := fun x => x ∈ [a1] ∨ h0.size ≤ x) (Or.inl (List.mem_of_getElem? (i := 0) rfl)) all0)
      have ZN181 : n0 ≤ T181.heap.size := Nat.le_trans ZN179 K181.1
      refine goT st181 ?_
      show Go _ p e below s _ _ _ (T181.setTop (mkF m 134 #[.val (.ref a1), .val (.int p2), .val (.int p3), .val (.int p4), .val (.int p5), .val (.int (p2 &&& (3 : Int32))), .val (.int ((p2 >>> ((2 : Int32) &&& 31)).toInt8.toInt32)), .val (.int (10 : Int32)), .val (.int (13 : Int32)), .val (.int (13 : Int32)), .val (.int (10 : Int32)), .val (.int (10 : Int32)), .val (.int (2 : Int32)), .val (.ref b174), .val (.int sv), .unset, .unset] [(.int (nar .boolean w5181))]))
      refine go (fun _ => XS.istore X181.here hx rfl (hb hby d4_134) rfl (l' := #[.val (.ref a1), .val (.int p2), .val (.int p3), .val (.int p4), .val (.int p5), .val (.int (p2 &&& (3 : Int32))), .val (.int ((p2 >>> ((2 : Int32) &&& 31)).toInt8.toInt32)), .val (.int (10 : Int32)), .val (.int (13 : Int32)), .val (.int (13 : Int32)), .val (.int (10 : Int32)), .val (.int (10 : Int32)), .val (.int (2 : Int32)), .val (.ref b174), .val (.int sv), .val (.int (nar .boolean w5181)), .unset]) rfl) ?_
      show Go _ p e below s _ _ _ (T181.setTop (mkF m 136 #[.val (.ref a1), .val (.int p2), .val (.int p3), .val (.int p4), .val (.int p5), .val (.int (p2 &&& (3 : Int32))), .val (.int ((p2 >>> ((2 : Int32) &&& 31)).toInt8.toInt32)), .val (.int (10 : Int32)), .val (.int (13 : Int32)), .val (.int (13 : Int32)), .val (.int (10 : Int32)), .val (.int (10 : Int32)), .val (.int (2 : Int32)), .val (.ref b174), .val (.int sv), .val (.int (nar .boolean w5181)), .unset] []))
      refine go (fun _ => XS.aloadN X181.here hx rfl (hb hby d4_136) rfl rfl) ?_
      show Go _ p e below s _ _ _ (T181.setTop (mkF m 137 #[.val (.ref a1), .val (.int p2), .val (.int p3), .val (.int p4), .val (.int p5), .val (.int (p2 &&& (3 : Int32))), .val (.int ((p2 >>> ((2 : Int32) &&& 31)).toInt8.toInt32)), .val (.int (10 : Int32)), .val (.int (13 : Int32)), .val (.int (13 : Int32)), .val (.int (10 : Int32)), .val (.int (10 : Int32)), .val (.int (2 : Int32)), .val (.ref b174), .val (.int sv), .val (.int (nar .boolean w5181)), .unset] [(.ref a1)]))
      refine go (fun _ => XS.aload X181.here hx rfl (hb hby d4_137) rfl rfl) ?_
      show Go _ p e below s _ _ _ (T181.setTop (mkF m 139 #[.val (.ref a1), .val (.int p2), .val (.int p3), .val (.int p4), .val (.int p5), .val (.int (p2 &&& (3 : Int32))), .val (.int ((p2 >>> ((2 : Int32) &&& 31)).toInt8.toInt32)), .val (.int (10 : Int32)), .val (.int (13 : Int32)), .val (.int (13 : Int32)), .val (.int (10 : Int32)), .val (.int (10 : Int32)), .val (.int (2 : Int32)), .val (.ref b174), .val (.int sv), .val (.int (nar .boolean w5181)), .unset] [(.ref b174), (.ref a1)]))
      refine go (fun _ => XS.iconst X181.here hx rfl (hb hby d4_139)) ?_
      show Go _ p e below s _ _ _ (T181.setTop (mkF m 140 #[.val (.ref a1), .val (.int p2), .val (.int p3), .val (.int p4), .val (.int p5), .val (.int (p2 &&& (3 : Int32))), .val (.int ((p2 >>> ((2 : Int32) &&& 31)).toInt8.toInt32)), .val (.int (10 : Int32)), .val (.int (13 : Int32)), .val (.int (13 : Int32)), .val (.int (10 : Int32)), .val (.int (10 : Int32)), .val (.int (2 : Int32)), .val (.ref b174), .val (.int sv), .val (.int (nar .boolean w5181)), .unset] [(.int (1 : Int32)), (.ref b174), (.ref a1)]))
      refine go (fun _ => XS.iload X181.here hx rfl (hb hby d4_140) rfl) ?_
      show Go _ p e below s _ _ _ (T181.setTop (mkF m 142 #[.val (.ref a1), .val (.int p2), .val (.int p3), .val (.int p4), .val (.int p5), .val (.int (p2 &&& (3 : Int32))), .val (.int ((p2 >>> ((2 : Int32) &&& 31)).toInt8.toInt32)), .val (.int (10 : Int32)), .val (.int (13 : Int32)), .val (.int (13 : Int32)), .val (.int (10 : Int32)), .val (.int (10 : Int32)), .val (.int (2 : Int32)), .val (.ref b174), .val (.int sv), .val (.int (nar .boolean w5181)), .unset] [(.int sv), (.int (1 : Int32)), (.ref b174), (.ref a1)]))
      refine go (fun _ => XS.iadd X181.here hx rfl (hb hby d4_142) rfl) ?_
      show Go _ p e below s _ _ _ (T181.setTop (mkF m 143 #[.val (.ref a1), .val (.int p2), .val (.int p3), .val (.int p4), .val (.int p5), .val (.int (p2 &&& (3 : Int32))), .val (.int ((p2 >>> ((2 : Int32) &&& 31)).toInt8.toInt32)), .val (.int (10 : Int32)), .val (.int (13 : Int32)), .val (.int (13 : Int32)), .val (.int (10 : Int32)), .val (.int (10 : Int32)), .val (.int (2 : Int32)), .val (.ref b174), .val (.int sv), .val (.int (nar .boolean w5181)), .unset] [(.int ((1 : Int32) + sv)), (.ref b174), (.ref a1)]))
      refine go (fun _ => XS.iconst X181.here hx rfl (hb hby d4_143)) ?_
      show Go _ p e below s _ _ _ (T181.setTop (mkF m 144 #[.val (.ref a1), .val (.int p2), .val (.int p3), .val (.int p4), .val (.int p5), .val (.int (p2 &&& (3 : Int32))), .val (.int ((p2 >>> ((2 : Int32) &&& 31)).toInt8.toInt32)), .val (.int (10 : Int32)), .val (.int (13 : Int32)), .val (.int (13 : Int32)), .val (.int (10 : Int32)), .val (.int (10 : Int32)), .val (.int (2 : Int32)), .val (.ref b174), .val (.int sv), .val (.int (nar .boolean w5181)), .unset] [(.int (1 : Int32)), (.int ((1 : Int32) + sv)), (.ref b174), (.ref a1)]))
      refine go (fun _ => XS.iload X181.here hx rfl (hb hby d4_144) rfl) ?_
      show Go _ p e below s _ _ _ (T181.setTop (mkF m 146 #[.val (.ref a1), .val (.int p2), .val (.int p3), .val (.int p4), .val (.int p5), .val (.int (p2 &&& (3 : Int32))), .val (.int ((p2 >>> ((2 : Int32) &&& 31)).toInt8.toInt32)), .val (.int (10 : Int32)), .val (.int (13 : Int32)), .val (.int (13 : Int32)), .val (.int (10 : Int32)), .val (.int (10 : Int32)), .val (.int (2 : Int32)), .val (.ref b174), .val (.int sv), .val (.int (nar .boolean w5181)), .unset] [(.int (2 : Int32)), (.int (1 : Int32)), (.int ((1 : Int32) + sv)), (.ref b174), (.ref a1)]))
      refine go (fun _ => XS.iadd X181.here hx rfl (hb hby d4_146) rfl) ?_
      show Go _ p e below s _ _ _ (T181.setTop (mkF m 147 #[.val (.ref a1), .val (.int p2), .val (.int p3), .val (.int p4), .val (.int p5), .val (.int (p2 &&& (3 : Int32))), .val (.int ((p2 >>> ((2 : Int32) &&& 31)).toInt8.toInt32)), .val (.int (10 : Int32)), .val (.int (13 : Int32)), .val (.int (13 : Int32)), .val (.int (10 : Int32)), .val (.int (10 : Int32)), .val (.int (2 : Int32)), .val (.ref b174), .val (.int sv), .val (.int (nar .boolean w5181)), .unset] [(.int (3 : Int32)), (.int ((1 : Int32) + sv)), (.ref b174), (.ref a1)]))
      obtain ⟨cq182, kq182, q182a, q182b, q182c⟩ := isOf hZ rfl c181_0
      obtain ⟨_, _, ⟨T182, L182, k182, n182⟩, -, X182, ⟨Lc182, hQ182, l182, y182, z182⟩, st182⟩ := X181.virtualBack hx (y := (⟨"com/example/dosisbog/dosisbog/HttpRequest$HeadEnd", "whole", "([BII)Z"⟩ : MethodName)) (z := (⟨"com/example/dosisbog/dosisbog/HttpRequest$HeadEnd", "whole", "([BII)Z"⟩ : MethodName)) hown (mvT hZ (hw _ (List.mem_of_getElem? (i := 21) rfl))) (mvT hZ (hw _ (List.mem_of_getElem? (i := 22) rfl))) (notFace_of_selects (args := #[]) (mvT hZ (hw _ (List.mem_of_getElem? (i := 24) rfl)))) (mvT hZ (hw _ (List.mem_of_getElem? (i := 24) rfl))) (mvT hZ (hw _ (List.mem_of_getElem? (i := 23) rfl))) (by decide) (backOf (W := 0) (rm6 l Z a0 hw [] a1 b174 ((1 : Int32) + sv) (3 : Int32) k174 (5 : Int32) [(.int (nar .byte (10 : Int32))), (.int (nar .byte (13 : Int32))), (.int (nar .byte (10 : Int32))), (.int (nar .byte (10 : Int32))), (.int (nar .byte (10 : Int32)))] (.int (0 : Int32)) (fun j => [(nar .byte (10 : Int32)), (nar .byte (13 : Int32)), (nar .byte (10 : Int32)), (nar .byte (10 : Int32)), (nar .byte (10 : Int32))].getD j 0) (2 - spl) (1 + spl) w1181 w2181 w3181 w4181 w5181 (T181.heap) n0 ZN181 c181_0 P1 c181_2 (Nat.ne_of_lt lt174_a1_b174) u181_1 u181_2 u181_3 u181_4 u181_5 (own_1p hs (by omega)) (by have : ((3 : Int32)).toInt = 3 := (by decide); omega) (by have : (5 : Int32).toInt = 5 := (by decide); omega) (own_getD [(nar .byte (10 : Int32)), (nar .byte (13 : Int32)), (nar .byte (10 : Int32)), (nar .byte (10 : Int32)), (nar .byte (10 : Int32))])) hZ (hw _ (List.mem_of_getElem? (i := 25) rfl)) (hw _ (List.mem_of_getElem? (i := 2) rfl)) (by decide) (by decide)) q182a q182c (g := (mkF m 147 #[.val (.ref a1), .val (.int p2), .val (.int p3), .val (.int p4), .val (.int p5), .val (.int (p2 &&& (3 : Int32))), .val (.int ((p2 >>> ((2 : Int32) &&& 31)).toInt8.toInt32)), .val (.int (10 : Int32)), .val (.int (13 : Int32)), .val (.int (13 : Int32)), .val (.int (10 : Int32)), .val (.int (10 : Int32)), .val (.int (2 : Int32)), .val (.ref b174), .val (.int sv), .val (.int (nar .boolean w5181)), .unset] [(.int (3 : Int32)), (.int ((1 : Int32) + sv)), (.ref b174), (.ref a1)])) rfl (by rw [hml]; rfl) (Steps.refl _) (argsL := [(.ref b174), (.int ((1 : Int32) + sv)), (.int (3 : Int32))]) (rest := []) (lenOf pd_4_1 rfl) rfl (by show 2 * 0 + _ ≤ _; exact Nat.le_of_eq rfl) (hb hby d4_147) (fun _ _ => ⟨rfl, rfl, (by decide : 1 + 0 ≤ _), (by decide : 5 + 0 ≤ _)⟩)
      dsimp only [Pt.U, Pt.locs, Pt.cells, Pt.slots] at X182 l182 y182 z182 st182 hQ182
      subst l182 y182 z182
      obtain ⟨w1182, w2182, w3182, w4182, w5182, rfl, N182q, K182, u182_1, u182_2, u182_3, u182_4, u182_5, u182_6⟩ := hQ182
      have N182 := Fr.app N181 N182q
      have c182_0 := c181_0.keep K182
      have c182_1 := c181_1.keep K182
      have c182_2 := c181_2.keep K182 (ninS (Ne.symm (Nat.ne_of_lt lt174_a1_b174)) nin0)
      have KK182 : Keep h0 T182.heap [a1] := KK181.trans K182 (allS (P := fun x => x ∈ [a1] ∨ h0.size ≤ x) (Or.inl (List.mem_of_getElem? (i := 0) rfl)) all0)
      have ZN182 : n0 ≤ T182.heap.size := Nat.le_trans ZN181 K182.1
      refine goT st182 ?_
      show Go _ p e below s _ _ _ (T182.setTop (mkF m 150 #[.val (.ref a1), .val (.int p2), .val (.int p3), .val (.int p4), .val (.int p5), .val (.int (p2 &&& (3 : Int32))), .val (.int ((p2 >>> ((2 : Int32) &&& 31)).toInt8.toInt32)), .val (.int (10 : Int32)), .val (.int (13 : Int32)), .val (.int (13 : Int32)), .val (.int (10 : Int32)), .val (.int (10 : Int32)), .val (.int (2 : Int32)), .val (.ref b174), .val (.int sv), .val (.int (nar .boolean w5181)), .unset] [(.int (nar .boolean w5182))]))
      refine go (fun _ => XS.istore X182.here hx rfl (hb hby d4_150) rfl (l' := #[.val (.ref a1), .val (.int p2), .val (.int p3), .val (.int p4), .val (.int p5), .val (.int (p2 &&& (3 : Int32))), .val (.int ((p2 >>> ((2 : Int32) &&& 31)).toInt8.toInt32)), .val (.int (10 : Int32)), .val (.int (13 : Int32)), .val (.int (13 : Int32)), .val (.int (10 : Int32)), .val (.int (10 : Int32)), .val (.int (2 : Int32)), .val (.ref b174), .val (.int sv), .val (.int (nar .boolean w5181)), .val (.int (nar .boolean w5182))]) rfl) ?_
      show Go _ p e below s _ _ _ (T182.setTop (mkF m 152 #[.val (.ref a1), .val (.int p2), .val (.int p3), .val (.int p4), .val (.int p5), .val (.int (p2 &&& (3 : Int32))), .val (.int ((p2 >>> ((2 : Int32) &&& 31)).toInt8.toInt32)), .val (.int (10 : Int32)), .val (.int (13 : Int32)), .val (.int (13 : Int32)), .val (.int (10 : Int32)), .val (.int (10 : Int32)), .val (.int (2 : Int32)), .val (.ref b174), .val (.int sv), .val (.int (nar .boolean w5181)), .val (.int (nar .boolean w5182))] []))
      have hline : ∀ x1 x3 : Int32, 0 ≤ x1.toInt → x1.toInt ≤ N → (rq = 0 ∨ rq = 1) → own_inv (own_run (fun j => [(nar .byte (10 : Int32)), (nar .byte (13 : Int32)), (nar .byte (10 : Int32)), (nar .byte (10 : Int32)), (nar .byte (10 : Int32))].getD j 0) 2 1 (x1, 0, x3, rq, 0)) (own_rq rq (own_emp (p2 &&& (3 : Int32)) ((p2 >>> ((2 : Int32) &&& 31)) &&& (255 : Int32)))) (own_fd 0 (own_emp (p2 &&& (3 : Int32)) ((p2 >>> ((2 : Int32) &&& 31)) &&& (255 : Int32))) rq) (N + 3) := by
        intro x1 x3 g1 g2 g3
        rw [show (own_emp (p2 &&& (3 : Int32)) ((p2 >>> ((2 : Int32) &&& 31)) &&& (255 : Int32))) = 1 from by unfold own_emp; simp only [if_neg hc33_160, if_pos hc45_173]]
        exact own_line1 rfl rfl g1 g2 (by omega) g3
      obtain ⟨f1, f2, f3, f4, f5⟩ := own_feed (g := (fun j => [(nar .byte (10 : Int32)), (nar .byte (13 : Int32)), (nar .byte (10 : Int32)), (nar .byte (10 : Int32)), (nar .byte (10 : Int32))].getD j 0)) hsl u181_6 u182_6 hin (own_e01 _ _) hline
      dsimp only at f2 f3 f4 f5
      refine go (fun _ => XS.iloadN X182.here hx rfl (hb hby d4_152) rfl) ?_
      show Go _ p e below s _ _ _ (T182.setTop (mkF m 153 #[.val (.ref a1), .val (.int p2), .val (.int p3), .val (.int p4), .val (.int p5), .val (.int (p2 &&& (3 : Int32))), .val (.int ((p2 >>> ((2 : Int32) &&& 31)).toInt8.toInt32)), .val (.int (10 : Int32)), .val (.int (13 : Int32)), .val (.int (13 : Int32)), .val (.int (10 : Int32)), .val (.int (10 : Int32)), .val (.int (2 : Int32)), .val (.ref b174), .val (.int sv), .val (.int (nar .boolean w5181)), .val (.int (nar .boolean w5182))] [(.int p4)]))
      by_cases hc153_183 : p4 = (0 : Int32)
      · refine go (fun _ => XS.ifYes X182.here hx rfl (pc0 := 153) (pc' := 161) rfl (hb hby d4_153) rfl ((if0 _ _).trans (teq hc153_183).1) (by decide) (by decide)) ?_
        show Go _ p e below s _ _ _ (T182.setTop (mkF m 161 #[.val (.ref a1), .val (.int p2), .val (.int p3), .val (.int p4), .val (.int p5), .val (.int (p2 &&& (3 : Int32))), .val (.int ((p2 >>> ((2 : Int32) &&& 31)).toInt8.toInt32)), .val (.int (10 : Int32)), .val (.int (13 : Int32)), .val (.int (13 : Int32)), .val (.int (10 : Int32)), .val (.int (10 : Int32)), .val (.int (2 : Int32)), .val (.ref b174), .val (.int sv), .val (.int (nar .boolean w5181)), .val (.int (nar .boolean w5182))] []))
        refine go (fun _ => XS.iload X182.here hx rfl (hb hby d4_161) rfl) ?_
        show Go _ p e below s _ _ _ (T182.setTop (mkF m 163 #[.val (.ref a1), .val (.int p2), .val (.int p3), .val (.int p4), .val (.int p5), .val (.int (p2 &&& (3 : Int32))), .val (.int ((p2 >>> ((2 : Int32) &&& 31)).toInt8.toInt32)), .val (.int (10 : Int32)), .val (.int (13 : Int32)), .val (.int (13 : Int32)), .val (.int (10 : Int32)), .val (.int (10 : Int32)), .val (.int (2 : Int32)), .val (.ref b174), .val (.int sv), .val (.int (nar .boolean w5181)), .val (.int (nar .boolean w5182))] [(.int (nar .boolean w5181))]))
        by_cases hc163_184 : (nar .boolean w5181) = (0 : Int32)
        · refine go (fun _ => XS.ifYes X182.here hx rfl (pc0 := 163) (pc' := 171) rfl (hb hby d4_163) rfl ((if0 _ _).trans (teq hc163_184).1) (by decide) (by decide)) ?_
          show Go _ p e below s _ _ _ (T182.setTop (mkF m 171 #[.val (.ref a1), .val (.int p2), .val (.int p3), .val (.int p4), .val (.int p5), .val (.int (p2 &&& (3 : Int32))), .val (.int ((p2 >>> ((2 : Int32) &&& 31)).toInt8.toInt32)), .val (.int (10 : Int32)), .val (.int (13 : Int32)), .val (.int (13 : Int32)), .val (.int (10 : Int32)), .val (.int (10 : Int32)), .val (.int (2 : Int32)), .val (.ref b174), .val (.int sv), .val (.int (nar .boolean w5181)), .val (.int (nar .boolean w5182))] []))
          refine go (fun _ => XS.iload X182.here hx rfl (hb hby d4_171) rfl) ?_
          show Go _ p e below s _ _ _ (T182.setTop (mkF m 173 #[.val (.ref a1), .val (.int p2), .val (.int p3), .val (.int p4), .val (.int p5), .val (.int (p2 &&& (3 : Int32))), .val (.int ((p2 >>> ((2 : Int32) &&& 31)).toInt8.toInt32)), .val (.int (10 : Int32)), .val (.int (13 : Int32)), .val (.int (13 : Int32)), .val (.int (10 : Int32)), .val (.int (10 : Int32)), .val (.int (2 : Int32)), .val (.ref b174), .val (.int sv), .val (.int (nar .boolean w5181)), .val (.int (nar .boolean w5182))] [(.int (nar .boolean w5182))]))
          refine go (fun _ => XS.iload X182.here hx rfl (hb hby d4_173) rfl) ?_
          show Go _ p e below s _ _ _ (T182.setTop (mkF m 175 #[.val (.ref a1), .val (.int p2), .val (.int p3), .val (.int p4), .val (.int p5), .val (.int (p2 &&& (3 : Int32))), .val (.int ((p2 >>> ((2 : Int32) &&& 31)).toInt8.toInt32)), .val (.int (10 : Int32)), .val (.int (13 : Int32)), .val (.int (13 : Int32)), .val (.int (10 : Int32)), .val (.int (10 : Int32)), .val (.int (2 : Int32)), .val (.ref b174), .val (.int sv), .val (.int (nar .boolean w5181)), .val (.int (nar .boolean w5182))] [(.int p5), (.int (nar .boolean w5182))]))
          refine go (fun _ => XS.icmpNo X182.here hx rfl (hb hby d4_175) rfl (teq (by rw [h5, ← f4]; exact own_nb (by rw [f4]; exact f1.2.1))).2) ?_
          show Go _ p e below s _ _ _ (T182.setTop (mkF m 178 #[.val (.ref a1), .val (.int p2), .val (.int p3), .val (.int p4), .val (.int p5), .val (.int (p2 &&& (3 : Int32))), .val (.int ((p2 >>> ((2 : Int32) &&& 31)).toInt8.toInt32)), .val (.int (10 : Int32)), .val (.int (13 : Int32)), .val (.int (13 : Int32)), .val (.int (10 : Int32)), .val (.int (10 : Int32)), .val (.int (2 : Int32)), .val (.ref b174), .val (.int sv), .val (.int (nar .boolean w5181)), .val (.int (nar .boolean w5182))] []))
          refine go (fun _ => XS.iconst X182.here hx rfl (hb hby d4_178)) ?_
          show Go _ p e below s _ _ _ (T182.setTop (mkF m 179 #[.val (.ref a1), .val (.int p2), .val (.int p3), .val (.int p4), .val (.int p5), .val (.int (p2 &&& (3 : Int32))), .val (.int ((p2 >>> ((2 : Int32) &&& 31)).toInt8.toInt32)), .val (.int (10 : Int32)), .val (.int (13 : Int32)), .val (.int (13 : Int32)), .val (.int (10 : Int32)), .val (.int (10 : Int32)), .val (.int (2 : Int32)), .val (.ref b174), .val (.int sv), .val (.int (nar .boolean w5181)), .val (.int (nar .boolean w5182))] [(.int (1 : Int32))]))
          refine go (fun _ => XS.goto X182.here hx rfl (pc0 := 179) (pc' := 183) rfl (hb hby d4_179) (by decide) (by decide)) ?_
          show Go _ p e below s _ _ _ (T182.setTop (mkF m 183 #[.val (.ref a1), .val (.int p2), .val (.int p3), .val (.int p4), .val (.int p5), .val (.int (p2 &&& (3 : Int32))), .val (.int ((p2 >>> ((2 : Int32) &&& 31)).toInt8.toInt32)), .val (.int (10 : Int32)), .val (.int (13 : Int32)), .val (.int (13 : Int32)), .val (.int (10 : Int32)), .val (.int (10 : Int32)), .val (.int (2 : Int32)), .val (.ref b174), .val (.int sv), .val (.int (nar .boolean w5181)), .val (.int (nar .boolean w5182))] [(.int (1 : Int32))]))
          refine goRet X182 hx Bd.notSynchronized Bd.returns rfl (Or.inl ⟨rfl, Or.inr (Or.inl rfl), _, rfl⟩) (hb hby d4_183) (by decide) (by decide) (by refine ⟨w1182, w2182, w3182, w4182, w5182, rfl, N182, KK182, u182_1, u182_2, u182_3, u182_4, u182_5, f1⟩)
        · refine go (fun _ => XS.ifNo X182.here hx rfl (hb hby d4_163) rfl ((if0 _ _).trans (feq hc163_184).1)) ?_
          show Go _ p e below s _ _ _ (T182.setTop (mkF m 166 #[.val (.ref a1), .val (.int p2), .val (.int p3), .val (.int p4), .val (.int p5), .val (.int (p2 &&& (3 : Int32))), .val (.int ((p2 >>> ((2 : Int32) &&& 31)).toInt8.toInt32)), .val (.int (10 : Int32)), .val (.int (13 : Int32)), .val (.int (13 : Int32)), .val (.int (10 : Int32)), .val (.int (10 : Int32)), .val (.int (2 : Int32)), .val (.ref b174), .val (.int sv), .val (.int (nar .boolean w5181)), .val (.int (nar .boolean w5182))] []))
          refine go (fun _ => XS.iload X182.here hx rfl (hb hby d4_166) rfl) ?_
          show Go _ p e below s _ _ _ (T182.setTop (mkF m 168 #[.val (.ref a1), .val (.int p2), .val (.int p3), .val (.int p4), .val (.int p5), .val (.int (p2 &&& (3 : Int32))), .val (.int ((p2 >>> ((2 : Int32) &&& 31)).toInt8.toInt32)), .val (.int (10 : Int32)), .val (.int (13 : Int32)), .val (.int (13 : Int32)), .val (.int (10 : Int32)), .val (.int (10 : Int32)), .val (.int (2 : Int32)), .val (.ref b174), .val (.int sv), .val (.int (nar .boolean w5181)), .val (.int (nar .boolean w5182))] [(.int p5)]))
          refine go (fun _ => XS.ifNo X182.here hx rfl (hb hby d4_168) rfl ((if0 _ _).trans (feq (fun u => by rw [h5, f3 (fun v => hc163_184 (by rw [own_nb f5]; exact v))] at u; exact absurd u (by decide))).1)) ?_
          show Go _ p e below s _ _ _ (T182.setTop (mkF m 171 #[.val (.ref a1), .val (.int p2), .val (.int p3), .val (.int p4), .val (.int p5), .val (.int (p2 &&& (3 : Int32))), .val (.int ((p2 >>> ((2 : Int32) &&& 31)).toInt8.toInt32)), .val (.int (10 : Int32)), .val (.int (13 : Int32)), .val (.int (13 : Int32)), .val (.int (10 : Int32)), .val (.int (10 : Int32)), .val (.int (2 : Int32)), .val (.ref b174), .val (.int sv), .val (.int (nar .boolean w5181)), .val (.int (nar .boolean w5182))] []))
          refine go (fun _ => XS.iload X182.here hx rfl (hb hby d4_171) rfl) ?_
          show Go _ p e below s _ _ _ (T182.setTop (mkF m 173 #[.val (.ref a1), .val (.int p2), .val (.int p3), .val (.int p4), .val (.int p5), .val (.int (p2 &&& (3 : Int32))), .val (.int ((p2 >>> ((2 : Int32) &&& 31)).toInt8.toInt32)), .val (.int (10 : Int32)), .val (.int (13 : Int32)), .val (.int (13 : Int32)), .val (.int (10 : Int32)), .val (.int (10 : Int32)), .val (.int (2 : Int32)), .val (.ref b174), .val (.int sv), .val (.int (nar .boolean w5181)), .val (.int (nar .boolean w5182))] [(.int (nar .boolean w5182))]))
          refine go (fun _ => XS.iload X182.here hx rfl (hb hby d4_173) rfl) ?_
          show Go _ p e below s _ _ _ (T182.setTop (mkF m 175 #[.val (.ref a1), .val (.int p2), .val (.int p3), .val (.int p4), .val (.int p5), .val (.int (p2 &&& (3 : Int32))), .val (.int ((p2 >>> ((2 : Int32) &&& 31)).toInt8.toInt32)), .val (.int (10 : Int32)), .val (.int (13 : Int32)), .val (.int (13 : Int32)), .val (.int (10 : Int32)), .val (.int (10 : Int32)), .val (.int (2 : Int32)), .val (.ref b174), .val (.int sv), .val (.int (nar .boolean w5181)), .val (.int (nar .boolean w5182))] [(.int p5), (.int (nar .boolean w5182))]))
          refine go (fun _ => XS.icmpNo X182.here hx rfl (hb hby d4_175) rfl (teq (by rw [h5, ← f4]; exact own_nb (by rw [f4]; exact f1.2.1))).2) ?_
          show Go _ p e below s _ _ _ (T182.setTop (mkF m 178 #[.val (.ref a1), .val (.int p2), .val (.int p3), .val (.int p4), .val (.int p5), .val (.int (p2 &&& (3 : Int32))), .val (.int ((p2 >>> ((2 : Int32) &&& 31)).toInt8.toInt32)), .val (.int (10 : Int32)), .val (.int (13 : Int32)), .val (.int (13 : Int32)), .val (.int (10 : Int32)), .val (.int (10 : Int32)), .val (.int (2 : Int32)), .val (.ref b174), .val (.int sv), .val (.int (nar .boolean w5181)), .val (.int (nar .boolean w5182))] []))
          refine go (fun _ => XS.iconst X182.here hx rfl (hb hby d4_178)) ?_
          show Go _ p e below s _ _ _ (T182.setTop (mkF m 179 #[.val (.ref a1), .val (.int p2), .val (.int p3), .val (.int p4), .val (.int p5), .val (.int (p2 &&& (3 : Int32))), .val (.int ((p2 >>> ((2 : Int32) &&& 31)).toInt8.toInt32)), .val (.int (10 : Int32)), .val (.int (13 : Int32)), .val (.int (13 : Int32)), .val (.int (10 : Int32)), .val (.int (10 : Int32)), .val (.int (2 : Int32)), .val (.ref b174), .val (.int sv), .val (.int (nar .boolean w5181)), .val (.int (nar .boolean w5182))] [(.int (1 : Int32))]))
          refine go (fun _ => XS.goto X182.here hx rfl (pc0 := 179) (pc' := 183) rfl (hb hby d4_179) (by decide) (by decide)) ?_
          show Go _ p e below s _ _ _ (T182.setTop (mkF m 183 #[.val (.ref a1), .val (.int p2), .val (.int p3), .val (.int p4), .val (.int p5), .val (.int (p2 &&& (3 : Int32))), .val (.int ((p2 >>> ((2 : Int32) &&& 31)).toInt8.toInt32)), .val (.int (10 : Int32)), .val (.int (13 : Int32)), .val (.int (13 : Int32)), .val (.int (10 : Int32)), .val (.int (10 : Int32)), .val (.int (2 : Int32)), .val (.ref b174), .val (.int sv), .val (.int (nar .boolean w5181)), .val (.int (nar .boolean w5182))] [(.int (1 : Int32))]))
          refine goRet X182 hx Bd.notSynchronized Bd.returns rfl (Or.inl ⟨rfl, Or.inr (Or.inl rfl), _, rfl⟩) (hb hby d4_183) (by decide) (by decide) (by refine ⟨w1182, w2182, w3182, w4182, w5182, rfl, N182, KK182, u182_1, u182_2, u182_3, u182_4, u182_5, f1⟩)
      · refine go (fun _ => XS.ifNo X182.here hx rfl (hb hby d4_153) rfl ((if0 _ _).trans (feq hc153_183).1)) ?_
        show Go _ p e below s _ _ _ (T182.setTop (mkF m 156 #[.val (.ref a1), .val (.int p2), .val (.int p3), .val (.int p4), .val (.int p5), .val (.int (p2 &&& (3 : Int32))), .val (.int ((p2 >>> ((2 : Int32) &&& 31)).toInt8.toInt32)), .val (.int (10 : Int32)), .val (.int (13 : Int32)), .val (.int (13 : Int32)), .val (.int (10 : Int32)), .val (.int (10 : Int32)), .val (.int (2 : Int32)), .val (.ref b174), .val (.int sv), .val (.int (nar .boolean w5181)), .val (.int (nar .boolean w5182))] []))
        refine go (fun _ => XS.iload X182.here hx rfl (hb hby d4_156) rfl) ?_
        show Go _ p e below s _ _ _ (T182.setTop (mkF m 158 #[.val (.ref a1), .val (.int p2), .val (.int p3), .val (.int p4), .val (.int p5), .val (.int (p2 &&& (3 : Int32))), .val (.int ((p2 >>> ((2 : Int32) &&& 31)).toInt8.toInt32)), .val (.int (10 : Int32)), .val (.int (13 : Int32)), .val (.int (13 : Int32)), .val (.int (10 : Int32)), .val (.int (10 : Int32)), .val (.int (2 : Int32)), .val (.ref b174), .val (.int sv), .val (.int (nar .boolean w5181)), .val (.int (nar .boolean w5182))] [(.int (nar .boolean w5181))]))
        refine go (fun _ => XS.ifNo X182.here hx rfl (hb hby d4_158) rfl ((if0 _ _).trans (feq (fun u => by rw [own_nb f5, f2 (fun v => hc153_183 (h4.trans v))] at u; exact absurd u (by decide))).1)) ?_
        show Go _ p e below s _ _ _ (T182.setTop (mkF m 161 #[.val (.ref a1), .val (.int p2), .val (.int p3), .val (.int p4), .val (.int p5), .val (.int (p2 &&& (3 : Int32))), .val (.int ((p2 >>> ((2 : Int32) &&& 31)).toInt8.toInt32)), .val (.int (10 : Int32)), .val (.int (13 : Int32)), .val (.int (13 : Int32)), .val (.int (10 : Int32)), .val (.int (10 : Int32)), .val (.int (2 : Int32)), .val (.ref b174), .val (.int sv), .val (.int (nar .boolean w5181)), .val (.int (nar .boolean w5182))] []))
        refine go (fun _ => XS.iload X182.here hx rfl (hb hby d4_161) rfl) ?_
        show Go _ p e below s _ _ _ (T182.setTop (mkF m 163 #[.val (.ref a1), .val (.int p2), .val (.int p3), .val (.int p4), .val (.int p5), .val (.int (p2 &&& (3 : Int32))), .val (.int ((p2 >>> ((2 : Int32) &&& 31)).toInt8.toInt32)), .val (.int (10 : Int32)), .val (.int (13 : Int32)), .val (.int (13 : Int32)), .val (.int (10 : Int32)), .val (.int (10 : Int32)), .val (.int (2 : Int32)), .val (.ref b174), .val (.int sv), .val (.int (nar .boolean w5181)), .val (.int (nar .boolean w5182))] [(.int (nar .boolean w5181))]))
        by_cases hc163_185 : (nar .boolean w5181) = (0 : Int32)
        · refine go (fun _ => XS.ifYes X182.here hx rfl (pc0 := 163) (pc' := 171) rfl (hb hby d4_163) rfl ((if0 _ _).trans (teq hc163_185).1) (by decide) (by decide)) ?_
          show Go _ p e below s _ _ _ (T182.setTop (mkF m 171 #[.val (.ref a1), .val (.int p2), .val (.int p3), .val (.int p4), .val (.int p5), .val (.int (p2 &&& (3 : Int32))), .val (.int ((p2 >>> ((2 : Int32) &&& 31)).toInt8.toInt32)), .val (.int (10 : Int32)), .val (.int (13 : Int32)), .val (.int (13 : Int32)), .val (.int (10 : Int32)), .val (.int (10 : Int32)), .val (.int (2 : Int32)), .val (.ref b174), .val (.int sv), .val (.int (nar .boolean w5181)), .val (.int (nar .boolean w5182))] []))
          refine go (fun _ => XS.iload X182.here hx rfl (hb hby d4_171) rfl) ?_
          show Go _ p e below s _ _ _ (T182.setTop (mkF m 173 #[.val (.ref a1), .val (.int p2), .val (.int p3), .val (.int p4), .val (.int p5), .val (.int (p2 &&& (3 : Int32))), .val (.int ((p2 >>> ((2 : Int32) &&& 31)).toInt8.toInt32)), .val (.int (10 : Int32)), .val (.int (13 : Int32)), .val (.int (13 : Int32)), .val (.int (10 : Int32)), .val (.int (10 : Int32)), .val (.int (2 : Int32)), .val (.ref b174), .val (.int sv), .val (.int (nar .boolean w5181)), .val (.int (nar .boolean w5182))] [(.int (nar .boolean w5182))]))
          refine go (fun _ => XS.iload X182.here hx rfl (hb hby d4_173) rfl) ?_
          show Go _ p e below s _ _ _ (T182.setTop (mkF m 175 #[.val (.ref a1), .val (.int p2), .val (.int p3), .val (.int p4), .val (.int p5), .val (.int (p2 &&& (3 : Int32))), .val (.int ((p2 >>> ((2 : Int32) &&& 31)).toInt8.toInt32)), .val (.int (10 : Int32)), .val (.int (13 : Int32)), .val (.int (13 : Int32)), .val (.int (10 : Int32)), .val (.int (10 : Int32)), .val (.int (2 : Int32)), .val (.ref b174), .val (.int sv), .val (.int (nar .boolean w5181)), .val (.int (nar .boolean w5182))] [(.int p5), (.int (nar .boolean w5182))]))
          refine go (fun _ => XS.icmpNo X182.here hx rfl (hb hby d4_175) rfl (teq (by rw [h5, ← f4]; exact own_nb (by rw [f4]; exact f1.2.1))).2) ?_
          show Go _ p e below s _ _ _ (T182.setTop (mkF m 178 #[.val (.ref a1), .val (.int p2), .val (.int p3), .val (.int p4), .val (.int p5), .val (.int (p2 &&& (3 : Int32))), .val (.int ((p2 >>> ((2 : Int32) &&& 31)).toInt8.toInt32)), .val (.int (10 : Int32)), .val (.int (13 : Int32)), .val (.int (13 : Int32)), .val (.int (10 : Int32)), .val (.int (10 : Int32)), .val (.int (2 : Int32)), .val (.ref b174), .val (.int sv), .val (.int (nar .boolean w5181)), .val (.int (nar .boolean w5182))] []))
          refine go (fun _ => XS.iconst X182.here hx rfl (hb hby d4_178)) ?_
          show Go _ p e below s _ _ _ (T182.setTop (mkF m 179 #[.val (.ref a1), .val (.int p2), .val (.int p3), .val (.int p4), .val (.int p5), .val (.int (p2 &&& (3 : Int32))), .val (.int ((p2 >>> ((2 : Int32) &&& 31)).toInt8.toInt32)), .val (.int (10 : Int32)), .val (.int (13 : Int32)), .val (.int (13 : Int32)), .val (.int (10 : Int32)), .val (.int (10 : Int32)), .val (.int (2 : Int32)), .val (.ref b174), .val (.int sv), .val (.int (nar .boolean w5181)), .val (.int (nar .boolean w5182))] [(.int (1 : Int32))]))
          refine go (fun _ => XS.goto X182.here hx rfl (pc0 := 179) (pc' := 183) rfl (hb hby d4_179) (by decide) (by decide)) ?_
          show Go _ p e below s _ _ _ (T182.setTop (mkF m 183 #[.val (.ref a1), .val (.int p2), .val (.int p3), .val (.int p4), .val (.int p5), .val (.int (p2 &&& (3 : Int32))), .val (.int ((p2 >>> ((2 : Int32) &&& 31)).toInt8.toInt32)), .val (.int (10 : Int32)), .val (.int (13 : Int32)), .val (.int (13 : Int32)), .val (.int (10 : Int32)), .val (.int (10 : Int32)), .val (.int (2 : Int32)), .val (.ref b174), .val (.int sv), .val (.int (nar .boolean w5181)), .val (.int (nar .boolean w5182))] [(.int (1 : Int32))]))
          refine goRet X182 hx Bd.notSynchronized Bd.returns rfl (Or.inl ⟨rfl, Or.inr (Or.inl rfl), _, rfl⟩) (hb hby d4_183) (by decide) (by decide) (by refine ⟨w1182, w2182, w3182, w4182, w5182, rfl, N182, KK182, u182_1, u182_2, u182_3, u182_4, u182_5, f1⟩)
        · refine go (fun _ => XS.ifNo X182.here hx rfl (hb hby d4_163) rfl ((if0 _ _).trans (feq hc163_185).1)) ?_
          show Go _ p e below s _ _ _ (T182.setTop (mkF m 166 #[.val (.ref a1), .val (.int p2), .val (.int p3), .val (.int p4), .val (.int p5), .val (.int (p2 &&& (3 : Int32))), .val (.int ((p2 >>> ((2 : Int32) &&& 31)).toInt8.toInt32)), .val (.int (10 : Int32)), .val (.int (13 : Int32)), .val (.int (13 : Int32)), .val (.int (10 : Int32)), .val (.int (10 : Int32)), .val (.int (2 : Int32)), .val (.ref b174), .val (.int sv), .val (.int (nar .boolean w5181)), .val (.int (nar .boolean w5182))] []))
          refine go (fun _ => XS.iload X182.here hx rfl (hb hby d4_166) rfl) ?_
          show Go _ p e below s _ _ _ (T182.setTop (mkF m 168 #[.val (.ref a1), .val (.int p2), .val (.int p3), .val (.int p4), .val (.int p5), .val (.int (p2 &&& (3 : Int32))), .val (.int ((p2 >>> ((2 : Int32) &&& 31)).toInt8.toInt32)), .val (.int (10 : Int32)), .val (.int (13 : Int32)), .val (.int (13 : Int32)), .val (.int (10 : Int32)), .val (.int (10 : Int32)), .val (.int (2 : Int32)), .val (.ref b174), .val (.int sv), .val (.int (nar .boolean w5181)), .val (.int (nar .boolean w5182))] [(.int p5)]))
          refine go (fun _ => XS.ifNo X182.here hx rfl (hb hby d4_168) rfl ((if0 _ _).trans (feq (fun u => by rw [h5, f3 (fun v => hc163_185 (by rw [own_nb f5]; exact v))] at u; exact absurd u (by decide))).1)) ?_
          show Go _ p e below s _ _ _ (T182.setTop (mkF m 171 #[.val (.ref a1), .val (.int p2), .val (.int p3), .val (.int p4), .val (.int p5), .val (.int (p2 &&& (3 : Int32))), .val (.int ((p2 >>> ((2 : Int32) &&& 31)).toInt8.toInt32)), .val (.int (10 : Int32)), .val (.int (13 : Int32)), .val (.int (13 : Int32)), .val (.int (10 : Int32)), .val (.int (10 : Int32)), .val (.int (2 : Int32)), .val (.ref b174), .val (.int sv), .val (.int (nar .boolean w5181)), .val (.int (nar .boolean w5182))] []))
          refine go (fun _ => XS.iload X182.here hx rfl (hb hby d4_171) rfl) ?_
          show Go _ p e below s _ _ _ (T182.setTop (mkF m 173 #[.val (.ref a1), .val (.int p2), .val (.int p3), .val (.int p4), .val (.int p5), .val (.int (p2 &&& (3 : Int32))), .val (.int ((p2 >>> ((2 : Int32) &&& 31)).toInt8.toInt32)), .val (.int (10 : Int32)), .val (.int (13 : Int32)), .val (.int (13 : Int32)), .val (.int (10 : Int32)), .val (.int (10 : Int32)), .val (.int (2 : Int32)), .val (.ref b174), .val (.int sv), .val (.int (nar .boolean w5181)), .val (.int (nar .boolean w5182))] [(.int (nar .boolean w5182))]))
          refine go (fun _ => XS.iload X182.here hx rfl (hb hby d4_173) rfl) ?_
          show Go _ p e below s _ _ _ (T182.setTop (mkF m 175 #[.val (.ref a1), .val (.int p2), .val (.int p3), .val (.int p4), .val (.int p5), .val (.int (p2 &&& (3 : Int32))), .val (.int ((p2 >>> ((2 : Int32) &&& 31)).toInt8.toInt32)), .val (.int (10 : Int32)), .val (.int (13 : Int32)), .val (.int (13 : Int32)), .val (.int (10 : Int32)), .val (.int (10 : Int32)), .val (.int (2 : Int32)), .val (.ref b174), .val (.int sv), .val (.int (nar .boolean w5181)), .val (.int (nar .boolean w5182))] [(.int p5), (.int (nar .boolean w5182))]))
          refine go (fun _ => XS.icmpNo X182.here hx rfl (hb hby d4_175) rfl (teq (by rw [h5, ← f4]; exact own_nb (by rw [f4]; exact f1.2.1))).2) ?_
          show Go _ p e below s _ _ _ (T182.setTop (mkF m 178 #[.val (.ref a1), .val (.int p2), .val (.int p3), .val (.int p4), .val (.int p5), .val (.int (p2 &&& (3 : Int32))), .val (.int ((p2 >>> ((2 : Int32) &&& 31)).toInt8.toInt32)), .val (.int (10 : Int32)), .val (.int (13 : Int32)), .val (.int (13 : Int32)), .val (.int (10 : Int32)), .val (.int (10 : Int32)), .val (.int (2 : Int32)), .val (.ref b174), .val (.int sv), .val (.int (nar .boolean w5181)), .val (.int (nar .boolean w5182))] []))
          refine go (fun _ => XS.iconst X182.here hx rfl (hb hby d4_178)) ?_
          show Go _ p e below s _ _ _ (T182.setTop (mkF m 179 #[.val (.ref a1), .val (.int p2), .val (.int p3), .val (.int p4), .val (.int p5), .val (.int (p2 &&& (3 : Int32))), .val (.int ((p2 >>> ((2 : Int32) &&& 31)).toInt8.toInt32)), .val (.int (10 : Int32)), .val (.int (13 : Int32)), .val (.int (13 : Int32)), .val (.int (10 : Int32)), .val (.int (10 : Int32)), .val (.int (2 : Int32)), .val (.ref b174), .val (.int sv), .val (.int (nar .boolean w5181)), .val (.int (nar .boolean w5182))] [(.int (1 : Int32))]))
          refine go (fun _ => XS.goto X182.here hx rfl (pc0 := 179) (pc' := 183) rfl (hb hby d4_179) (by decide) (by decide)) ?_
          show Go _ p e below s _ _ _ (T182.setTop (mkF m 183 #[.val (.ref a1), .val (.int p2), .val (.int p3), .val (.int p4), .val (.int p5), .val (.int (p2 &&& (3 : Int32))), .val (.int ((p2 >>> ((2 : Int32) &&& 31)).toInt8.toInt32)), .val (.int (10 : Int32)), .val (.int (13 : Int32)), .val (.int (13 : Int32)), .val (.int (10 : Int32)), .val (.int (10 : Int32)), .val (.int (2 : Int32)), .val (.ref b174), .val (.int sv), .val (.int (nar .boolean w5181)), .val (.int (nar .boolean w5182))] [(.int (1 : Int32))]))
          refine goRet X182 hx Bd.notSynchronized Bd.returns rfl (Or.inl ⟨rfl, Or.inr (Or.inl rfl), _, rfl⟩) (hb hby d4_183) (by decide) (by decide) (by refine ⟨w1182, w2182, w3182, w4182, w5182, rfl, N182, KK182, u182_1, u182_2, u182_3, u182_4, u182_5, f1⟩)
    · refine go (fun _ => XS.icmpYes X0.here hx rfl (pc0 := 45) (pc' := 58) rfl (hb hby d4_45) rfl (feq hc45_173).2 (by decide) (by decide)) ?_
      show Go _ p e below s _ _ _ (s₁.setTop (mkF m 58 #[.val (.ref a1), .val (.int p2), .val (.int p3), .val (.int p4), .val (.int p5), .val (.int (p2 &&& (3 : Int32))), .val (.int ((p2 >>> ((2 : Int32) &&& 31)).toInt8.toInt32)), .val (.int (10 : Int32)), .val (.int (13 : Int32)), .val (.int (10 : Int32)), .val (.int (10 : Int32)), .val (.int (10 : Int32)), .unset, .unset, .unset, .unset, .unset] []))
      refine go (fun _ => XS.iload X0.here hx rfl (hb hby d4_58) rfl) ?_
      show Go _ p e below s _ _ _ (s₁.setTop (mkF m 60 #[.val (.ref a1), .val (.int p2), .val (.int p3), .val (.int p4), .val (.int p5), .val (.int (p2 &&& (3 : Int32))), .val (.int ((p2 >>> ((2 : Int32) &&& 31)).toInt8.toInt32)), .val (.int (10 : Int32)), .val (.int (13 : Int32)), .val (.int (10 : Int32)), .val (.int (10 : Int32)), .val (.int (10 : Int32)), .unset, .unset, .unset, .unset, .unset] [(.int (p2 &&& (3 : Int32)))]))
      refine go (fun _ => XS.iconst X0.here hx rfl (hb hby d4_60)) ?_
      show Go _ p e below s _ _ _ (s₁.setTop (mkF m 61 #[.val (.ref a1), .val (.int p2), .val (.int p3), .val (.int p4), .val (.int p5), .val (.int (p2 &&& (3 : Int32))), .val (.int ((p2 >>> ((2 : Int32) &&& 31)).toInt8.toInt32)), .val (.int (10 : Int32)), .val (.int (13 : Int32)), .val (.int (10 : Int32)), .val (.int (10 : Int32)), .val (.int (10 : Int32)), .unset, .unset, .unset, .unset, .unset] [(.int (2 : Int32)), (.int (p2 &&& (3 : Int32)))]))
      by_cases hc61_186 : (p2 &&& (3 : Int32)) = (2 : Int32)
      · refine go (fun _ => XS.icmpNo X0.here hx rfl (hb hby d4_61) rfl (teq hc61_186).2) ?_
        show Go _ p e below s _ _ _ (s₁.setTop (mkF m 64 #[.val (.ref a1), .val (.int p2), .val (.int p3), .val (.int p4), .val (.int p5), .val (.int (p2 &&& (3 : Int32))), .val (.int ((p2 >>> ((2 : Int32) &&& 31)).toInt8.toInt32)), .val (.int (10 : Int32)), .val (.int (13 : Int32)), .val (.int (10 : Int32)), .val (.int (10 : Int32)), .val (.int (10 : Int32)), .unset, .unset, .unset, .unset, .unset] []))
        refine go (fun _ => XS.iload X0.here hx rfl (hb hby d4_64) rfl) ?_
        show Go _ p e below s _ _ _ (s₁.setTop (mkF m 66 #[.val (.ref a1), .val (.int p2), .val (.int p3), .val (.int p4), .val (.int p5), .val (.int (p2 &&& (3 : Int32))), .val (.int ((p2 >>> ((2 : Int32) &&& 31)).toInt8.toInt32)), .val (.int (10 : Int32)), .val (.int (13 : Int32)), .val (.int (10 : Int32)), .val (.int (10 : Int32)), .val (.int (10 : Int32)), .unset, .unset, .unset, .unset, .unset] [(.int ((p2 >>> ((2 : Int32) &&& 31)).toInt8.toInt32))]))
        refine go (fun _ => XS.istore X0.here hx rfl (hb hby d4_66) rfl (l' := #[.val (.ref a1), .val (.int p2), .val (.int p3), .val (.int p4), .val (.int p5), .val (.int (p2 &&& (3 : Int32))), .val (.int ((p2 >>> ((2 : Int32) &&& 31)).toInt8.toInt32)), .val (.int (10 : Int32)), .val (.int (13 : Int32)), .val (.int ((p2 >>> ((2 : Int32) &&& 31)).toInt8.toInt32)), .val (.int (10 : Int32)), .val (.int (10 : Int32)), .unset, .unset, .unset, .unset, .unset]) rfl) ?_
        show Go _ p e below s _ _ _ (s₁.setTop (mkF m 68 #[.val (.ref a1), .val (.int p2), .val (.int p3), .val (.int p4), .val (.int p5), .val (.int (p2 &&& (3 : Int32))), .val (.int ((p2 >>> ((2 : Int32) &&& 31)).toInt8.toInt32)), .val (.int (10 : Int32)), .val (.int (13 : Int32)), .val (.int ((p2 >>> ((2 : Int32) &&& 31)).toInt8.toInt32)), .val (.int (10 : Int32)), .val (.int (10 : Int32)), .unset, .unset, .unset, .unset, .unset] []))
        refine go (fun _ => XS.iconst X0.here hx rfl (hb hby d4_68)) ?_
        show Go _ p e below s _ _ _ (s₁.setTop (mkF m 69 #[.val (.ref a1), .val (.int p2), .val (.int p3), .val (.int p4), .val (.int p5), .val (.int (p2 &&& (3 : Int32))), .val (.int ((p2 >>> ((2 : Int32) &&& 31)).toInt8.toInt32)), .val (.int (10 : Int32)), .val (.int (13 : Int32)), .val (.int ((p2 >>> ((2 : Int32) &&& 31)).toInt8.toInt32)), .val (.int (10 : Int32)), .val (.int (10 : Int32)), .unset, .unset, .unset, .unset, .unset] [(.int (2 : Int32))]))
        refine go (fun _ => XS.istore X0.here hx rfl (hb hby d4_69) rfl (l' := #[.val (.ref a1), .val (.int p2), .val (.int p3), .val (.int p4), .val (.int p5), .val (.int (p2 &&& (3 : Int32))), .val (.int ((p2 >>> ((2 : Int32) &&& 31)).toInt8.toInt32)), .val (.int (10 : Int32)), .val (.int (13 : Int32)), .val (.int ((p2 >>> ((2 : Int32) &&& 31)).toInt8.toInt32)), .val (.int (10 : Int32)), .val (.int (10 : Int32)), .val (.int (2 : Int32)), .unset, .unset, .unset, .unset]) rfl) ?_
        show Go _ p e below s _ _ _ (s₁.setTop (mkF m 71 #[.val (.ref a1), .val (.int p2), .val (.int p3), .val (.int p4), .val (.int p5), .val (.int (p2 &&& (3 : Int32))), .val (.int ((p2 >>> ((2 : Int32) &&& 31)).toInt8.toInt32)), .val (.int (10 : Int32)), .val (.int (13 : Int32)), .val (.int ((p2 >>> ((2 : Int32) &&& 31)).toInt8.toInt32)), .val (.int (10 : Int32)), .val (.int (10 : Int32)), .val (.int (2 : Int32)), .unset, .unset, .unset, .unset] []))
        refine go (fun _ => XS.goto X0.here hx rfl (pc0 := 71) (pc' := 85) rfl (hb hby d4_71) (by decide) (by decide)) ?_
        show Go _ p e below s _ _ _ (s₁.setTop (mkF m 85 #[.val (.ref a1), .val (.int p2), .val (.int p3), .val (.int p4), .val (.int p5), .val (.int (p2 &&& (3 : Int32))), .val (.int ((p2 >>> ((2 : Int32) &&& 31)).toInt8.toInt32)), .val (.int (10 : Int32)), .val (.int (13 : Int32)), .val (.int ((p2 >>> ((2 : Int32) &&& 31)).toInt8.toInt32)), .val (.int (10 : Int32)), .val (.int (10 : Int32)), .val (.int (2 : Int32)), .unset, .unset, .unset, .unset] []))
        refine go (fun _ => XS.iconst X0.here hx rfl (hb hby d4_85)) ?_
        show Go _ p e below s _ _ _ (s₁.setTop (mkF m 86 #[.val (.ref a1), .val (.int p2), .val (.int p3), .val (.int p4), .val (.int p5), .val (.int (p2 &&& (3 : Int32))), .val (.int ((p2 >>> ((2 : Int32) &&& 31)).toInt8.toInt32)), .val (.int (10 : Int32)), .val (.int (13 : Int32)), .val (.int ((p2 >>> ((2 : Int32) &&& 31)).toInt8.toInt32)), .val (.int (10 : Int32)), .val (.int (10 : Int32)), .val (.int (2 : Int32)), .unset, .unset, .unset, .unset] [(.int (5 : Int32))]))
        obtain ⟨T187, h187, k187, X187, e187, E187, A187, AE187, st187⟩ := newPE X0 hx hZ (hw _ (List.mem_of_getElem? (i := 16) rfl)) e0 (g := (mkF m 86 #[.val (.ref a1), .val (.int p2), .val (.int p3), .val (.int p4), .val (.int p5), .val (.int (p2 &&& (3 : Int32))), .val (.int ((p2 >>> ((2 : Int32) &&& 31)).toInt8.toInt32)), .val (.int (10 : Int32)), .val (.int (13 : Int32)), .val (.int ((p2 >>> ((2 : Int32) &&& 31)).toInt8.toInt32)), .val (.int (10 : Int32)), .val (.int (10 : Int32)), .val (.int (2 : Int32)), .unset, .unset, .unset, .unset] [(.int (5 : Int32))])) rfl (hb hby d4_86) rfl (by decide) (cap := 5) (by decide) (by decide) (by decide) (by decide) (ad := "[B") (by first | rfl | decide)
        obtain ⟨b187, g187⟩ : ∃ z, z = h0.size := ⟨_, rfl⟩
        rw [← g187] at A187 AE187 st187
        have lt187_a1_b187 : a1 < b187 := Nat.lt_of_lt_of_le P0.lt (Nat.le_of_eq g187.symm)
        have G_b187 : n0 ≤ b187 := Nat.le_trans Z0 (Nat.le_of_eq g187.symm)
        have SZ_b187 : h0.size ≤ b187 := Nat.le_trans (Keep.refl h0 [a1]).1 (Nat.le_of_eq g187.symm)
        have c187_0 := P0.ext E187
        have c187_1 := P2.ext E187
        have c187_2 := P3.ext E187
        have c187_3 := P4.ext E187
        have c187_4 := P5.ext E187
        have c187_5 := P6.ext E187
        have KK187 : Keep h0 h187 [a1] := (Keep.refl h0 [a1]).ext E187
        have ZN187 : n0 ≤ h187.size := Nat.le_trans Z0 E187.1
        have V187 : Arv Z h187 b187 k187 .byte (5 : Int32) [(.int (0 : Int32)), (.int (0 : Int32)), (.int (0 : Int32)), (.int (0 : Int32)), (.int (0 : Int32))] (.int (0 : Int32)) := (Arv.new A187 (by decide)).pad (pad_rep [] (.int (0 : Int32)) 5)
        refine go st187 ?_
        show Go _ p e below s _ _ _ (T187.setTop (mkF m 88 #[.val (.ref a1), .val (.int p2), .val (.int p3), .val (.int p4), .val (.int p5), .val (.int (p2 &&& (3 : Int32))), .val (.int ((p2 >>> ((2 : Int32) &&& 31)).toInt8.toInt32)), .val (.int (10 : Int32)), .val (.int (13 : Int32)), .val (.int ((p2 >>> ((2 : Int32) &&& 31)).toInt8.toInt32)), .val (.int (10 : Int32)), .val (.int (10 : Int32)), .val (.int (2 : Int32)), .unset, .unset, .unset, .unset] [(.ref b187)]))
        refine go (fun _ => XS.dup X187.here hx rfl (hb hby d4_88) rfl rfl) ?_
        show Go _ p e below s _ _ _ (T187.setTop (mkF m 89 #[.val (.ref a1), .val (.int p2), .val (.int p3), .val (.int p4), .val (.int p5), .val (.int (p2 &&& (3 : Int32))), .val (.int ((p2 >>> ((2 : Int32) &&& 31)).toInt8.toInt32)), .val (.int (10 : Int32)), .val (.int (13 : Int32)), .val (.int ((p2 >>> ((2 : Int32) &&& 31)).toInt8.toInt32)), .val (.int (10 : Int32)), .val (.int (10 : Int32)), .val (.int (2 : Int32)), .unset, .unset, .unset, .unset] [(.ref b187), (.ref b187)]))
        refine go (fun _ => XS.iconst X187.here hx rfl (hb hby d4_89)) ?_
        show Go _ p e below s _ _ _ (T187.setTop (mkF m 90 #[.val (.ref a1), .val (.int p2), .val (.int p3), .val (.int p4), .val (.int p5), .val (.int (p2 &&& (3 : Int32))), .val (.int ((p2 >>> ((2 : Int32) &&& 31)).toInt8.toInt32)), .val (.int (10 : Int32)), .val (.int (13 : Int32)), .val (.int ((p2 >>> ((2 : Int32) &&& 31)).toInt8.toInt32)), .val (.int (10 : Int32)), .val (.int (10 : Int32)), .val (.int (2 : Int32)), .unset, .unset, .unset, .unset] [(.int (0 : Int32)), (.ref b187), (.ref b187)]))
        refine go (fun _ => XS.iload X187.here hx rfl (hb hby d4_90) rfl) ?_
        show Go _ p e below s _ _ _ (T187.setTop (mkF m 92 #[.val (.ref a1), .val (.int p2), .val (.int p3), .val (.int p4), .val (.int p5), .val (.int (p2 &&& (3 : Int32))), .val (.int ((p2 >>> ((2 : Int32) &&& 31)).toInt8.toInt32)), .val (.int (10 : Int32)), .val (.int (13 : Int32)), .val (.int ((p2 >>> ((2 : Int32) &&& 31)).toInt8.toInt32)), .val (.int (10 : Int32)), .val (.int (10 : Int32)), .val (.int (2 : Int32)), .unset, .unset, .unset, .unset] [(.int (10 : Int32)), (.int (0 : Int32)), (.ref b187), (.ref b187)]))
        obtain ⟨cl188, Ar188, q188, Sz188, Nz188, Hs188, Gs188⟩ := id V187
        have hin188 : ¬ ((0 : Int32) < 0 ∨ cl188.slots.size ≤ ((0 : Int32)).toNatClampNeg) := inb_of Sz188 ⟨by decide, by decide⟩
        obtain ⟨T188, h188, X188, e188, W188, st188⟩ := stB X187 hx hZ e187 Ar188 (j := (0 : Int32)) hin188 (g := (mkF m 92 #[.val (.ref a1), .val (.int p2), .val (.int p3), .val (.int p4), .val (.int p5), .val (.int (p2 &&& (3 : Int32))), .val (.int ((p2 >>> ((2 : Int32) &&& 31)).toInt8.toInt32)), .val (.int (10 : Int32)), .val (.int (13 : Int32)), .val (.int ((p2 >>> ((2 : Int32) &&& 31)).toInt8.toInt32)), .val (.int (10 : Int32)), .val (.int (10 : Int32)), .val (.int (2 : Int32)), .unset, .unset, .unset, .unset] [(.int (10 : Int32)), (.int (0 : Int32)), (.ref b187), (.ref b187)])) rfl rfl (hb hby d4_92)
        have V188 := Arv.set Ar188 q188 Sz188 Nz188 Hs188 Gs188 (fits_nar_byte _) W188 0 rfl (Nat.le_of_ble_eq_true rfl)
        have VV188 : Arv Z h188 b187 k187 .byte (5 : Int32) [(.int (nar .byte (10 : Int32))), (.int (0 : Int32)), (.int (0 : Int32)), (.int (0 : Int32)), (.int (0 : Int32))] (.int (0 : Int32)) := V188
        have c188_0 := c187_0.wr W188
        have c188_1 := c187_1.other W188 (Or.inl (Nat.ne_of_lt lt187_a1_b187))
        have c188_2 := c187_2.other W188 (Or.inl (Nat.ne_of_lt lt187_a1_b187))
        have c188_3 := c187_3.other W188 (Or.inl (Nat.ne_of_lt lt187_a1_b187))
        have c188_4 := c187_4.other W188 (Or.inl (Nat.ne_of_lt lt187_a1_b187))
        have c188_5 := c187_5.other W188 (Or.inl (Nat.ne_of_lt lt187_a1_b187))
        have c188_6 := AE187.wr W188
        have KK188 : Keep h0 h188 [a1] := KK187.wr W188 (Or.inr SZ_b187)
        have ZN188 : n0 ≤ h188.size := Nat.le_trans ZN187 (Keep.of_wr W188).1
        have NN188 := Fr.snoc X188 N0 G_b187
        refine go st188 ?_
        show Go _ p e below s _ _ _ (T188.setTop (mkF m 93 #[.val (.ref a1), .val (.int p2), .val (.int p3), .val (.int p4), .val (.int p5), .val (.int (p2 &&& (3 : Int32))), .val (.int ((p2 >>> ((2 : Int32) &&& 31)).toInt8.toInt32)), .val (.int (10 : Int32)), .val (.int (13 : Int32)), .val (.int ((p2 >>> ((2 : Int32) &&& 31)).toInt8.toInt32)), .val (.int (10 : Int32)), .val (.int (10 : Int32)), .val (.int (2 : Int32)), .unset, .unset, .unset, .unset] [(.ref b187)]))
        refine go (fun _ => XS.dup X188.here hx rfl (hb hby d4_93) rfl rfl) ?_
        show Go _ p e below s _ _ _ (T188.setTop (mkF m 94 #[.val (.ref a1), .val (.int p2), .val (.int p3), .val (.int p4), .val (.int p5), .val (.int (p2 &&& (3 : Int32))), .val (.int ((p2 >>> ((2 : Int32) &&& 31)).toInt8.toInt32)), .val (.int (10 : Int32)), .val (.int (13 : Int32)), .val (.int ((p2 >>> ((2 : Int32) &&& 31)).toInt8.toInt32)), .val (.int (10 : Int32)), .val (.int (10 : Int32)), .val (.int (2 : Int32)), .unset, .unset, .unset, .unset] [(.ref b187), (.ref b187)]))
        refine go (fun _ => XS.iconst X188.here hx rfl (hb hby d4_94)) ?_
        show Go _ p e below s _ _ _ (T188.setTop (mkF m 95 #[.val (.ref a1), .val (.int p2), .val (.int p3), .val (.int p4), .val (.int p5), .val (.int (p2 &&& (3 : Int32))), .val (.int ((p2 >>> ((2 : Int32) &&& 31)).toInt8.toInt32)), .val (.int (10 : Int32)), .val (.int (13 : Int32)), .val (.int ((p2 >>> ((2 : Int32) &&& 31)).toInt8.toInt32)), .val (.int (10 : Int32)), .val (.int (10 : Int32)), .val (.int (2 : Int32)), .unset, .unset, .unset, .unset] [(.int (1 : Int32)), (.ref b187), (.ref b187)]))
        refine go (fun _ => XS.iload X188.here hx rfl (hb hby d4_95) rfl) ?_
        show Go _ p e below s _ _ _ (T188.setTop (mkF m 97 #[.val (.ref a1), .val (.int p2), .val (.int p3), .val (.int p4), .val (.int p5), .val (.int (p2 &&& (3 : Int32))), .val (.int ((p2 >>> ((2 : Int32) &&& 31)).toInt8.toInt32)), .val (.int (10 : Int32)), .val (.int (13 : Int32)), .val (.int ((p2 >>> ((2 : Int32) &&& 31)).toInt8.toInt32)), .val (.int (10 : Int32)), .val (.int (10 : Int32)), .val (.int (2 : Int32)), .unset, .unset, .unset, .unset] [(.int ((p2 >>> ((2 : Int32) &&& 31)).toInt8.toInt32)), (.int (1 : Int32)), (.ref b187), (.ref b187)]))
        obtain ⟨cl189, Ar189, q189, Sz189, Nz189, Hs189, Gs189⟩ := id VV188
        have hin189 : ¬ ((1 : Int32) < 0 ∨ cl189.slots.size ≤ ((1 : Int32)).toNatClampNeg) := inb_of Sz189 ⟨by decide, by decide⟩
        obtain ⟨T189, h189, X189, e189, W189, st189⟩ := stB X188 hx hZ e188 Ar189 (j := (1 : Int32)) hin189 (g := (mkF m 97 #[.val (.ref a1), .val (.int p2), .val (.int p3), .val (.int p4), .val (.int p5), .val (.int (p2 &&& (3 : Int32))), .val (.int ((p2 >>> ((2 : Int32) &&& 31)).toInt8.toInt32)), .val (.int (10 : Int32)), .val (.int (13 : Int32)), .val (.int ((p2 >>> ((2 : Int32) &&& 31)).toInt8.toInt32)), .val (.int (10 : Int32)), .val (.int (10 : Int32)), .val (.int (2 : Int32)), .unset, .unset, .unset, .unset] [(.int ((p2 >>> ((2 : Int32) &&& 31)).toInt8.toInt32)), (.int (1 : Int32)), (.ref b187), (.ref b187)])) rfl rfl (hb hby d4_97)
        have V189 := Arv.set Ar189 q189 Sz189 Nz189 Hs189 Gs189 (fits_nar_byte _) W189 1 rfl (Nat.le_of_ble_eq_true rfl)
        have VV189 : Arv Z h189 b187 k187 .byte (5 : Int32) [(.int (nar .byte (10 : Int32))), (.int (nar .byte ((p2 >>> ((2 : Int32) &&& 31)).toInt8.toInt32))), (.int (0 : Int32)), (.int (0 : Int32)), (.int (0 : Int32))] (.int (0 : Int32)) := V189
        have c189_0 := c188_0.wr W189
        have c189_1 := c188_1.other W189 (Or.inl (Nat.ne_of_lt lt187_a1_b187))
        have c189_2 := c188_2.other W189 (Or.inl (Nat.ne_of_lt lt187_a1_b187))
        have c189_3 := c188_3.other W189 (Or.inl (Nat.ne_of_lt lt187_a1_b187))
        have c189_4 := c188_4.other W189 (Or.inl (Nat.ne_of_lt lt187_a1_b187))
        have c189_5 := c188_5.other W189 (Or.inl (Nat.ne_of_lt lt187_a1_b187))
        have c189_6 := c188_6.wr W189
        have KK189 : Keep h0 h189 [a1] := KK188.wr W189 (Or.inr SZ_b187)
        have ZN189 : n0 ≤ h189.size := Nat.le_trans ZN188 (Keep.of_wr W189).1
        have NN189 := Fr.snoc X189 NN188 G_b187
        refine go st189 ?_
        show Go _ p e below s _ _ _ (T189.setTop (mkF m 98 #[.val (.ref a1), .val (.int p2), .val (.int p3), .val (.int p4), .val (.int p5), .val (.int (p2 &&& (3 : Int32))), .val (.int ((p2 >>> ((2 : Int32) &&& 31)).toInt8.toInt32)), .val (.int (10 : Int32)), .val (.int (13 : Int32)), .val (.int ((p2 >>> ((2 : Int32) &&& 31)).toInt8.toInt32)), .val (.int (10 : Int32)), .val (.int (10 : Int32)), .val (.int (2 : Int32)), .unset, .unset, .unset, .unset] [(.ref b187)]))
        refine go (fun _ => XS.dup X189.here hx rfl (hb hby d4_98) rfl rfl) ?_
        show Go _ p e below s _ _ _ (T189.setTop (mkF m 99 #[.val (.ref a1), .val (.int p2), .val (.int p3), .val (.int p4), .val (.int p5), .val (.int (p2 &&& (3 : Int32))), .val (.int ((p2 >>> ((2 : Int32) &&& 31)).toInt8.toInt32)), .val (.int (10 : Int32)), .val (.int (13 : Int32)), .val (.int ((p2 >>> ((2 : Int32) &&& 31)).toInt8.toInt32)), .val (.int (10 : Int32)), .val (.int (10 : Int32)), .val (.int (2 : Int32)), .unset, .unset, .unset, .unset] [(.ref b187), (.ref b187)]))
        refine go (fun _ => XS.iconst X189.here hx rfl (hb hby d4_99)) ?_
        show Go _ p e below s _ _ _ (T189.setTop (mkF m 100 #[.val (.ref a1), .val (.int p2), .val (.int p3), .val (.int p4), .val (.int p5), .val (.int (p2 &&& (3 : Int32))), .val (.int ((p2 >>> ((2 : Int32) &&& 31)).toInt8.toInt32)), .val (.int (10 : Int32)), .val (.int (13 : Int32)), .val (.int ((p2 >>> ((2 : Int32) &&& 31)).toInt8.toInt32)), .val (.int (10 : Int32)), .val (.int (10 : Int32)), .val (.int (2 : Int32)), .unset, .unset, .unset, .unset] [(.int (2 : Int32)), (.ref b187), (.ref b187)]))
        refine go (fun _ => XS.iload X189.here hx rfl (hb hby d4_100) rfl) ?_
        show Go _ p e below s _ _ _ (T189.setTop (mkF m 102 #[.val (.ref a1), .val (.int p2), .val (.int p3), .val (.int p4), .val (.int p5), .val (.int (p2 &&& (3 : Int32))), .val (.int ((p2 >>> ((2 : Int32) &&& 31)).toInt8.toInt32)), .val (.int (10 : Int32)), .val (.int (13 : Int32)), .val (.int ((p2 >>> ((2 : Int32) &&& 31)).toInt8.toInt32)), .val (.int (10 : Int32)), .val (.int (10 : Int32)), .val (.int (2 : Int32)), .unset, .unset, .unset, .unset] [(.int (10 : Int32)), (.int (2 : Int32)), (.ref b187), (.ref b187)]))
        obtain ⟨cl190, Ar190, q190, Sz190, Nz190, Hs190, Gs190⟩ := id VV189
        have hin190 : ¬ ((2 : Int32) < 0 ∨ cl190.slots.size ≤ ((2 : Int32)).toNatClampNeg) := inb_of Sz190 ⟨by decide, by decide⟩
        obtain ⟨T190, h190, X190, e190, W190, st190⟩ := stB X189 hx hZ e189 Ar190 (j := (2 : Int32)) hin190 (g := (mkF m 102 #[.val (.ref a1), .val (.int p2), .val (.int p3), .val (.int p4), .val (.int p5), .val (.int (p2 &&& (3 : Int32))), .val (.int ((p2 >>> ((2 : Int32) &&& 31)).toInt8.toInt32)), .val (.int (10 : Int32)), .val (.int (13 : Int32)), .val (.int ((p2 >>> ((2 : Int32) &&& 31)).toInt8.toInt32)), .val (.int (10 : Int32)), .val (.int (10 : Int32)), .val (.int (2 : Int32)), .unset, .unset, .unset, .unset] [(.int (10 : Int32)), (.int (2 : Int32)), (.ref b187), (.ref b187)])) rfl rfl (hb hby d4_102)
        have V190 := Arv.set Ar190 q190 Sz190 Nz190 Hs190 Gs190 (fits_nar_byte _) W190 2 rfl (Nat.le_of_ble_eq_true rfl)
        have VV190 : Arv Z h190 b187 k187 .byte (5 : Int32) [(.int (nar .byte (10 : Int32))), (.int (nar .byte ((p2 >>> ((2 : Int32) &&& 31)).toInt8.toInt32))), (.int (nar .byte (10 : Int32))), (.int (0 : Int32)), (.int (0 : Int32))] (.int (0 : Int32)) := V190
        have c190_0 := c189_0.wr W190
        have c190_1 := c189_1.other W190 (Or.inl (Nat.ne_of_lt lt187_a1_b187))
        have c190_2 := c189_2.other W190 (Or.inl (Nat.ne_of_lt lt187_a1_b187))
        have c190_3 := c189_3.other W190 (Or.inl (Nat.ne_of_lt lt187_a1_b187))
        have c190_4 := c189_4.other W190 (Or.inl (Nat.ne_of_lt lt187_a1_b187))
        have c190_5 := c189_5.other W190 (Or.inl (Nat.ne_of_lt lt187_a1_b187))
        have c190_6 := c189_6.wr W190
        have KK190 : Keep h0 h190 [a1] := KK189.wr W190 (Or.inr SZ_b187)
        have ZN190 : n0 ≤ h190.size := Nat.le_trans ZN189 (Keep.of_wr W190).1
        have NN190 := Fr.snoc X190 NN189 G_b187
        refine go st190 ?_
        show Go _ p e below s _ _ _ (T190.setTop (mkF m 103 #[.val (.ref a1), .val (.int p2), .val (.int p3), .val (.int p4), .val (.int p5), .val (.int (p2 &&& (3 : Int32))), .val (.int ((p2 >>> ((2 : Int32) &&& 31)).toInt8.toInt32)), .val (.int (10 : Int32)), .val (.int (13 : Int32)), .val (.int ((p2 >>> ((2 : Int32) &&& 31)).toInt8.toInt32)), .val (.int (10 : Int32)), .val (.int (10 : Int32)), .val (.int (2 : Int32)), .unset, .unset, .unset, .unset] [(.ref b187)]))
        refine go (fun _ => XS.dup X190.here hx rfl (hb hby d4_103) rfl rfl) ?_
        show Go _ p e below s _ _ _ (T190.setTop (mkF m 104 #[.val (.ref a1), .val (.int p2), .val (.int p3), .val (.int p4), .val (.int p5), .val (.int (p2 &&& (3 : Int32))), .val (.int ((p2 >>> ((2 : Int32) &&& 31)).toInt8.toInt32)), .val (.int (10 : Int32)), .val (.int (13 : Int32)), .val (.int ((p2 >>> ((2 : Int32) &&& 31)).toInt8.toInt32)), .val (.int (10 : Int32)), .val (.int (10 : Int32)), .val (.int (2 : Int32)), .unset, .unset, .unset, .unset] [(.ref b187), (.ref b187)]))
        refine go (fun _ => XS.iconst X190.here hx rfl (hb hby d4_104)) ?_
        show Go _ p e below s _ _ _ (T190.setTop (mkF m 105 #[.val (.ref a1), .val (.int p2), .val (.int p3), .val (.int p4), .val (.int p5), .val (.int (p2 &&& (3 : Int32))), .val (.int ((p2 >>> ((2 : Int32) &&& 31)).toInt8.toInt32)), .val (.int (10 : Int32)), .val (.int (13 : Int32)), .val (.int ((p2 >>> ((2 : Int32) &&& 31)).toInt8.toInt32)), .val (.int (10 : Int32)), .val (.int (10 : Int32)), .val (.int (2 : Int32)), .unset, .unset, .unset, .unset] [(.int (3 : Int32)), (.ref b187), (.ref b187)]))
        refine go (fun _ => XS.iload X190.here hx rfl (hb hby d4_105) rfl) ?_
        show Go _ p e below s _ _ _ (T190.setTop (mkF m 107 #[.val (.ref a1), .val (.int p2), .val (.int p3), .val (.int p4), .val (.int p5), .val (.int (p2 &&& (3 : Int32))), .val (.int ((p2 >>> ((2 : Int32) &&& 31)).toInt8.toInt32)), .val (.int (10 : Int32)), .val (.int (13 : Int32)), .val (.int ((p2 >>> ((2 : Int32) &&& 31)).toInt8.toInt32)), .val (.int (10 : Int32)), .val (.int (10 : Int32)), .val (.int (2 : Int32)), .unset, .unset, .unset, .unset] [(.int (10 : Int32)), (.int (3 : Int32)), (.ref b187), (.ref b187)]))
        obtain ⟨cl191, Ar191, q191, Sz191, Nz191, Hs191, Gs191⟩ := id VV190
        have hin191 : ¬ ((3 : Int32) < 0 ∨ cl191.slots.size ≤ ((3 : Int32)).toNatClampNeg) := inb_of Sz191 ⟨by decide, by decide⟩
        obtain ⟨T191, h191, X191, e191, W191, st191⟩ := stB X190 hx hZ e190 Ar191 (j := (3 : Int32)) hin191 (g := (mkF m 107 #[.val (.ref a1), .val (.int p2), .val (.int p3), .val (.int p4), .val (.int p5), .val (.int (p2 &&& (3 : Int32))), .val (.int ((p2 >>> ((2 : Int32) &&& 31)).toInt8.toInt32)), .val (.int (10 : Int32)), .val (.int (13 : Int32)), .val (.int ((p2 >>> ((2 : Int32) &&& 31)).toInt8.toInt32)), .val (.int (10 : Int32)), .val (.int (10 : Int32)), .val (.int (2 : Int32)), .unset, .unset, .unset, .unset] [(.int (10 : Int32)), (.int (3 : Int32)), (.ref b187), (.ref b187)])) rfl rfl (hb hby d4_107)
        have V191 := Arv.set Ar191 q191 Sz191 Nz191 Hs191 Gs191 (fits_nar_byte _) W191 3 rfl (Nat.le_of_ble_eq_true rfl)
        have VV191 : Arv Z h191 b187 k187 .byte (5 : Int32) [(.int (nar .byte (10 : Int32))), (.int (nar .byte ((p2 >>> ((2 : Int32) &&& 31)).toInt8.toInt32))), (.int (nar .byte (10 : Int32))), (.int (nar .byte (10 : Int32))), (.int (0 : Int32))] (.int (0 : Int32)) := V191
        have c191_0 := c190_0.wr W191
        have c191_1 := c190_1.other W191 (Or.inl (Nat.ne_of_lt lt187_a1_b187))
        have c191_2 := c190_2.other W191 (Or.inl (Nat.ne_of_lt lt187_a1_b187))
        have c191_3 := c190_3.other W191 (Or.inl (Nat.ne_of_lt lt187_a1_b187))
        have c191_4 := c190_4.other W191 (Or.inl (Nat.ne_of_lt lt187_a1_b187))
        have c191_5 := c190_5.other W191 (Or.inl (Nat.ne_of_lt lt187_a1_b187))
        have c191_6 := c190_6.wr W191
        have KK191 : Keep h0 h191 [a1] := KK190.wr W191 (Or.inr SZ_b187)
        have ZN191 : n0 ≤ h191.size := Nat.le_trans ZN190 (Keep.of_wr W191).1
        have NN191 := Fr.snoc X191 NN190 G_b187
        refine go st191 ?_
        show Go _ p e below s _ _ _ (T191.setTop (mkF m 108 #[.val (.ref a1), .val (.int p2), .val (.int p3), .val (.int p4), .val (.int p5), .val (.int (p2 &&& (3 : Int32))), .val (.int ((p2 >>> ((2 : Int32) &&& 31)).toInt8.toInt32)), .val (.int (10 : Int32)), .val (.int (13 : Int32)), .val (.int ((p2 >>> ((2 : Int32) &&& 31)).toInt8.toInt32)), .val (.int (10 : Int32)), .val (.int (10 : Int32)), .val (.int (2 : Int32)), .unset, .unset, .unset, .unset] [(.ref b187)]))
        refine go (fun _ => XS.dup X191.here hx rfl (hb hby d4_108) rfl rfl) ?_
        show Go _ p e below s _ _ _ (T191.setTop (mkF m 109 #[.val (.ref a1), .val (.int p2), .val (.int p3), .val (.int p4), .val (.int p5), .val (.int (p2 &&& (3 : Int32))), .val (.int ((p2 >>> ((2 : Int32) &&& 31)).toInt8.toInt32)), .val (.int (10 : Int32)), .val (.int (13 : Int32)), .val (.int ((p2 >>> ((2 : Int32) &&& 31)).toInt8.toInt32)), .val (.int (10 : Int32)), .val (.int (10 : Int32)), .val (.int (2 : Int32)), .unset, .unset, .unset, .unset] [(.ref b187), (.ref b187)]))
        refine go (fun _ => XS.iconst X191.here hx rfl (hb hby d4_109)) ?_
        show Go _ p e below s _ _ _ (T191.setTop (mkF m 110 #[.val (.ref a1), .val (.int p2), .val (.int p3), .val (.int p4), .val (.int p5), .val (.int (p2 &&& (3 : Int32))), .val (.int ((p2 >>> ((2 : Int32) &&& 31)).toInt8.toInt32)), .val (.int (10 : Int32)), .val (.int (13 : Int32)), .val (.int ((p2 >>> ((2 : Int32) &&& 31)).toInt8.toInt32)), .val (.int (10 : Int32)), .val (.int (10 : Int32)), .val (.int (2 : Int32)), .unset, .unset, .unset, .unset] [(.int (4 : Int32)), (.ref b187), (.ref b187)]))
        refine go (fun _ => XS.iload X191.here hx rfl (hb hby d4_110) rfl) ?_
        show Go _ p e below s _ _ _ (T191.setTop (mkF m 112 #[.val (.ref a1), .val (.int p2), .val (.int p3), .val (.int p4), .val (.int p5), .val (.int (p2 &&& (3 : Int32))), .val (.int ((p2 >>> ((2 : Int32) &&& 31)).toInt8.toInt32)), .val (.int (10 : Int32)), .val (.int (13 : Int32)), .val (.int ((p2 >>> ((2 : Int32) &&& 31)).toInt8.toInt32)), .val (.int (10 : Int32)), .val (.int (10 : Int32)), .val (.int (2 : Int32)), .unset, .unset, .unset, .unset] [(.int (10 : Int32)), (.int (4 : Int32)), (.ref b187), (.ref b187)]))
        obtain ⟨cl192, Ar192, q192, Sz192, Nz192, Hs192, Gs192⟩ := id VV191
        have hin192 : ¬ ((4 : Int32) < 0 ∨ cl192.slots.size ≤ ((4 : Int32)).toNatClampNeg) := inb_of Sz192 ⟨by decide, by decide⟩
        obtain ⟨T192, h192, X192, e192, W192, st192⟩ := stB X191 hx hZ e191 Ar192 (j := (4 : Int32)) hin192 (g := (mkF m 112 #[.val (.ref a1), .val (.int p2), .val (.int p3), .val (.int p4), .val (.int p5), .val (.int (p2 &&& (3 : Int32))), .val (.int ((p2 >>> ((2 : Int32) &&& 31)).toInt8.toInt32)), .val (.int (10 : Int32)), .val (.int (13 : Int32)), .val (.int ((p2 >>> ((2 : Int32) &&& 31)).toInt8.toInt32)), .val (.int (10 : Int32)), .val (.int (10 : Int32)), .val (.int (2 : Int32)), .unset, .unset, .unset, .unset] [(.int (10 : Int32)), (.int (4 : Int32)), (.ref b187), (.ref b187)])) rfl rfl (hb hby d4_112)
        have V192 := Arv.set Ar192 q192 Sz192 Nz192 Hs192 Gs192 (fits_nar_byte _) W192 4 rfl (Nat.le_of_ble_eq_true rfl)
        have VV192 : Arv Z h192 b187 k187 .byte (5 : Int32) [(.int (nar .byte (10 : Int32))), (.int (nar .byte ((p2 >>> ((2 : Int32) &&& 31)).toInt8.toInt32))), (.int (nar .byte (10 : Int32))), (.int (nar .byte (10 : Int32))), (.int (nar .byte (10 : Int32)))] (.int (0 : Int32)) := V192
        have c192_0 := c191_0.wr W192
        have c192_1 := c191_1.other W192 (Or.inl (Nat.ne_of_lt lt187_a1_b187))
        have c192_2 := c191_2.other W192 (Or.inl (Nat.ne_of_lt lt187_a1_b187))
        have c192_3 := c191_3.other W192 (Or.inl (Nat.ne_of_lt lt187_a1_b187))
        have c192_4 := c191_4.other W192 (Or.inl (Nat.ne_of_lt lt187_a1_b187))
        have c192_5 := c191_5.other W192 (Or.inl (Nat.ne_of_lt lt187_a1_b187))
        have c192_6 := c191_6.wr W192
        have KK192 : Keep h0 h192 [a1] := KK191.wr W192 (Or.inr SZ_b187)
        have ZN192 : n0 ≤ h192.size := Nat.le_trans ZN191 (Keep.of_wr W192).1
        have NN192 := Fr.snoc X192 NN191 G_b187
        refine go st192 ?_
        show Go _ p e below s _ _ _ (T192.setTop (mkF m 113 #[.val (.ref a1), .val (.int p2), .val (.int p3), .val (.int p4), .val (.int p5), .val (.int (p2 &&& (3 : Int32))), .val (.int ((p2 >>> ((2 : Int32) &&& 31)).toInt8.toInt32)), .val (.int (10 : Int32)), .val (.int (13 : Int32)), .val (.int ((p2 >>> ((2 : Int32) &&& 31)).toInt8.toInt32)), .val (.int (10 : Int32)), .val (.int (10 : Int32)), .val (.int (2 : Int32)), .unset, .unset, .unset, .unset] [(.ref b187)]))
        refine go (fun _ => XS.astore X192.here hx rfl (hb hby d4_113) rfl rfl (l' := #[.val (.ref a1), .val (.int p2), .val (.int p3), .val (.int p4), .val (.int p5), .val (.int (p2 &&& (3 : Int32))), .val (.int ((p2 >>> ((2 : Int32) &&& 31)).toInt8.toInt32)), .val (.int (10 : Int32)), .val (.int (13 : Int32)), .val (.int ((p2 >>> ((2 : Int32) &&& 31)).toInt8.toInt32)), .val (.int (10 : Int32)), .val (.int (10 : Int32)), .val (.int (2 : Int32)), .val (.ref b187), .unset, .unset, .unset]) rfl) ?_
        show Go _ p e below s _ _ _ (T192.setTop (mkF m 115 #[.val (.ref a1), .val (.int p2), .val (.int p3), .val (.int p4), .val (.int p5), .val (.int (p2 &&& (3 : Int32))), .val (.int ((p2 >>> ((2 : Int32) &&& 31)).toInt8.toInt32)), .val (.int (10 : Int32)), .val (.int (13 : Int32)), .val (.int ((p2 >>> ((2 : Int32) &&& 31)).toInt8.toInt32)), .val (.int (10 : Int32)), .val (.int (10 : Int32)), .val (.int (2 : Int32)), .val (.ref b187), .unset, .unset, .unset] []))
        refine go (fun _ => XS.iloadN X192.here hx rfl (hb hby d4_115) rfl) ?_
        show Go _ p e below s _ _ _ (T192.setTop (mkF m 116 #[.val (.ref a1), .val (.int p2), .val (.int p3), .val (.int p4), .val (.int p5), .val (.int (p2 &&& (3 : Int32))), .val (.int ((p2 >>> ((2 : Int32) &&& 31)).toInt8.toInt32)), .val (.int (10 : Int32)), .val (.int (13 : Int32)), .val (.int ((p2 >>> ((2 : Int32) &&& 31)).toInt8.toInt32)), .val (.int (10 : Int32)), .val (.int (10 : Int32)), .val (.int (2 : Int32)), .val (.ref b187), .unset, .unset, .unset] [(.int p3)]))
        refine go (fun _ => XS.iload X192.here hx rfl (hb hby d4_116) rfl) ?_
        show Go _ p e below s _ _ _ (T192.setTop (mkF m 118 #[.val (.ref a1), .val (.int p2), .val (.int p3), .val (.int p4), .val (.int p5), .val (.int (p2 &&& (3 : Int32))), .val (.int ((p2 >>> ((2 : Int32) &&& 31)).toInt8.toInt32)), .val (.int (10 : Int32)), .val (.int (13 : Int32)), .val (.int ((p2 >>> ((2 : Int32) &&& 31)).toInt8.toInt32)), .val (.int (10 : Int32)), .val (.int (10 : Int32)), .val (.int (2 : Int32)), .val (.ref b187), .unset, .unset, .unset] [(.int (2 : Int32)), (.int p3)]))
        obtain ⟨_, _, ⟨T193, L193, k193, n193⟩, -, X193, ⟨Lc193, hQ193, l193, y193, z193⟩, st193⟩ := Jvm.LawKit.callS X192 hx (y := (⟨"java/lang/Math", "min", "(II)I"⟩ : MethodName)) hown (mvT hZ (hw _ (List.mem_of_getElem? (i := 17) rfl))) (mvT hZ (hw _ (List.mem_of_getElem? (i := 18) rfl))) (mvT hZ (hw _ (List.mem_of_getElem? (i := 19) rfl))) (mvT hZ (hw _ (List.mem_of_getElem? (i := 20) rfl))) (by decide) (backOf (W := 0) (rm5 l Z a0 hw [] p3 (2 : Int32) h192 n0 ZN192 ) hZ (hw _ (List.mem_of_getElem? (i := 20) rfl)) (hw _ (List.mem_of_getElem? (i := 19) rfl)) (by decide) (by decide)) (g := (mkF m 118 #[.val (.ref a1), .val (.int p2), .val (.int p3), .val (.int p4), .val (.int p5), .val (.int (p2 &&& (3 : Int32))), .val (.int ((p2 >>> ((2 : Int32) &&& 31)).toInt8.toInt32)), .val (.int (10 : Int32)), .val (.int (13 : Int32)), .val (.int ((p2 >>> ((2 : Int32) &&& 31)).toInt8.toInt32)), .val (.int (10 : Int32)), .val (.int (10 : Int32)), .val (.int (2 : Int32)), .val (.ref b187), .unset, .unset, .unset] [(.int (2 : Int32)), (.int p3)])) rfl (by rw [hml]; rfl) (argsL := [(.int p3), (.int (2 : Int32))]) (rest := []) (lenOf pd_4_0 rfl) rfl (by show 2 * 0 + _ ≤ _; exact Nat.le_of_eq rfl) (hb hby d4_118) (fun _ _ => ⟨rfl, e192, (by decide : 1 + 0 ≤ _), (by decide : 5 + 0 ≤ _)⟩)
        dsimp only [Pt.U, Pt.locs, Pt.cells, Pt.slots] at X193 l193 y193 z193 st193 hQ193
        subst l193 y193 z193
        obtain ⟨rfl, N193q, e193⟩ := hQ193
        have N193 := Fr.app NN192 N193q
        refine go st193 ?_
        show Go _ p e below s _ _ _ (T193.setTop (mkF m 121 #[.val (.ref a1), .val (.int p2), .val (.int p3), .val (.int p4), .val (.int p5), .val (.int (p2 &&& (3 : Int32))), .val (.int ((p2 >>> ((2 : Int32) &&& 31)).toInt8.toInt32)), .val (.int (10 : Int32)), .val (.int (13 : Int32)), .val (.int ((p2 >>> ((2 : Int32) &&& 31)).toInt8.toInt32)), .val (.int (10 : Int32)), .val (.int (10 : Int32)), .val (.int (2 : Int32)), .val (.ref b187), .unset, .unset, .unset] [(.int (own_min p3 (2 : Int32)))]))
        refine go (fun _ => XS.istore X193.here hx rfl (hb hby d4_121) rfl (l' := #[.val (.ref a1), .val (.int p2), .val (.int p3), .val (.int p4), .val (.int p5), .val (.int (p2 &&& (3 : Int32))), .val (.int ((p2 >>> ((2 : Int32) &&& 31)).toInt8.toInt32)), .val (.int (10 : Int32)), .val (.int (13 : Int32)), .val (.int ((p2 >>> ((2 : Int32) &&& 31)).toInt8.toInt32)), .val (.int (10 : Int32)), .val (.int (10 : Int32)), .val (.int (2 : Int32)), .val (.ref b187), .val (.int (own_min p3 (2 : Int32))), .unset, .unset]) rfl) ?_
        show Go _ p e below s _ _ _ (T193.setTop (mkF m 123 #[.val (.ref a1), .val (.int p2), .val (.int p3), .val (.int p4), .val (.int p5), .val (.int (p2 &&& (3 : Int32))), .val (.int ((p2 >>> ((2 : Int32) &&& 31)).toInt8.toInt32)), .val (.int (10 : Int32)), .val (.int (13 : Int32)), .val (.int ((p2 >>> ((2 : Int32) &&& 31)).toInt8.toInt32)), .val (.int (10 : Int32)), .val (.int (10 : Int32)), .val (.int (2 : Int32)), .val (.ref b187), .val (.int (own_min p3 (2 : Int32))), .unset, .unset] []))
        obtain ⟨spl, hs, hsl⟩ := own_minN hsp (show ((2 : Int32)).toInt = ((2 : Nat) : Int) from by decide)
        generalize own_min p3 (2 : Int32) = sv at hs ⊢
        show Go _ p e below s _ _ _ (T193.setTop (mkF m 123 #[.val (.ref a1), .val (.int p2), .val (.int p3), .val (.int p4), .val (.int p5), .val (.int (p2 &&& (3 : Int32))), .val (.int ((p2 >>> ((2 : Int32) &&& 31)).toInt8.toInt32)), .val (.int (10 : Int32)), .val (.int (13 : Int32)), .val (.int ((p2 >>> ((2 : Int32) &&& 31)).toInt8.toInt32)), .val (.int (10 : Int32)), .val (.int (10 : Int32)), .val (.int (2 : Int32)), .val (.ref b187), .val (.int sv), .unset, .unset] []))
        refine go (fun _ => XS.aloadN X193.here hx rfl (hb hby d4_123) rfl rfl) ?_
        show Go _ p e below s _ _ _ (T193.setTop (mkF m 124 #[.val (.ref a1), .val (.int p2), .val (.int p3), .val (.int p4), .val (.int p5), .val (.int (p2 &&& (3 : Int32))), .val (.int ((p2 >>> ((2 : Int32) &&& 31)).toInt8.toInt32)), .val (.int (10 : Int32)), .val (.int (13 : Int32)), .val (.int ((p2 >>> ((2 : Int32) &&& 31)).toInt8.toInt32)), .val (.int (10 : Int32)), .val (.int (10 : Int32)), .val (.int (2 : Int32)), .val (.ref b187), .val (.int sv), .unset, .unset] [(.ref a1)]))
        refine go (fun _ => XS.aload X193.here hx rfl (hb hby d4_124) rfl rfl) ?_
        show Go _ p e below s _ _ _ (T193.setTop (mkF m 126 #[.val (.ref a1), .val (.int p2), .val (.int p3), .val (.int p4), .val (.int p5), .val (.int (p2 &&& (3 : Int32))), .val (.int ((p2 >>> ((2 : Int32) &&& 31)).toInt8.toInt32)), .val (.int (10 : Int32)), .val (.int (13 : Int32)), .val (.int ((p2 >>> ((2 : Int32) &&& 31)).toInt8.toInt32)), .val (.int (10 : Int32)), .val (.int (10 : Int32)), .val (.int (2 : Int32)), .val (.ref b187), .val (.int sv), .unset, .unset] [(.ref b187), (.ref a1)]))
        refine go (fun _ => XS.iconst X193.here hx rfl (hb hby d4_126)) ?_
        show Go _ p e below s _ _ _ (T193.setTop (mkF m 127 #[.val (.ref a1), .val (.int p2), .val (.int p3), .val (.int p4), .val (.int p5), .val (.int (p2 &&& (3 : Int32))), .val (.int ((p2 >>> ((2 : Int32) &&& 31)).toInt8.toInt32)), .val (.int (10 : Int32)), .val (.int (13 : Int32)), .val (.int ((p2 >>> ((2 : Int32) &&& 31)).toInt8.toInt32)), .val (.int (10 : Int32)), .val (.int (10 : Int32)), .val (.int (2 : Int32)), .val (.ref b187), .val (.int sv), .unset, .unset] [(.int (1 : Int32)), (.ref b187), (.ref a1)]))
        refine go (fun _ => XS.iconst X193.here hx rfl (hb hby d4_127)) ?_
        show Go _ p e below s _ _ _ (T193.setTop (mkF m 128 #[.val (.ref a1), .val (.int p2), .val (.int p3), .val (.int p4), .val (.int p5), .val (.int (p2 &&& (3 : Int32))), .val (.int ((p2 >>> ((2 : Int32) &&& 31)).toInt8.toInt32)), .val (.int (10 : Int32)), .val (.int (13 : Int32)), .val (.int ((p2 >>> ((2 : Int32) &&& 31)).toInt8.toInt32)), .val (.int (10 : Int32)), .val (.int (10 : Int32)), .val (.int (2 : Int32)), .val (.ref b187), .val (.int sv), .unset, .unset] [(.int (1 : Int32)), (.int (1 : Int32)), (.ref b187), (.ref a1)]))
        refine go (fun _ => XS.iload X193.here hx rfl (hb hby d4_128) rfl) ?_
        show Go _ p e below s _ _ _ (T193.setTop (mkF m 130 #[.val (.ref a1), .val (.int p2), .val (.int p3), .val (.int p4), .val (.int p5), .val (.int (p2 &&& (3 : Int32))), .val (.int ((p2 >>> ((2 : Int32) &&& 31)).toInt8.toInt32)), .val (.int (10 : Int32)), .val (.int (13 : Int32)), .val (.int ((p2 >>> ((2 : Int32) &&& 31)).toInt8.toInt32)), .val (.int (10 : Int32)), .val (.int (10 : Int32)), .val (.int (2 : Int32)), .val (.ref b187), .val (.int sv), .unset, .unset] [(.int sv), (.int (1 : Int32)), (.int (1 : Int32)), (.ref b187), (.ref a1)]))
        refine go (fun _ => XS.iadd X193.here hx rfl (hb hby d4_130) rfl) ?_
        show Go _ p e below s _ _ _ (T193.setTop (mkF m 131 #[.val (.ref a1), .val (.int p2), .val (.int p3), .val (.int p4), .val (.int p5), .val (.int (p2 &&& (3 : Int32))), .val (.int ((p2 >>> ((2 : Int32) &&& 31)).toInt8.toInt32)), .val (.int (10 : Int32)), .val (.int (13 : Int32)), .val (.int ((p2 >>> ((2 : Int32) &&& 31)).toInt8.toInt32)), .val (.int (10 : Int32)), .val (.int (10 : Int32)), .val (.int (2 : Int32)), .val (.ref b187), .val (.int sv), .unset, .unset] [(.int ((1 : Int32) + sv)), (.int (1 : Int32)), (.ref b187), (.ref a1)]))
        obtain ⟨cq194, kq194, q194a, q194b, q194c⟩ := isOf hZ e193 c192_0
        obtain ⟨_, _, ⟨T194, L194, k194, n194⟩, -, X194, ⟨Lc194, hQ194, l194, y194, z194⟩, st194⟩ := X193.virtualBack hx (y := (⟨"com/example/dosisbog/dosisbog/HttpRequest$HeadEnd", "whole", "([BII)Z"⟩ : MethodName)) (z := (⟨"com/example/dosisbog/dosisbog/HttpRequest$HeadEnd", "whole", "([BII)Z"⟩ : MethodName)) hown (mvT hZ (hw _ (List.mem_of_getElem? (i := 21) rfl))) (mvT hZ (hw _ (List.mem_of_getElem? (i := 22) rfl))) (notFace_of_selects (args := #[]) (mvT hZ (hw _ (List.mem_of_getElem? (i := 24) rfl)))) (mvT hZ (hw _ (List.mem_of_getElem? (i := 24) rfl))) (mvT hZ (hw _ (List.mem_of_getElem? (i := 23) rfl))) (by decide) (backOf (W := 0) (rm6 l Z a0 hw [] a1 b187 (1 : Int32) ((1 : Int32) + sv) k187 (5 : Int32) [(.int (nar .byte (10 : Int32))), (.int (nar .byte ((p2 >>> ((2 : Int32) &&& 31)).toInt8.toInt32))), (.int (nar .byte (10 : Int32))), (.int (nar .byte (10 : Int32))), (.int (nar .byte (10 : Int32)))] (.int (0 : Int32)) (fun j => [(nar .byte (10 : Int32)), (nar .byte ((p2 >>> ((2 : Int32) &&& 31)).toInt8.toInt32)), (nar .byte (10 : Int32)), (nar .byte (10 : Int32)), (nar .byte (10 : Int32))].getD j 0) spl 1 x1 x2 x3 x4 x5 h192 n0 ZN192 c192_0 P1 VV192 (Nat.ne_of_lt lt187_a1_b187) c192_1 c192_2 c192_3 c192_4 c192_5 (by decide) (own_1p hs (by omega)) (by have : (5 : Int32).toInt = 5 := (by decide); omega) (own_getD [(nar .byte (10 : Int32)), (nar .byte ((p2 >>> ((2 : Int32) &&& 31)).toInt8.toInt32)), (nar .byte (10 : Int32)), (nar .byte (10 : Int32)), (nar .byte (10 : Int32))])) hZ (hw _ (List.mem_of_getElem? (i := 25) rfl)) (hw _ (List.mem_of_getElem? (i := 2) rfl)) (by decide) (by decide)) q194a q194c (g := (mkF m 131 #[.val (.ref a1), .val (.int p2), .val (.int p3), .val (.int p4), .val (.int p5), .val (.int (p2 &&& (3 : Int32))), .val (.int ((p2 >>> ((2 : Int32) &&& 31)).toInt8.toInt32)), .val (.int (10 : Int32)), .val (.int (13 : Int32)), .val (.int ((p2 >>> ((2 : Int32) &&& 31)).toInt8.toInt32)), .val (.int (10 : Int32)), .val (.int (10 : Int32)), .val (.int (2 : Int32)), .val (.ref b187), .val (.int sv), .unset, .unset] [(.int ((1 : Int32) + sv)), (.int (1 : Int32)), (.ref b187), (.ref a1)])) rfl (by rw [hml]; rfl) (Steps.refl _) (argsL := [(.ref b187), (.int (1 : Int32)), (.int ((1 : Int32) + sv))]) (rest := []) (lenOf pd_4_1 rfl) rfl (by show 2 * 0 + _ ≤ _; exact Nat.le_of_eq rfl) (hb hby d4_131) (fun _ _ => ⟨rfl, e193, (by decide : 1 + 0 ≤ _), (by decide : 5 + 0 ≤ _)⟩)
        dsimp only [Pt.U, Pt.locs, Pt.cells, Pt.slots] at X194 l194 y194 z194 st194 hQ194
        subst l194 y194 z194
        obtain ⟨w1194, w2194, w3194, w4194, w5194, rfl, N194q, K194, u194_1, u194_2, u194_3, u194_4, u194_5, u194_6⟩ := hQ194
        have N194 := Fr.app N193 N194q
        have c194_0 := c192_0.keep K194
        have c194_1 := c192_6.keep K194
        have c194_2 := VV192.keep K194 (ninS (Ne.symm (Nat.ne_of_lt lt187_a1_b187)) nin0)
        have KK194 : Keep h0 T194.heap [a1] := KK192.trans K194 (allS (P := fun x => x ∈ [a1] ∨ h0.size ≤ x) (Or.inl (List.mem_of_getElem? (i := 0) rfl)) all0)
        have ZN194 : n0 ≤ T194.heap.size := Nat.le_trans ZN192 K194.1
        refine goT st194 ?_
        show Go _ p e below s _ _ _ (T194.setTop (mkF m 134 #[.val (.ref a1), .val (.int p2), .val (.int p3), .val (.int p4), .val (.int p5), .val (.int (p2 &&& (3 : Int32))), .val (.int ((p2 >>> ((2 : Int32) &&& 31)).toInt8.toInt32)), .val (.int (10 : Int32)), .val (.int (13 : Int32)), .val (.int ((p2 >>> ((2 : Int32) &&& 31)).toInt8.toInt32)), .val (.int (10 : Int32)), .val (.int (10 : Int32)), .val (.int (2 : Int32)), .val (.ref b187), .val (.int sv), .unset, .unset] [(.int (nar .boolean w5194))]))
        refine go (fun _ => XS.istore X194.here hx rfl (hb hby d4_134) rfl (l' := #[.val (.ref a1), .val (.int p2), .val (.int p3), .val (.int p4), .val (.int p5), .val (.int (p2 &&& (3 : Int32))), .val (.int ((p2 >>> ((2 : Int32) &&& 31)).toInt8.toInt32)), .val (.int (10 : Int32)), .val (.int (13 : Int32)), .val (.int ((p2 >>> ((2 : Int32) &&& 31)).toInt8.toInt32)), .val (.int (10 : Int32)), .val (.int (10 : Int32)), .val (.int (2 : Int32)), .val (.ref b187), .val (.int sv), .val (.int (nar .boolean w5194)), .unset]) rfl) ?_
        show Go _ p e below s _ _ _ (T194.setTop (mkF m 136 #[.val (.ref a1), .val (.int p2), .val (.int p3), .val (.int p4), .val (.int p5), .val (.int (p2 &&& (3 : Int32))), .val (.int ((p2 >>> ((2 : Int32) &&& 31)).toInt8.toInt32)), .val (.int (10 : Int32)), .val (.int (13 : Int32)), .val (.int ((p2 >>> ((2 : Int32) &&& 31)).toInt8.toInt32)), .val (.int (10 : Int32)), .val (.int (10 : Int32)), .val (.int (2 : Int32)), .val (.ref b187), .val (.int sv), .val (.int (nar .boolean w5194)), .unset] []))
        refine go (fun _ => XS.aloadN X194.here hx rfl (hb hby d4_136) rfl rfl) ?_
        show Go _ p e below s _ _ _ (T194.setTop (mkF m 137 #[.val (.ref a1), .val (.int p2), .val (.int p3), .val (.int p4), .val (.int p5), .val (.int (p2 &&& (3 : Int32))), .val (.int ((p2 >>> ((2 : Int32) &&& 31)).toInt8.toInt32)), .val (.int (10 : Int32)), .val (.int (13 : Int32)), .val (.int ((p2 >>> ((2 : Int32) &&& 31)).toInt8.toInt32)), .val (.int (10 : Int32)), .val (.int (10 : Int32)), .val (.int (2 : Int32)), .val (.ref b187), .val (.int sv), .val (.int (nar .boolean w5194)), .unset] [(.ref a1)]))
        refine go (fun _ => XS.aload X194.here hx rfl (hb hby d4_137) rfl rfl) ?_
        show Go _ p e below s _ _ _ (T194.setTop (mkF m 139 #[.val (.ref a1), .val (.int p2), .val (.int p3), .val (.int p4), .val (.int p5), .val (.int (p2 &&& (3 : Int32))), .val (.int ((p2 >>> ((2 : Int32) &&& 31)).toInt8.toInt32)), .val (.int (10 : Int32)), .val (.int (13 : Int32)), .val (.int ((p2 >>> ((2 : Int32) &&& 31)).toInt8.toInt32)), .val (.int (10 : Int32)), .val (.int (10 : Int32)), .val (.int (2 : Int32)), .val (.ref b187), .val (.int sv), .val (.int (nar .boolean w5194)), .unset] [(.ref b187), (.ref a1)]))
        refine go (fun _ => XS.iconst X194.here hx rfl (hb hby d4_139)) ?_
        show Go _ p e below s _ _ _ (T194.setTop (mkF m 140 #[.val (.ref a1), .val (.int p2), .val (.int p3), .val (.int p4), .val (.int p5), .val (.int (p2 &&& (3 : Int32))), .val (.int ((p2 >>> ((2 : Int32) &&& 31)).toInt8.toInt32)), .val (.int (10 : Int32)), .val (.int (13 : Int32)), .val (.int ((p2 >>> ((2 : Int32) &&& 31)).toInt8.toInt32)), .val (.int (10 : Int32)), .val (.int (10 : Int32)), .val (.int (2 : Int32)), .val (.ref b187), .val (.int sv), .val (.int (nar .boolean w5194)), .unset] [(.int (1 : Int32)), (.ref b187), (.ref a1)]))
        refine go (fun _ => XS.iload X194.here hx rfl (hb hby d4_140) rfl) ?_
        show Go _ p e below s _ _ _ (T194.setTop (mkF m 142 #[.val (.ref a1), .val (.int p2), .val (.int p3), .val (.int p4), .val (.int p5), .val (.int (p2 &&& (3 : Int32))), .val (.int ((p2 >>> ((2 : Int32) &&& 31)).toInt8.toInt32)), .val (.int (10 : Int32)), .val (.int (13 : Int32)), .val (.int ((p2 >>> ((2 : Int32) &&& 31)).toInt8.toInt32)), .val (.int (10 : Int32)), .val (.int (10 : Int32)), .val (.int (2 : Int32)), .val (.ref b187), .val (.int sv), .val (.int (nar .boolean w5194)), .unset] [(.int sv), (.int (1 : Int32)), (.ref b187), (.ref a1)]))
        refine go (fun _ => XS.iadd X194.here hx rfl (hb hby d4_142) rfl) ?_
        show Go _ p e below s _ _ _ (T194.setTop (mkF m 143 #[.val (.ref a1), .val (.int p2), .val (.int p3), .val (.int p4), .val (.int p5), .val (.int (p2 &&& (3 : Int32))), .val (.int ((p2 >>> ((2 : Int32) &&& 31)).toInt8.toInt32)), .val (.int (10 : Int32)), .val (.int (13 : Int32)), .val (.int ((p2 >>> ((2 : Int32) &&& 31)).toInt8.toInt32)), .val (.int (10 : Int32)), .val (.int (10 : Int32)), .val (.int (2 : Int32)), .val (.ref b187), .val (.int sv), .val (.int (nar .boolean w5194)), .unset] [(.int ((1 : Int32) + sv)), (.ref b187), (.ref a1)]))
        refine go (fun _ => XS.iconst X194.here hx rfl (hb hby d4_143)) ?_
        show Go _ p e below s _ _ _ (T194.setTop (mkF m 144 #[.val (.ref a1), .val (.int p2), .val (.int p3), .val (.int p4), .val (.int p5), .val (.int (p2 &&& (3 : Int32))), .val (.int ((p2 >>> ((2 : Int32) &&& 31)).toInt8.toInt32)), .val (.int (10 : Int32)), .val (.int (13 : Int32)), .val (.int ((p2 >>> ((2 : Int32) &&& 31)).toInt8.toInt32)), .val (.int (10 : Int32)), .val (.int (10 : Int32)), .val (.int (2 : Int32)), .val (.ref b187), .val (.int sv), .val (.int (nar .boolean w5194)), .unset] [(.int (1 : Int32)), (.int ((1 : Int32) + sv)), (.ref b187), (.ref a1)]))
        refine go (fun _ => XS.iload X194.here hx rfl (hb hby d4_144) rfl) ?_
        show Go _ p e below s _ _ _ (T194.setTop (mkF m 146 #[.val (.ref a1), .val (.int p2), .val (.int p3), .val (.int p4), .val (.int p5), .val (.int (p2 &&& (3 : Int32))), .val (.int ((p2 >>> ((2 : Int32) &&& 31)).toInt8.toInt32)), .val (.int (10 : Int32)), .val (.int (13 : Int32)), .val (.int ((p2 >>> ((2 : Int32) &&& 31)).toInt8.toInt32)), .val (.int (10 : Int32)), .val (.int (10 : Int32)), .val (.int (2 : Int32)), .val (.ref b187), .val (.int sv), .val (.int (nar .boolean w5194)), .unset] [(.int (2 : Int32)), (.int (1 : Int32)), (.int ((1 : Int32) + sv)), (.ref b187), (.ref a1)]))
        refine go (fun _ => XS.iadd X194.here hx rfl (hb hby d4_146) rfl) ?_
        show Go _ p e below s _ _ _ (T194.setTop (mkF m 147 #[.val (.ref a1), .val (.int p2), .val (.int p3), .val (.int p4), .val (.int p5), .val (.int (p2 &&& (3 : Int32))), .val (.int ((p2 >>> ((2 : Int32) &&& 31)).toInt8.toInt32)), .val (.int (10 : Int32)), .val (.int (13 : Int32)), .val (.int ((p2 >>> ((2 : Int32) &&& 31)).toInt8.toInt32)), .val (.int (10 : Int32)), .val (.int (10 : Int32)), .val (.int (2 : Int32)), .val (.ref b187), .val (.int sv), .val (.int (nar .boolean w5194)), .unset] [(.int (3 : Int32)), (.int ((1 : Int32) + sv)), (.ref b187), (.ref a1)]))
        obtain ⟨cq195, kq195, q195a, q195b, q195c⟩ := isOf hZ rfl c194_0
        obtain ⟨_, _, ⟨T195, L195, k195, n195⟩, -, X195, ⟨Lc195, hQ195, l195, y195, z195⟩, st195⟩ := X194.virtualBack hx (y := (⟨"com/example/dosisbog/dosisbog/HttpRequest$HeadEnd", "whole", "([BII)Z"⟩ : MethodName)) (z := (⟨"com/example/dosisbog/dosisbog/HttpRequest$HeadEnd", "whole", "([BII)Z"⟩ : MethodName)) hown (mvT hZ (hw _ (List.mem_of_getElem? (i := 21) rfl))) (mvT hZ (hw _ (List.mem_of_getElem? (i := 22) rfl))) (notFace_of_selects (args := #[]) (mvT hZ (hw _ (List.mem_of_getElem? (i := 24) rfl)))) (mvT hZ (hw _ (List.mem_of_getElem? (i := 24) rfl))) (mvT hZ (hw _ (List.mem_of_getElem? (i := 23) rfl))) (by decide) (backOf (W := 0) (rm6 l Z a0 hw [] a1 b187 ((1 : Int32) + sv) (3 : Int32) k187 (5 : Int32) [(.int (nar .byte (10 : Int32))), (.int (nar .byte ((p2 >>> ((2 : Int32) &&& 31)).toInt8.toInt32))), (.int (nar .byte (10 : Int32))), (.int (nar .byte (10 : Int32))), (.int (nar .byte (10 : Int32)))] (.int (0 : Int32)) (fun j => [(nar .byte (10 : Int32)), (nar .byte ((p2 >>> ((2 : Int32) &&& 31)).toInt8.toInt32)), (nar .byte (10 : Int32)), (nar .byte (10 : Int32)), (nar .byte (10 : Int32))].getD j 0) (2 - spl) (1 + spl) w1194 w2194 w3194 w4194 w5194 (T194.heap) n0 ZN194 c194_0 P1 c194_2 (Nat.ne_of_lt lt187_a1_b187) u194_1 u194_2 u194_3 u194_4 u194_5 (own_1p hs (by omega)) (by have : ((3 : Int32)).toInt = 3 := (by decide); omega) (by have : (5 : Int32).toInt = 5 := (by decide); omega) (own_getD [(nar .byte (10 : Int32)), (nar .byte ((p2 >>> ((2 : Int32) &&& 31)).toInt8.toInt32)), (nar .byte (10 : Int32)), (nar .byte (10 : Int32)), (nar .byte (10 : Int32))])) hZ (hw _ (List.mem_of_getElem? (i := 25) rfl)) (hw _ (List.mem_of_getElem? (i := 2) rfl)) (by decide) (by decide)) q195a q195c (g := (mkF m 147 #[.val (.ref a1), .val (.int p2), .val (.int p3), .val (.int p4), .val (.int p5), .val (.int (p2 &&& (3 : Int32))), .val (.int ((p2 >>> ((2 : Int32) &&& 31)).toInt8.toInt32)), .val (.int (10 : Int32)), .val (.int (13 : Int32)), .val (.int ((p2 >>> ((2 : Int32) &&& 31)).toInt8.toInt32)), .val (.int (10 : Int32)), .val (.int (10 : Int32)), .val (.int (2 : Int32)), .val (.ref b187), .val (.int sv), .val (.int (nar .boolean w5194)), .unset] [(.int (3 : Int32)), (.int ((1 : Int32) + sv)), (.ref b187), (.ref a1)])) rfl (by rw [hml]; rfl) (Steps.refl _) (argsL := [(.ref b187), (.int ((1 : Int32) + sv)), (.int (3 : Int32))]) (rest := []) (lenOf pd_4_1 rfl) rfl (by show 2 * 0 + _ ≤ _; exact Nat.le_of_eq rfl) (hb hby d4_147) (fun _ _ => ⟨rfl, rfl, (by decide : 1 + 0 ≤ _), (by decide : 5 + 0 ≤ _)⟩)
        dsimp only [Pt.U, Pt.locs, Pt.cells, Pt.slots] at X195 l195 y195 z195 st195 hQ195
        subst l195 y195 z195
        obtain ⟨w1195, w2195, w3195, w4195, w5195, rfl, N195q, K195, u195_1, u195_2, u195_3, u195_4, u195_5, u195_6⟩ := hQ195
        have N195 := Fr.app N194 N195q
        have c195_0 := c194_0.keep K195
        have c195_1 := c194_1.keep K195
        have c195_2 := c194_2.keep K195 (ninS (Ne.symm (Nat.ne_of_lt lt187_a1_b187)) nin0)
        have KK195 : Keep h0 T195.heap [a1] := KK194.trans K195 (allS (P := fun x => x ∈ [a1] ∨ h0.size ≤ x) (Or.inl (List.mem_of_getElem? (i := 0) rfl)) all0)
        have ZN195 : n0 ≤ T195.heap.size := Nat.le_trans ZN194 K195.1
        refine goT st195 ?_
        show Go _ p e below s _ _ _ (T195.setTop (mkF m 150 #[.val (.ref a1), .val (.int p2), .val (.int p3), .val (.int p4), .val (.int p5), .val (.int (p2 &&& (3 : Int32))), .val (.int ((p2 >>> ((2 : Int32) &&& 31)).toInt8.toInt32)), .val (.int (10 : Int32)), .val (.int (13 : Int32)), .val (.int ((p2 >>> ((2 : Int32) &&& 31)).toInt8.toInt32)), .val (.int (10 : Int32)), .val (.int (10 : Int32)), .val (.int (2 : Int32)), .val (.ref b187), .val (.int sv), .val (.int (nar .boolean w5194)), .unset] [(.int (nar .boolean w5195))]))
        refine go (fun _ => XS.istore X195.here hx rfl (hb hby d4_150) rfl (l' := #[.val (.ref a1), .val (.int p2), .val (.int p3), .val (.int p4), .val (.int p5), .val (.int (p2 &&& (3 : Int32))), .val (.int ((p2 >>> ((2 : Int32) &&& 31)).toInt8.toInt32)), .val (.int (10 : Int32)), .val (.int (13 : Int32)), .val (.int ((p2 >>> ((2 : Int32) &&& 31)).toInt8.toInt32)), .val (.int (10 : Int32)), .val (.int (10 : Int32)), .val (.int (2 : Int32)), .val (.ref b187), .val (.int sv), .val (.int (nar .boolean w5194)), .val (.int (nar .boolean w5195))]) rfl) ?_
        show Go _ p e below s _ _ _ (T195.setTop (mkF m 152 #[.val (.ref a1), .val (.int p2), .val (.int p3), .val (.int p4), .val (.int p5), .val (.int (p2 &&& (3 : Int32))), .val (.int ((p2 >>> ((2 : Int32) &&& 31)).toInt8.toInt32)), .val (.int (10 : Int32)), .val (.int (13 : Int32)), .val (.int ((p2 >>> ((2 : Int32) &&& 31)).toInt8.toInt32)), .val (.int (10 : Int32)), .val (.int (10 : Int32)), .val (.int (2 : Int32)), .val (.ref b187), .val (.int sv), .val (.int (nar .boolean w5194)), .val (.int (nar .boolean w5195))] []))
        have hline : ∀ x1 x3 : Int32, 0 ≤ x1.toInt → x1.toInt ≤ N → (rq = 0 ∨ rq = 1) → own_inv (own_run (fun j => [(nar .byte (10 : Int32)), (nar .byte ((p2 >>> ((2 : Int32) &&& 31)).toInt8.toInt32)), (nar .byte (10 : Int32)), (nar .byte (10 : Int32)), (nar .byte (10 : Int32))].getD j 0) 2 1 (x1, 0, x3, rq, 0)) (own_rq rq (own_emp (p2 &&& (3 : Int32)) ((p2 >>> ((2 : Int32) &&& 31)) &&& (255 : Int32)))) (own_fd 0 (own_emp (p2 &&& (3 : Int32)) ((p2 >>> ((2 : Int32) &&& 31)) &&& (255 : Int32))) rq) (N + 3) := by
          intro x1 x3 g1 g2 g3
          by_cases q1 : ((p2 >>> ((2 : Int32) &&& 31)).toInt8.toInt32) = 13
          · rw [show (own_emp (p2 &&& (3 : Int32)) ((p2 >>> ((2 : Int32) &&& 31)) &&& (255 : Int32))) = 1 from by unfold own_emp; simp only [if_neg hc33_160, if_neg hc45_173, if_pos hc61_186, if_pos ((own_cc _ 13 13 (by decide) (by decide)).mpr q1)]]
            exact own_line1 ((own_nb8 _).trans q1) rfl g1 g2 (by omega) g3
          · by_cases q2 : ((p2 >>> ((2 : Int32) &&& 31)).toInt8.toInt32) = 10
            · rw [show (own_emp (p2 &&& (3 : Int32)) ((p2 >>> ((2 : Int32) &&& 31)) &&& (255 : Int32))) = 1 from by unfold own_emp; simp only [if_neg hc33_160, if_neg hc45_173, if_pos hc61_186, if_neg (fun u => q1 ((own_cc _ 13 13 (by decide) (by decide)).mp u)), if_pos ((own_cc _ 10 10 (by decide) (by decide)).mpr q2)]]
              exact own_line2a ((own_nb8 _).trans q2) rfl g1 g2 (by omega) g3
            · rw [show (own_emp (p2 &&& (3 : Int32)) ((p2 >>> ((2 : Int32) &&& 31)) &&& (255 : Int32))) = 0 from by unfold own_emp; simp only [if_neg hc33_160, if_neg hc45_173, if_pos hc61_186, if_neg (fun u => q1 ((own_cc _ 13 13 (by decide) (by decide)).mp u)), if_neg (fun u => q2 ((own_cc _ 10 10 (by decide) (by decide)).mp u))]]
              exact own_line2c (fun u => q2 ((own_nb8 _).symm.trans u)) (fun u => q1 ((own_nb8 _).symm.trans u)) rfl g1 g2 (by omega) g3
        obtain ⟨f1, f2, f3, f4, f5⟩ := own_feed (g := (fun j => [(nar .byte (10 : Int32)), (nar .byte ((p2 >>> ((2 : Int32) &&& 31)).toInt8.toInt32)), (nar .byte (10 : Int32)), (nar .byte (10 : Int32)), (nar .byte (10 : Int32))].getD j 0)) hsl u194_6 u195_6 hin (own_e01 _ _) hline
        dsimp only at f2 f3 f4 f5
        refine go (fun _ => XS.iloadN X195.here hx rfl (hb hby d4_152) rfl) ?_
        show Go _ p e below s _ _ _ (T195.setTop (mkF m 153 #[.val (.ref a1), .val (.int p2), .val (.int p3), .val (.int p4), .val (.int p5), .val (.int (p2 &&& (3 : Int32))), .val (.int ((p2 >>> ((2 : Int32) &&& 31)).toInt8.toInt32)), .val (.int (10 : Int32)), .val (.int (13 : Int32)), .val (.int ((p2 >>> ((2 : Int32) &&& 31)).toInt8.toInt32)), .val (.int (10 : Int32)), .val (.int (10 : Int32)), .val (.int (2 : Int32)), .val (.ref b187), .val (.int sv), .val (.int (nar .boolean w5194)), .val (.int (nar .boolean w5195))] [(.int p4)]))
        by_cases hc153_196 : p4 = (0 : Int32)
        · refine go (fun _ => XS.ifYes X195.here hx rfl (pc0 := 153) (pc' := 161) rfl (hb hby d4_153) rfl ((if0 _ _).trans (teq hc153_196).1) (by decide) (by decide)) ?_
          show Go _ p e below s _ _ _ (T195.setTop (mkF m 161 #[.val (.ref a1), .val (.int p2), .val (.int p3), .val (.int p4), .val (.int p5), .val (.int (p2 &&& (3 : Int32))), .val (.int ((p2 >>> ((2 : Int32) &&& 31)).toInt8.toInt32)), .val (.int (10 : Int32)), .val (.int (13 : Int32)), .val (.int ((p2 >>> ((2 : Int32) &&& 31)).toInt8.toInt32)), .val (.int (10 : Int32)), .val (.int (10 : Int32)), .val (.int (2 : Int32)), .val (.ref b187), .val (.int sv), .val (.int (nar .boolean w5194)), .val (.int (nar .boolean w5195))] []))
          refine go (fun _ => XS.iload X195.here hx rfl (hb hby d4_161) rfl) ?_
          show Go _ p e below s _ _ _ (T195.setTop (mkF m 163 #[.val (.ref a1), .val (.int p2), .val (.int p3), .val (.int p4), .val (.int p5), .val (.int (p2 &&& (3 : Int32))), .val (.int ((p2 >>> ((2 : Int32) &&& 31)).toInt8.toInt32)), .val (.int (10 : Int32)), .val (.int (13 : Int32)), .val (.int ((p2 >>> ((2 : Int32) &&& 31)).toInt8.toInt32)), .val (.int (10 : Int32)), .val (.int (10 : Int32)), .val (.int (2 : Int32)), .val (.ref b187), .val (.int sv), .val (.int (nar .boolean w5194)), .val (.int (nar .boolean w5195))] [(.int (nar .boolean w5194))]))
          by_cases hc163_197 : (nar .boolean w5194) = (0 : Int32)
          · refine go (fun _ => XS.ifYes X195.here hx rfl (pc0 := 163) (pc' := 171) rfl (hb hby d4_163) rfl ((if0 _ _).trans (teq hc163_197).1) (by decide) (by decide)) ?_
            show Go _ p e below s _ _ _ (T195.setTop (mkF m 171 #[.val (.ref a1), .val (.int p2), .val (.int p3), .val (.int p4), .val (.int p5), .val (.int (p2 &&& (3 : Int32))), .val (.int ((p2 >>> ((2 : Int32) &&& 31)).toInt8.toInt32)), .val (.int (10 : Int32)), .val (.int (13 : Int32)), .val (.int ((p2 >>> ((2 : Int32) &&& 31)).toInt8.toInt32)), .val (.int (10 : Int32)), .val (.int (10 : Int32)), .val (.int (2 : Int32)), .val (.ref b187), .val (.int sv), .val (.int (nar .boolean w5194)), .val (.int (nar .boolean w5195))] []))
            refine go (fun _ => XS.iload X195.here hx rfl (hb hby d4_171) rfl) ?_
            show Go _ p e below s _ _ _ (T195.setTop (mkF m 173 #[.val (.ref a1), .val (.int p2), .val (.int p3), .val (.int p4), .val (.int p5), .val (.int (p2 &&& (3 : Int32))), .val (.int ((p2 >>> ((2 : Int32) &&& 31)).toInt8.toInt32)), .val (.int (10 : Int32)), .val (.int (13 : Int32)), .val (.int ((p2 >>> ((2 : Int32) &&& 31)).toInt8.toInt32)), .val (.int (10 : Int32)), .val (.int (10 : Int32)), .val (.int (2 : Int32)), .val (.ref b187), .val (.int sv), .val (.int (nar .boolean w5194)), .val (.int (nar .boolean w5195))] [(.int (nar .boolean w5195))]))
            refine go (fun _ => XS.iload X195.here hx rfl (hb hby d4_173) rfl) ?_
            show Go _ p e below s _ _ _ (T195.setTop (mkF m 175 #[.val (.ref a1), .val (.int p2), .val (.int p3), .val (.int p4), .val (.int p5), .val (.int (p2 &&& (3 : Int32))), .val (.int ((p2 >>> ((2 : Int32) &&& 31)).toInt8.toInt32)), .val (.int (10 : Int32)), .val (.int (13 : Int32)), .val (.int ((p2 >>> ((2 : Int32) &&& 31)).toInt8.toInt32)), .val (.int (10 : Int32)), .val (.int (10 : Int32)), .val (.int (2 : Int32)), .val (.ref b187), .val (.int sv), .val (.int (nar .boolean w5194)), .val (.int (nar .boolean w5195))] [(.int p5), (.int (nar .boolean w5195))]))
            refine go (fun _ => XS.icmpNo X195.here hx rfl (hb hby d4_175) rfl (teq (by rw [h5, ← f4]; exact own_nb (by rw [f4]; exact f1.2.1))).2) ?_
            show Go _ p e below s _ _ _ (T195.setTop (mkF m 178 #[.val (.ref a1), .val (.int p2), .val (.int p3), .val (.int p4), .val (.int p5), .val (.int (p2 &&& (3 : Int32))), .val (.int ((p2 >>> ((2 : Int32) &&& 31)).toInt8.toInt32)), .val (.int (10 : Int32)), .val (.int (13 : Int32)), .val (.int ((p2 >>> ((2 : Int32) &&& 31)).toInt8.toInt32)), .val (.int (10 : Int32)), .val (.int (10 : Int32)), .val (.int (2 : Int32)), .val (.ref b187), .val (.int sv), .val (.int (nar .boolean w5194)), .val (.int (nar .boolean w5195))] []))
            refine go (fun _ => XS.iconst X195.here hx rfl (hb hby d4_178)) ?_
            show Go _ p e below s _ _ _ (T195.setTop (mkF m 179 #[.val (.ref a1), .val (.int p2), .val (.int p3), .val (.int p4), .val (.int p5), .val (.int (p2 &&& (3 : Int32))), .val (.int ((p2 >>> ((2 : Int32) &&& 31)).toInt8.toInt32)), .val (.int (10 : Int32)), .val (.int (13 : Int32)), .val (.int ((p2 >>> ((2 : Int32) &&& 31)).toInt8.toInt32)), .val (.int (10 : Int32)), .val (.int (10 : Int32)), .val (.int (2 : Int32)), .val (.ref b187), .val (.int sv), .val (.int (nar .boolean w5194)), .val (.int (nar .boolean w5195))] [(.int (1 : Int32))]))
            refine go (fun _ => XS.goto X195.here hx rfl (pc0 := 179) (pc' := 183) rfl (hb hby d4_179) (by decide) (by decide)) ?_
            show Go _ p e below s _ _ _ (T195.setTop (mkF m 183 #[.val (.ref a1), .val (.int p2), .val (.int p3), .val (.int p4), .val (.int p5), .val (.int (p2 &&& (3 : Int32))), .val (.int ((p2 >>> ((2 : Int32) &&& 31)).toInt8.toInt32)), .val (.int (10 : Int32)), .val (.int (13 : Int32)), .val (.int ((p2 >>> ((2 : Int32) &&& 31)).toInt8.toInt32)), .val (.int (10 : Int32)), .val (.int (10 : Int32)), .val (.int (2 : Int32)), .val (.ref b187), .val (.int sv), .val (.int (nar .boolean w5194)), .val (.int (nar .boolean w5195))] [(.int (1 : Int32))]))
            refine goRet X195 hx Bd.notSynchronized Bd.returns rfl (Or.inl ⟨rfl, Or.inr (Or.inl rfl), _, rfl⟩) (hb hby d4_183) (by decide) (by decide) (by refine ⟨w1195, w2195, w3195, w4195, w5195, rfl, N195, KK195, u195_1, u195_2, u195_3, u195_4, u195_5, f1⟩)
          · refine go (fun _ => XS.ifNo X195.here hx rfl (hb hby d4_163) rfl ((if0 _ _).trans (feq hc163_197).1)) ?_
            show Go _ p e below s _ _ _ (T195.setTop (mkF m 166 #[.val (.ref a1), .val (.int p2), .val (.int p3), .val (.int p4), .val (.int p5), .val (.int (p2 &&& (3 : Int32))), .val (.int ((p2 >>> ((2 : Int32) &&& 31)).toInt8.toInt32)), .val (.int (10 : Int32)), .val (.int (13 : Int32)), .val (.int ((p2 >>> ((2 : Int32) &&& 31)).toInt8.toInt32)), .val (.int (10 : Int32)), .val (.int (10 : Int32)), .val (.int (2 : Int32)), .val (.ref b187), .val (.int sv), .val (.int (nar .boolean w5194)), .val (.int (nar .boolean w5195))] []))
            refine go (fun _ => XS.iload X195.here hx rfl (hb hby d4_166) rfl) ?_
            show Go _ p e below s _ _ _ (T195.setTop (mkF m 168 #[.val (.ref a1), .val (.int p2), .val (.int p3), .val (.int p4), .val (.int p5), .val (.int (p2 &&& (3 : Int32))), .val (.int ((p2 >>> ((2 : Int32) &&& 31)).toInt8.toInt32)), .val (.int (10 : Int32)), .val (.int (13 : Int32)), .val (.int ((p2 >>> ((2 : Int32) &&& 31)).toInt8.toInt32)), .val (.int (10 : Int32)), .val (.int (10 : Int32)), .val (.int (2 : Int32)), .val (.ref b187), .val (.int sv), .val (.int (nar .boolean w5194)), .val (.int (nar .boolean w5195))] [(.int p5)]))
            refine go (fun _ => XS.ifNo X195.here hx rfl (hb hby d4_168) rfl ((if0 _ _).trans (feq (fun u => by rw [h5, f3 (fun v => hc163_197 (by rw [own_nb f5]; exact v))] at u; exact absurd u (by decide))).1)) ?_
            show Go _ p e below s _ _ _ (T195.setTop (mkF m 171 #[.val (.ref a1), .val (.int p2), .val (.int p3), .val (.int p4), .val (.int p5), .val (.int (p2 &&& (3 : Int32))), .val (.int ((p2 >>> ((2 : Int32) &&& 31)).toInt8.toInt32)), .val (.int (10 : Int32)), .val (.int (13 : Int32)), .val (.int ((p2 >>> ((2 : Int32) &&& 31)).toInt8.toInt32)), .val (.int (10 : Int32)), .val (.int (10 : Int32)), .val (.int (2 : Int32)), .val (.ref b187), .val (.int sv), .val (.int (nar .boolean w5194)), .val (.int (nar .boolean w5195))] []))
            refine go (fun _ => XS.iload X195.here hx rfl (hb hby d4_171) rfl) ?_
            show Go _ p e below s _ _ _ (T195.setTop (mkF m 173 #[.val (.ref a1), .val (.int p2), .val (.int p3), .val (.int p4), .val (.int p5), .val (.int (p2 &&& (3 : Int32))), .val (.int ((p2 >>> ((2 : Int32) &&& 31)).toInt8.toInt32)), .val (.int (10 : Int32)), .val (.int (13 : Int32)), .val (.int ((p2 >>> ((2 : Int32) &&& 31)).toInt8.toInt32)), .val (.int (10 : Int32)), .val (.int (10 : Int32)), .val (.int (2 : Int32)), .val (.ref b187), .val (.int sv), .val (.int (nar .boolean w5194)), .val (.int (nar .boolean w5195))] [(.int (nar .boolean w5195))]))
            refine go (fun _ => XS.iload X195.here hx rfl (hb hby d4_173) rfl) ?_
            show Go _ p e below s _ _ _ (T195.setTop (mkF m 175 #[.val (.ref a1), .val (.int p2), .val (.int p3), .val (.int p4), .val (.int p5), .val (.int (p2 &&& (3 : Int32))), .val (.int ((p2 >>> ((2 : Int32) &&& 31)).toInt8.toInt32)), .val (.int (10 : Int32)), .val (.int (13 : Int32)), .val (.int ((p2 >>> ((2 : Int32) &&& 31)).toInt8.toInt32)), .val (.int (10 : Int32)), .val (.int (10 : Int32)), .val (.int (2 : Int32)), .val (.ref b187), .val (.int sv), .val (.int (nar .boolean w5194)), .val (.int (nar .boolean w5195))] [(.int p5), (.int (nar .boolean w5195))]))
            refine go (fun _ => XS.icmpNo X195.here hx rfl (hb hby d4_175) rfl (teq (by rw [h5, ← f4]; exact own_nb (by rw [f4]; exact f1.2.1))).2) ?_
            show Go _ p e below s _ _ _ (T195.setTop (mkF m 178 #[.val (.ref a1), .val (.int p2), .val (.int p3), .val (.int p4), .val (.int p5), .val (.int (p2 &&& (3 : Int32))), .val (.int ((p2 >>> ((2 : Int32) &&& 31)).toInt8.toInt32)), .val (.int (10 : Int32)), .val (.int (13 : Int32)), .val (.int ((p2 >>> ((2 : Int32) &&& 31)).toInt8.toInt32)), .val (.int (10 : Int32)), .val (.int (10 : Int32)), .val (.int (2 : Int32)), .val (.ref b187), .val (.int sv), .val (.int (nar .boolean w5194)), .val (.int (nar .boolean w5195))] []))
            refine go (fun _ => XS.iconst X195.here hx rfl (hb hby d4_178)) ?_
            show Go _ p e below s _ _ _ (T195.setTop (mkF m 179 #[.val (.ref a1), .val (.int p2), .val (.int p3), .val (.int p4), .val (.int p5), .val (.int (p2 &&& (3 : Int32))), .val (.int ((p2 >>> ((2 : Int32) &&& 31)).toInt8.toInt32)), .val (.int (10 : Int32)), .val (.int (13 : Int32)), .val (.int ((p2 >>> ((2 : Int32) &&& 31)).toInt8.toInt32)), .val (.int (10 : Int32)), .val (.int (10 : Int32)), .val (.int (2 : Int32)), .val (.ref b187), .val (.int sv), .val (.int (nar .boolean w5194)), .val (.int (nar .boolean w5195))] [(.int (1 : Int32))]))
            refine go (fun _ => XS.goto X195.here hx rfl (pc0 := 179) (pc' := 183) rfl (hb hby d4_179) (by decide) (by decide)) ?_
            show Go _ p e below s _ _ _ (T195.setTop (mkF m 183 #[.val (.ref a1), .val (.int p2), .val (.int p3), .val (.int p4), .val (.int p5), .val (.int (p2 &&& (3 : Int32))), .val (.int ((p2 >>> ((2 : Int32) &&& 31)).toInt8.toInt32)), .val (.int (10 : Int32)), .val (.int (13 : Int32)), .val (.int ((p2 >>> ((2 : Int32) &&& 31)).toInt8.toInt32)), .val (.int (10 : Int32)), .val (.int (10 : Int32)), .val (.int (2 : Int32)), .val (.ref b187), .val (.int sv), .val (.int (nar .boolean w5194)), .val (.int (nar .boolean w5195))] [(.int (1 : Int32))]))
            refine goRet X195 hx Bd.notSynchronized Bd.returns rfl (Or.inl ⟨rfl, Or.inr (Or.inl rfl), _, rfl⟩) (hb hby d4_183) (by decide) (by decide) (by refine ⟨w1195, w2195, w3195, w4195, w5195, rfl, N195, KK195, u195_1, u195_2, u195_3, u195_4, u195_5, f1⟩)
        · refine go (fun _ => XS.ifNo X195.here hx rfl (hb hby d4_153) rfl ((if0 _ _).trans (feq hc153_196).1)) ?_
          show Go _ p e below s _ _ _ (T195.setTop (mkF m 156 #[.val (.ref a1), .val (.int p2), .val (.int p3), .val (.int p4), .val (.int p5), .val (.int (p2 &&& (3 : Int32))), .val (.int ((p2 >>> ((2 : Int32) &&& 31)).toInt8.toInt32)), .val (.int (10 : Int32)), .val (.int (13 : Int32)), .val (.int ((p2 >>> ((2 : Int32) &&& 31)).toInt8.toInt32)), .val (.int (10 : Int32)), .val (.int (10 : Int32)), .val (.int (2 : Int32)), .val (.ref b187), .val (.int sv), .val (.int (nar .boolean w5194)), .val (.int (nar .boolean w5195))] []))
          refine go (fun _ => XS.iload X195.here hx rfl (hb hby d4_156) rfl) ?_
          show Go _ p e below s _ _ _ (T195.setTop (mkF m 158 #[.val (.ref a1), .val (.int p2), .val (.int p3), .val (.int p4), .val (.int p5), .val (.int (p2 &&& (3 : Int32))), .val (.int ((p2 >>> ((2 : Int32) &&& 31)).toInt8.toInt32)), .val (.int (10 : Int32)), .val (.int (13 : Int32)), .val (.int ((p2 >>> ((2 : Int32) &&& 31)).toInt8.toInt32)), .val (.int (10 : Int32)), .val (.int (10 : Int32)), .val (.int (2 : Int32)), .val (.ref b187), .val (.int sv), .val (.int (nar .boolean w5194)), .val (.int (nar .boolean w5195))] [(.int (nar .boolean w5194))]))
          refine go (fun _ => XS.ifNo X195.here hx rfl (hb hby d4_158) rfl ((if0 _ _).trans (feq (fun u => by rw [own_nb f5, f2 (fun v => hc153_196 (h4.trans v))] at u; exact absurd u (by decide))).1)) ?_
          show Go _ p e below s _ _ _ (T195.setTop (mkF m 161 #[.val (.ref a1), .val (.int p2), .val (.int p3), .val (.int p4), .val (.int p5), .val (.int (p2 &&& (3 : Int32))), .val (.int ((p2 >>> ((2 : Int32) &&& 31)).toInt8.toInt32)), .val (.int (10 : Int32)), .val (.int (13 : Int32)), .val (.int ((p2 >>> ((2 : Int32) &&& 31)).toInt8.toInt32)), .val (.int (10 : Int32)), .val (.int (10 : Int32)), .val (.int (2 : Int32)), .val (.ref b187), .val (.int sv), .val (.int (nar .boolean w5194)), .val (.int (nar .boolean w5195))] []))
          refine go (fun _ => XS.iload X195.here hx rfl (hb hby d4_161) rfl) ?_
          show Go _ p e below s _ _ _ (T195.setTop (mkF m 163 #[.val (.ref a1), .val (.int p2), .val (.int p3), .val (.int p4), .val (.int p5), .val (.int (p2 &&& (3 : Int32))), .val (.int ((p2 >>> ((2 : Int32) &&& 31)).toInt8.toInt32)), .val (.int (10 : Int32)), .val (.int (13 : Int32)), .val (.int ((p2 >>> ((2 : Int32) &&& 31)).toInt8.toInt32)), .val (.int (10 : Int32)), .val (.int (10 : Int32)), .val (.int (2 : Int32)), .val (.ref b187), .val (.int sv), .val (.int (nar .boolean w5194)), .val (.int (nar .boolean w5195))] [(.int (nar .boolean w5194))]))
          by_cases hc163_198 : (nar .boolean w5194) = (0 : Int32)
          · refine go (fun _ => XS.ifYes X195.here hx rfl (pc0 := 163) (pc' := 171) rfl (hb hby d4_163) rfl ((if0 _ _).trans (teq hc163_198).1) (by decide) (by decide)) ?_
            show Go _ p e below s _ _ _ (T195.setTop (mkF m 171 #[.val (.ref a1), .val (.int p2), .val (.int p3), .val (.int p4), .val (.int p5), .val (.int (p2 &&& (3 : Int32))), .val (.int ((p2 >>> ((2 : Int32) &&& 31)).toInt8.toInt32)), .val (.int (10 : Int32)), .val (.int (13 : Int32)), .val (.int ((p2 >>> ((2 : Int32) &&& 31)).toInt8.toInt32)), .val (.int (10 : Int32)), .val (.int (10 : Int32)), .val (.int (2 : Int32)), .val (.ref b187), .val (.int sv), .val (.int (nar .boolean w5194)), .val (.int (nar .boolean w5195))] []))
            refine go (fun _ => XS.iload X195.here hx rfl (hb hby d4_171) rfl) ?_
            show Go _ p e below s _ _ _ (T195.setTop (mkF m 173 #[.val (.ref a1), .val (.int p2), .val (.int p3), .val (.int p4), .val (.int p5), .val (.int (p2 &&& (3 : Int32))), .val (.int ((p2 >>> ((2 : Int32) &&& 31)).toInt8.toInt32)), .val (.int (10 : Int32)), .val (.int (13 : Int32)), .val (.int ((p2 >>> ((2 : Int32) &&& 31)).toInt8.toInt32)), .val (.int (10 : Int32)), .val (.int (10 : Int32)), .val (.int (2 : Int32)), .val (.ref b187), .val (.int sv), .val (.int (nar .boolean w5194)), .val (.int (nar .boolean w5195))] [(.int (nar .boolean w5195))]))
            refine go (fun _ => XS.iload X195.here hx rfl (hb hby d4_173) rfl) ?_
            show Go _ p e below s _ _ _ (T195.setTop (mkF m 175 #[.val (.ref a1), .val (.int p2), .val (.int p3), .val (.int p4), .val (.int p5), .val (.int (p2 &&& (3 : Int32))), .val (.int ((p2 >>> ((2 : Int32) &&& 31)).toInt8.toInt32)), .val (.int (10 : Int32)), .val (.int (13 : Int32)), .val (.int ((p2 >>> ((2 : Int32) &&& 31)).toInt8.toInt32)), .val (.int (10 : Int32)), .val (.int (10 : Int32)), .val (.int (2 : Int32)), .val (.ref b187), .val (.int sv), .val (.int (nar .boolean w5194)), .val (.int (nar .boolean w5195))] [(.int p5), (.int (nar .boolean w5195))]))
            refine go (fun _ => XS.icmpNo X195.here hx rfl (hb hby d4_175) rfl (teq (by rw [h5, ← f4]; exact own_nb (by rw [f4]; exact f1.2.1))).2) ?_
            show Go _ p e below s _ _ _ (T195.setTop (mkF m 178 #[.val (.ref a1), .val (.int p2), .val (.int p3), .val (.int p4), .val (.int p5), .val (.int (p2 &&& (3 : Int32))), .val (.int ((p2 >>> ((2 : Int32) &&& 31)).toInt8.toInt32)), .val (.int (10 : Int32)), .val (.int (13 : Int32)), .val (.int ((p2 >>> ((2 : Int32) &&& 31)).toInt8.toInt32)), .val (.int (10 : Int32)), .val (.int (10 : Int32)), .val (.int (2 : Int32)), .val (.ref b187), .val (.int sv), .val (.int (nar .boolean w5194)), .val (.int (nar .boolean w5195))] []))
            refine go (fun _ => XS.iconst X195.here hx rfl (hb hby d4_178)) ?_
            show Go _ p e below s _ _ _ (T195.setTop (mkF m 179 #[.val (.ref a1), .val (.int p2), .val (.int p3), .val (.int p4), .val (.int p5), .val (.int (p2 &&& (3 : Int32))), .val (.int ((p2 >>> ((2 : Int32) &&& 31)).toInt8.toInt32)), .val (.int (10 : Int32)), .val (.int (13 : Int32)), .val (.int ((p2 >>> ((2 : Int32) &&& 31)).toInt8.toInt32)), .val (.int (10 : Int32)), .val (.int (10 : Int32)), .val (.int (2 : Int32)), .val (.ref b187), .val (.int sv), .val (.int (nar .boolean w5194)), .val (.int (nar .boolean w5195))] [(.int (1 : Int32))]))
            refine go (fun _ => XS.goto X195.here hx rfl (pc0 := 179) (pc' := 183) rfl (hb hby d4_179) (by decide) (by decide)) ?_
            show Go _ p e below s _ _ _ (T195.setTop (mkF m 183 #[.val (.ref a1), .val (.int p2), .val (.int p3), .val (.int p4), .val (.int p5), .val (.int (p2 &&& (3 : Int32))), .val (.int ((p2 >>> ((2 : Int32) &&& 31)).toInt8.toInt32)), .val (.int (10 : Int32)), .val (.int (13 : Int32)), .val (.int ((p2 >>> ((2 : Int32) &&& 31)).toInt8.toInt32)), .val (.int (10 : Int32)), .val (.int (10 : Int32)), .val (.int (2 : Int32)), .val (.ref b187), .val (.int sv), .val (.int (nar .boolean w5194)), .val (.int (nar .boolean w5195))] [(.int (1 : Int32))]))
            refine goRet X195 hx Bd.notSynchronized Bd.returns rfl (Or.inl ⟨rfl, Or.inr (Or.inl rfl), _, rfl⟩) (hb hby d4_183) (by decide) (by decide) (by refine ⟨w1195, w2195, w3195, w4195, w5195, rfl, N195, KK195, u195_1, u195_2, u195_3, u195_4, u195_5, f1⟩)
          · refine go (fun _ => XS.ifNo X195.here hx rfl (hb hby d4_163) rfl ((if0 _ _).trans (feq hc163_198).1)) ?_
            show Go _ p e below s _ _ _ (T195.setTop (mkF m 166 #[.val (.ref a1), .val (.int p2), .val (.int p3), .val (.int p4), .val (.int p5), .val (.int (p2 &&& (3 : Int32))), .val (.int ((p2 >>> ((2 : Int32) &&& 31)).toInt8.toInt32)), .val (.int (10 : Int32)), .val (.int (13 : Int32)), .val (.int ((p2 >>> ((2 : Int32) &&& 31)).toInt8.toInt32)), .val (.int (10 : Int32)), .val (.int (10 : Int32)), .val (.int (2 : Int32)), .val (.ref b187), .val (.int sv), .val (.int (nar .boolean w5194)), .val (.int (nar .boolean w5195))] []))
            refine go (fun _ => XS.iload X195.here hx rfl (hb hby d4_166) rfl) ?_
            show Go _ p e below s _ _ _ (T195.setTop (mkF m 168 #[.val (.ref a1), .val (.int p2), .val (.int p3), .val (.int p4), .val (.int p5), .val (.int (p2 &&& (3 : Int32))), .val (.int ((p2 >>> ((2 : Int32) &&& 31)).toInt8.toInt32)), .val (.int (10 : Int32)), .val (.int (13 : Int32)), .val (.int ((p2 >>> ((2 : Int32) &&& 31)).toInt8.toInt32)), .val (.int (10 : Int32)), .val (.int (10 : Int32)), .val (.int (2 : Int32)), .val (.ref b187), .val (.int sv), .val (.int (nar .boolean w5194)), .val (.int (nar .boolean w5195))] [(.int p5)]))
            refine go (fun _ => XS.ifNo X195.here hx rfl (hb hby d4_168) rfl ((if0 _ _).trans (feq (fun u => by rw [h5, f3 (fun v => hc163_198 (by rw [own_nb f5]; exact v))] at u; exact absurd u (by decide))).1)) ?_
            show Go _ p e below s _ _ _ (T195.setTop (mkF m 171 #[.val (.ref a1), .val (.int p2), .val (.int p3), .val (.int p4), .val (.int p5), .val (.int (p2 &&& (3 : Int32))), .val (.int ((p2 >>> ((2 : Int32) &&& 31)).toInt8.toInt32)), .val (.int (10 : Int32)), .val (.int (13 : Int32)), .val (.int ((p2 >>> ((2 : Int32) &&& 31)).toInt8.toInt32)), .val (.int (10 : Int32)), .val (.int (10 : Int32)), .val (.int (2 : Int32)), .val (.ref b187), .val (.int sv), .val (.int (nar .boolean w5194)), .val (.int (nar .boolean w5195))] []))
            refine go (fun _ => XS.iload X195.here hx rfl (hb hby d4_171) rfl) ?_
            show Go _ p e below s _ _ _ (T195.setTop (mkF m 173 #[.val (.ref a1), .val (.int p2), .val (.int p3), .val (.int p4), .val (.int p5), .val (.int (p2 &&& (3 : Int32))), .val (.int ((p2 >>> ((2 : Int32) &&& 31)).toInt8.toInt32)), .val (.int (10 : Int32)), .val (.int (13 : Int32)), .val (.int ((p2 >>> ((2 : Int32) &&& 31)).toInt8.toInt32)), .val (.int (10 : Int32)), .val (.int (10 : Int32)), .val (.int (2 : Int32)), .val (.ref b187), .val (.int sv), .val (.int (nar .boolean w5194)), .val (.int (nar .boolean w5195))] [(.int (nar .boolean w5195))]))
            refine go (fun _ => XS.iload X195.here hx rfl (hb hby d4_173) rfl) ?_
            show Go _ p e below s _ _ _ (T195.setTop (mkF m 175 #[.val (.ref a1), .val (.int p2), .val (.int p3), .val (.int p4), .val (.int p5), .val (.int (p2 &&& (3 : Int32))), .val (.int ((p2 >>> ((2 : Int32) &&& 31)).toInt8.toInt32)), .val (.int (10 : Int32)), .val (.int (13 : Int32)), .val (.int ((p2 >>> ((2 : Int32) &&& 31)).toInt8.toInt32)), .val (.int (10 : Int32)), .val (.int (10 : Int32)), .val (.int (2 : Int32)), .val (.ref b187), .val (.int sv), .val (.int (nar .boolean w5194)), .val (.int (nar .boolean w5195))] [(.int p5), (.int (nar .boolean w5195))]))
            refine go (fun _ => XS.icmpNo X195.here hx rfl (hb hby d4_175) rfl (teq (by rw [h5, ← f4]; exact own_nb (by rw [f4]; exact f1.2.1))).2) ?_
            show Go _ p e below s _ _ _ (T195.setTop (mkF m 178 #[.val (.ref a1), .val (.int p2), .val (.int p3), .val (.int p4), .val (.int p5), .val (.int (p2 &&& (3 : Int32))), .val (.int ((p2 >>> ((2 : Int32) &&& 31)).toInt8.toInt32)), .val (.int (10 : Int32)), .val (.int (13 : Int32)), .val (.int ((p2 >>> ((2 : Int32) &&& 31)).toInt8.toInt32)), .val (.int (10 : Int32)), .val (.int (10 : Int32)), .val (.int (2 : Int32)), .val (.ref b187), .val (.int sv), .val (.int (nar .boolean w5194)), .val (.int (nar .boolean w5195))] []))
            refine go (fun _ => XS.iconst X195.here hx rfl (hb hby d4_178)) ?_
            show Go _ p e below s _ _ _ (T195.setTop (mkF m 179 #[.val (.ref a1), .val (.int p2), .val (.int p3), .val (.int p4), .val (.int p5), .val (.int (p2 &&& (3 : Int32))), .val (.int ((p2 >>> ((2 : Int32) &&& 31)).toInt8.toInt32)), .val (.int (10 : Int32)), .val (.int (13 : Int32)), .val (.int ((p2 >>> ((2 : Int32) &&& 31)).toInt8.toInt32)), .val (.int (10 : Int32)), .val (.int (10 : Int32)), .val (.int (2 : Int32)), .val (.ref b187), .val (.int sv), .val (.int (nar .boolean w5194)), .val (.int (nar .boolean w5195))] [(.int (1 : Int32))]))
            refine go (fun _ => XS.goto X195.here hx rfl (pc0 := 179) (pc' := 183) rfl (hb hby d4_179) (by decide) (by decide)) ?_
            show Go _ p e below s _ _ _ (T195.setTop (mkF m 183 #[.val (.ref a1), .val (.int p2), .val (.int p3), .val (.int p4), .val (.int p5), .val (.int (p2 &&& (3 : Int32))), .val (.int ((p2 >>> ((2 : Int32) &&& 31)).toInt8.toInt32)), .val (.int (10 : Int32)), .val (.int (13 : Int32)), .val (.int ((p2 >>> ((2 : Int32) &&& 31)).toInt8.toInt32)), .val (.int (10 : Int32)), .val (.int (10 : Int32)), .val (.int (2 : Int32)), .val (.ref b187), .val (.int sv), .val (.int (nar .boolean w5194)), .val (.int (nar .boolean w5195))] [(.int (1 : Int32))]))
            refine goRet X195 hx Bd.notSynchronized Bd.returns rfl (Or.inl ⟨rfl, Or.inr (Or.inl rfl), _, rfl⟩) (hb hby d4_183) (by decide) (by decide) (by refine ⟨w1195, w2195, w3195, w4195, w5195, rfl, N195, KK195, u195_1, u195_2, u195_3, u195_4, u195_5, f1⟩)
      · refine go (fun _ => XS.icmpYes X0.here hx rfl (pc0 := 61) (pc' := 74) rfl (hb hby d4_61) rfl (feq hc61_186).2 (by decide) (by decide)) ?_
        show Go _ p e below s _ _ _ (s₁.setTop (mkF m 74 #[.val (.ref a1), .val (.int p2), .val (.int p3), .val (.int p4), .val (.int p5), .val (.int (p2 &&& (3 : Int32))), .val (.int ((p2 >>> ((2 : Int32) &&& 31)).toInt8.toInt32)), .val (.int (10 : Int32)), .val (.int (13 : Int32)), .val (.int (10 : Int32)), .val (.int (10 : Int32)), .val (.int (10 : Int32)), .unset, .unset, .unset, .unset, .unset] []))
        refine go (fun _ => XS.iload X0.here hx rfl (hb hby d4_74) rfl) ?_
        show Go _ p e below s _ _ _ (s₁.setTop (mkF m 76 #[.val (.ref a1), .val (.int p2), .val (.int p3), .val (.int p4), .val (.int p5), .val (.int (p2 &&& (3 : Int32))), .val (.int ((p2 >>> ((2 : Int32) &&& 31)).toInt8.toInt32)), .val (.int (10 : Int32)), .val (.int (13 : Int32)), .val (.int (10 : Int32)), .val (.int (10 : Int32)), .val (.int (10 : Int32)), .unset, .unset, .unset, .unset, .unset] [(.int (13 : Int32))]))
        refine go (fun _ => XS.istore X0.here hx rfl (hb hby d4_76) rfl (l' := #[.val (.ref a1), .val (.int p2), .val (.int p3), .val (.int p4), .val (.int p5), .val (.int (p2 &&& (3 : Int32))), .val (.int ((p2 >>> ((2 : Int32) &&& 31)).toInt8.toInt32)), .val (.int (10 : Int32)), .val (.int (13 : Int32)), .val (.int (13 : Int32)), .val (.int (10 : Int32)), .val (.int (10 : Int32)), .unset, .unset, .unset, .unset, .unset]) rfl) ?_
        show Go _ p e below s _ _ _ (s₁.setTop (mkF m 78 #[.val (.ref a1), .val (.int p2), .val (.int p3), .val (.int p4), .val (.int p5), .val (.int (p2 &&& (3 : Int32))), .val (.int ((p2 >>> ((2 : Int32) &&& 31)).toInt8.toInt32)), .val (.int (10 : Int32)), .val (.int (13 : Int32)), .val (.int (13 : Int32)), .val (.int (10 : Int32)), .val (.int (10 : Int32)), .unset, .unset, .unset, .unset, .unset] []))
        refine go (fun _ => XS.iload X0.here hx rfl (hb hby d4_78) rfl) ?_
        show Go _ p e below s _ _ _ (s₁.setTop (mkF m 80 #[.val (.ref a1), .val (.int p2), .val (.int p3), .val (.int p4), .val (.int p5), .val (.int (p2 &&& (3 : Int32))), .val (.int ((p2 >>> ((2 : Int32) &&& 31)).toInt8.toInt32)), .val (.int (10 : Int32)), .val (.int (13 : Int32)), .val (.int (13 : Int32)), .val (.int (10 : Int32)), .val (.int (10 : Int32)), .unset, .unset, .unset, .unset, .unset] [(.int ((p2 >>> ((2 : Int32) &&& 31)).toInt8.toInt32))]))
        refine go (fun _ => XS.istore X0.here hx rfl (hb hby d4_80) rfl (l' := #[.val (.ref a1), .val (.int p2), .val (.int p3), .val (.int p4), .val (.int p5), .val (.int (p2 &&& (3 : Int32))), .val (.int ((p2 >>> ((2 : Int32) &&& 31)).toInt8.toInt32)), .val (.int (10 : Int32)), .val (.int (13 : Int32)), .val (.int (13 : Int32)), .val (.int ((p2 >>> ((2 : Int32) &&& 31)).toInt8.toInt32)), .val (.int (10 : Int32)), .unset, .unset, .unset, .unset, .unset]) rfl) ?_
        show Go _ p e below s _ _ _ (s₁.setTop (mkF m 82 #[.val (.ref a1), .val (.int p2), .val (.int p3), .val (.int p4), .val (.int p5), .val (.int (p2 &&& (3 : Int32))), .val (.int ((p2 >>> ((2 : Int32) &&& 31)).toInt8.toInt32)), .val (.int (10 : Int32)), .val (.int (13 : Int32)), .val (.int (13 : Int32)), .val (.int ((p2 >>> ((2 : Int32) &&& 31)).toInt8.toInt32)), .val (.int (10 : Int32)), .unset, .unset, .unset, .unset, .unset] []))
        refine go (fun _ => XS.iconst X0.here hx rfl (hb hby d4_82)) ?_
        show Go _ p e below s _ _ _ (s₁.setTop (mkF m 83 #[.val (.ref a1), .val (.int p2), .val (.int p3), .val (.int p4), .val (.int p5), .val (.int (p2 &&& (3 : Int32))), .val (.int ((p2 >>> ((2 : Int32) &&& 31)).toInt8.toInt32)), .val (.int (10 : Int32)), .val (.int (13 : Int32)), .val (.int (13 : Int32)), .val (.int ((p2 >>> ((2 : Int32) &&& 31)).toInt8.toInt32)), .val (.int (10 : Int32)), .unset, .unset, .unset, .unset, .unset] [(.int (3 : Int32))]))
        refine go (fun _ => XS.istore X0.here hx rfl (hb hby d4_83) rfl (l' := #[.val (.ref a1), .val (.int p2), .val (.int p3), .val (.int p4), .val (.int p5), .val (.int (p2 &&& (3 : Int32))), .val (.int ((p2 >>> ((2 : Int32) &&& 31)).toInt8.toInt32)), .val (.int (10 : Int32)), .val (.int (13 : Int32)), .val (.int (13 : Int32)), .val (.int ((p2 >>> ((2 : Int32) &&& 31)).toInt8.toInt32)), .val (.int (10 : Int32)), .val (.int (3 : Int32)), .unset, .unset, .unset, .unset]) rfl) ?_
        show Go _ p e below s _ _ _ (s₁.setTop (mkF m 85 #[.val (.ref a1), .val (.int p2), .val (.int p3), .val (.int p4), .val (.int p5), .val (.int (p2 &&& (3 : Int32))), .val (.int ((p2 >>> ((2 : Int32) &&& 31)).toInt8.toInt32)), .val (.int (10 : Int32)), .val (.int (13 : Int32)), .val (.int (13 : Int32)), .val (.int ((p2 >>> ((2 : Int32) &&& 31)).toInt8.toInt32)), .val (.int (10 : Int32)), .val (.int (3 : Int32)), .unset, .unset, .unset, .unset] []))
        refine go (fun _ => XS.iconst X0.here hx rfl (hb hby d4_85)) ?_
        show Go _ p e below s _ _ _ (s₁.setTop (mkF m 86 #[.val (.ref a1), .val (.int p2), .val (.int p3), .val (.int p4), .val (.int p5), .val (.int (p2 &&& (3 : Int32))), .val (.int ((p2 >>> ((2 : Int32) &&& 31)).toInt8.toInt32)), .val (.int (10 : Int32)), .val (.int (13 : Int32)), .val (.int (13 : Int32)), .val (.int ((p2 >>> ((2 : Int32) &&& 31)).toInt8.toInt32)), .val (.int (10 : Int32)), .val (.int (3 : Int32)), .unset, .unset, .unset, .unset] [(.int (5 : Int32))]))
        obtain ⟨T199, h199, k199, X199, e199, E199, A199, AE199, st199⟩ := newPE X0 hx hZ (hw _ (List.mem_of_getElem? (i := 16) rfl)) e0 (g := (mkF m 86 #[.val (.ref a1), .val (.int p2), .val (.int p3), .val (.int p4), .val (.int p5), .val (.int (p2 &&& (3 : Int32))), .val (.int ((p2 >>> ((2 : Int32) &&& 31)).toInt8.toInt32)), .val (.int (10 : Int32)), .val (.int (13 : Int32)), .val (.int (13 : Int32)), .val (.int ((p2 >>> ((2 : Int32) &&& 31)).toInt8.toInt32)), .val (.int (10 : Int32)), .val (.int (3 : Int32)), .unset, .unset, .unset, .unset] [(.int (5 : Int32))])) rfl (hb hby d4_86) rfl (by decide) (cap := 5) (by decide) (by decide) (by decide) (by decide) (ad := "[B") (by first | rfl | decide)
        obtain ⟨b199, g199⟩ : ∃ z, z = h0.size := ⟨_, rfl⟩
        rw [← g199] at A199 AE199 st199
        have lt199_a1_b199 : a1 < b199 := Nat.lt_of_lt_of_le P0.lt (Nat.le_of_eq g199.symm)
        have G_b199 : n0 ≤ b199 := Nat.le_trans Z0 (Nat.le_of_eq g199.symm)
        have SZ_b199 : h0.size ≤ b199 := Nat.le_trans (Keep.refl h0 [a1]).1 (Nat.le_of_eq g199.symm)
        have c199_0 := P0.ext E199
        have c199_1 := P2.ext E199
        have c199_2 := P3.ext E199
        have c199_3 := P4.ext E199
        have c199_4 := P5.ext E199
        have c199_5 := P6.ext E199
        have KK199 : Keep h0 h199 [a1] := (Keep.refl h0 [a1]).ext E199
        have ZN199 : n0 ≤ h199.size := Nat.le_trans Z0 E199.1
        have V199 : Arv Z h199 b199 k199 .byte (5 : Int32) [(.int (0 : Int32)), (.int (0 : Int32)), (.int (0 : Int32)), (.int (0 : Int32)), (.int (0 : Int32))] (.int (0 : Int32)) := (Arv.new A199 (by decide)).pad (pad_rep [] (.int (0 : Int32)) 5)
        refine go st199 ?_
        show Go _ p e below s _ _ _ (T199.setTop (mkF m 88 #[.val (.ref a1), .val (.int p2), .val (.int p3), .val (.int p4), .val (.int p5), .val (.int (p2 &&& (3 : Int32))), .val (.int ((p2 >>> ((2 : Int32) &&& 31)).toInt8.toInt32)), .val (.int (10 : Int32)), .val (.int (13 : Int32)), .val (.int (13 : Int32)), .val (.int ((p2 >>> ((2 : Int32) &&& 31)).toInt8.toInt32)), .val (.int (10 : Int32)), .val (.int (3 : Int32)), .unset, .unset, .unset, .unset] [(.ref b199)]))
        refine go (fun _ => XS.dup X199.here hx rfl (hb hby d4_88) rfl rfl) ?_
        show Go _ p e below s _ _ _ (T199.setTop (mkF m 89 #[.val (.ref a1), .val (.int p2), .val (.int p3), .val (.int p4), .val (.int p5), .val (.int (p2 &&& (3 : Int32))), .val (.int ((p2 >>> ((2 : Int32) &&& 31)).toInt8.toInt32)), .val (.int (10 : Int32)), .val (.int (13 : Int32)), .val (.int (13 : Int32)), .val (.int ((p2 >>> ((2 : Int32) &&& 31)).toInt8.toInt32)), .val (.int (10 : Int32)), .val (.int (3 : Int32)), .unset, .unset, .unset, .unset] [(.ref b199), (.ref b199)]))
        refine go (fun _ => XS.iconst X199.here hx rfl (hb hby d4_89)) ?_
        show Go _ p e below s _ _ _ (T199.setTop (mkF m 90 #[.val (.ref a1), .val (.int p2), .val (.int p3), .val (.int p4), .val (.int p5), .val (.int (p2 &&& (3 : Int32))), .val (.int ((p2 >>> ((2 : Int32) &&& 31)).toInt8.toInt32)), .val (.int (10 : Int32)), .val (.int (13 : Int32)), .val (.int (13 : Int32)), .val (.int ((p2 >>> ((2 : Int32) &&& 31)).toInt8.toInt32)), .val (.int (10 : Int32)), .val (.int (3 : Int32)), .unset, .unset, .unset, .unset] [(.int (0 : Int32)), (.ref b199), (.ref b199)]))
        refine go (fun _ => XS.iload X199.here hx rfl (hb hby d4_90) rfl) ?_
        show Go _ p e below s _ _ _ (T199.setTop (mkF m 92 #[.val (.ref a1), .val (.int p2), .val (.int p3), .val (.int p4), .val (.int p5), .val (.int (p2 &&& (3 : Int32))), .val (.int ((p2 >>> ((2 : Int32) &&& 31)).toInt8.toInt32)), .val (.int (10 : Int32)), .val (.int (13 : Int32)), .val (.int (13 : Int32)), .val (.int ((p2 >>> ((2 : Int32) &&& 31)).toInt8.toInt32)), .val (.int (10 : Int32)), .val (.int (3 : Int32)), .unset, .unset, .unset, .unset] [(.int (10 : Int32)), (.int (0 : Int32)), (.ref b199), (.ref b199)]))
        obtain ⟨cl200, Ar200, q200, Sz200, Nz200, Hs200, Gs200⟩ := id V199
        have hin200 : ¬ ((0 : Int32) < 0 ∨ cl200.slots.size ≤ ((0 : Int32)).toNatClampNeg) := inb_of Sz200 ⟨by decide, by decide⟩
        obtain ⟨T200, h200, X200, e200, W200, st200⟩ := stB X199 hx hZ e199 Ar200 (j := (0 : Int32)) hin200 (g := (mkF m 92 #[.val (.ref a1), .val (.int p2), .val (.int p3), .val (.int p4), .val (.int p5), .val (.int (p2 &&& (3 : Int32))), .val (.int ((p2 >>> ((2 : Int32) &&& 31)).toInt8.toInt32)), .val (.int (10 : Int32)), .val (.int (13 : Int32)), .val (.int (13 : Int32)), .val (.int ((p2 >>> ((2 : Int32) &&& 31)).toInt8.toInt32)), .val (.int (10 : Int32)), .val (.int (3 : Int32)), .unset, .unset, .unset, .unset] [(.int (10 : Int32)), (.int (0 : Int32)), (.ref b199), (.ref b199)])) rfl rfl (hb hby d4_92)
        have V200 := Arv.set Ar200 q200 Sz200 Nz200 Hs200 Gs200 (fits_nar_byte _) W200 0 rfl (Nat.le_of_ble_eq_true rfl)
        have VV200 : Arv Z h200 b199 k199 .byte (5 : Int32) [(.int (nar .byte (10 : Int32))), (.int (0 : Int32)), (.int (0 : Int32)), (.int (0 : Int32)), (.int (0 : Int32))] (.int (0 : Int32)) := V200
        have c200_0 := c199_0.wr W200
        have c200_1 := c199_1.other W200 (Or.inl (Nat.ne_of_lt lt199_a1_b199))
        have c200_2 := c199_2.other W200 (Or.inl (Nat.ne_of_lt lt199_a1_b199))
        have c200_3 := c199_3.other W200 (Or.inl (Nat.ne_of_lt lt199_a1_b199))
        have c200_4 := c199_4.other W200 (Or.inl (Nat.ne_of_lt lt199_a1_b199))
        have c200_5 := c199_5.other W200 (Or.inl (Nat.ne_of_lt lt199_a1_b199))
        have c200_6 := AE199.wr W200
        have KK200 : Keep h0 h200 [a1] := KK199.wr W200 (Or.inr SZ_b199)
        have ZN200 : n0 ≤ h200.size := Nat.le_trans ZN199 (Keep.of_wr W200).1
        have NN200 := Fr.snoc X200 N0 G_b199
        refine go st200 ?_
        show Go _ p e below s _ _ _ (T200.setTop (mkF m 93 #[.val (.ref a1), .val (.int p2), .val (.int p3), .val (.int p4), .val (.int p5), .val (.int (p2 &&& (3 : Int32))), .val (.int ((p2 >>> ((2 : Int32) &&& 31)).toInt8.toInt32)), .val (.int (10 : Int32)), .val (.int (13 : Int32)), .val (.int (13 : Int32)), .val (.int ((p2 >>> ((2 : Int32) &&& 31)).toInt8.toInt32)), .val (.int (10 : Int32)), .val (.int (3 : Int32)), .unset, .unset, .unset, .unset] [(.ref b199)]))
        refine go (fun _ => XS.dup X200.here hx rfl (hb hby d4_93) rfl rfl) ?_
        show Go _ p e below s _ _ _ (T200.setTop (mkF m 94 #[.val (.ref a1), .val (.int p2), .val (.int p3), .val (.int p4), .val (.int p5), .val (.int (p2 &&& (3 : Int32))), .val (.int ((p2 >>> ((2 : Int32) &&& 31)).toInt8.toInt32)), .val (.int (10 : Int32)), .val (.int (13 : Int32)), .val (.int (13 : Int32)), .val (.int ((p2 >>> ((2 : Int32) &&& 31)).toInt8.toInt32)), .val (.int (10 : Int32)), .val (.int (3 : Int32)), .unset, .unset, .unset, .unset] [(.ref b199), (.ref b199)]))
        refine go (fun _ => XS.iconst X200.here hx rfl (hb hby d4_94)) ?_
        show Go _ p e below s _ _ _ (T200.setTop (mkF m 95 #[.val (.ref a1), .val (.int p2), .val (.int p3), .val (.int p4), .val (.int p5), .val (.int (p2 &&& (3 : Int32))), .val (.int ((p2 >>> ((2 : Int32) &&& 31)).toInt8.toInt32)), .val (.int (10 : Int32)), .val (.int (13 : Int32)), .val (.int (13 : Int32)), .val (.int ((p2 >>> ((2 : Int32) &&& 31)).toInt8.toInt32)), .val (.int (10 : Int32)), .val (.int (3 : Int32)), .unset, .unset, .unset, .unset] [(.int (1 : Int32)), (.ref b199), (.ref b199)]))
        refine go (fun _ => XS.iload X200.here hx rfl (hb hby d4_95) rfl) ?_
        show Go _ p e below s _ _ _ (T200.setTop (mkF m 97 #[.val (.ref a1), .val (.int p2), .val (.int p3), .val (.int p4), .val (.int p5), .val (.int (p2 &&& (3 : Int32))), .val (.int ((p2 >>> ((2 : Int32) &&& 31)).toInt8.toInt32)), .val (.int (10 : Int32)), .val (.int (13 : Int32)), .val (.int (13 : Int32)), .val (.int ((p2 >>> ((2 : Int32) &&& 31)).toInt8.toInt32)), .val (.int (10 : Int32)), .val (.int (3 : Int32)), .unset, .unset, .unset, .unset] [(.int (13 : Int32)), (.int (1 : Int32)), (.ref b199), (.ref b199)]))
        obtain ⟨cl201, Ar201, q201, Sz201, Nz201, Hs201, Gs201⟩ := id VV200
        have hin201 : ¬ ((1 : Int32) < 0 ∨ cl201.slots.size ≤ ((1 : Int32)).toNatClampNeg) := inb_of Sz201 ⟨by decide, by decide⟩
        obtain ⟨T201, h201, X201, e201, W201, st201⟩ := stB X200 hx hZ e200 Ar201 (j := (1 : Int32)) hin201 (g := (mkF m 97 #[.val (.ref a1), .val (.int p2), .val (.int p3), .val (.int p4), .val (.int p5), .val (.int (p2 &&& (3 : Int32))), .val (.int ((p2 >>> ((2 : Int32) &&& 31)).toInt8.toInt32)), .val (.int (10 : Int32)), .val (.int (13 : Int32)), .val (.int (13 : Int32)), .val (.int ((p2 >>> ((2 : Int32) &&& 31)).toInt8.toInt32)), .val (.int (10 : Int32)), .val (.int (3 : Int32)), .unset, .unset, .unset, .unset] [(.int (13 : Int32)), (.int (1 : Int32)), (.ref b199), (.ref b199)])) rfl rfl (hb hby d4_97)
        have V201 := Arv.set Ar201 q201 Sz201 Nz201 Hs201 Gs201 (fits_nar_byte _) W201 1 rfl (Nat.le_of_ble_eq_true rfl)
        have VV201 : Arv Z h201 b199 k199 .byte (5 : Int32) [(.int (nar .byte (10 : Int32))), (.int (nar .byte (13 : Int32))), (.int (0 : Int32)), (.int (0 : Int32)), (.int (0 : Int32))] (.int (0 : Int32)) := V201
        have c201_0 := c200_0.wr W201
        have c201_1 := c200_1.other W201 (Or.inl (Nat.ne_of_lt lt199_a1_b199))
        have c201_2 := c200_2.other W201 (Or.inl (Nat.ne_of_lt lt199_a1_b199))
        have c201_3 := c200_3.other W201 (Or.inl (Nat.ne_of_lt lt199_a1_b199))
        have c201_4 := c200_4.other W201 (Or.inl (Nat.ne_of_lt lt199_a1_b199))
        have c201_5 := c200_5.other W201 (Or.inl (Nat.ne_of_lt lt199_a1_b199))
        have c201_6 := c200_6.wr W201
        have KK201 : Keep h0 h201 [a1] := KK200.wr W201 (Or.inr SZ_b199)
        have ZN201 : n0 ≤ h201.size := Nat.le_trans ZN200 (Keep.of_wr W201).1
        have NN201 := Fr.snoc X201 NN200 G_b199
        refine go st201 ?_
        show Go _ p e below s _ _ _ (T201.setTop (mkF m 98 #[.val (.ref a1), .val (.int p2), .val (.int p3), .val (.int p4), .val (.int p5), .val (.int (p2 &&& (3 : Int32))), .val (.int ((p2 >>> ((2 : Int32) &&& 31)).toInt8.toInt32)), .val (.int (10 : Int32)), .val (.int (13 : Int32)), .val (.int (13 : Int32)), .val (.int ((p2 >>> ((2 : Int32) &&& 31)).toInt8.toInt32)), .val (.int (10 : Int32)), .val (.int (3 : Int32)), .unset, .unset, .unset, .unset] [(.ref b199)]))
        refine go (fun _ => XS.dup X201.here hx rfl (hb hby d4_98) rfl rfl) ?_
        show Go _ p e below s _ _ _ (T201.setTop (mkF m 99 #[.val (.ref a1), .val (.int p2), .val (.int p3), .val (.int p4), .val (.int p5), .val (.int (p2 &&& (3 : Int32))), .val (.int ((p2 >>> ((2 : Int32) &&& 31)).toInt8.toInt32)), .val (.int (10 : Int32)), .val (.int (13 : Int32)), .val (.int (13 : Int32)), .val (.int ((p2 >>> ((2 : Int32) &&& 31)).toInt8.toInt32)), .val (.int (10 : Int32)), .val (.int (3 : Int32)), .unset, .unset, .unset, .unset] [(.ref b199), (.ref b199)]))
        refine go (fun _ => XS.iconst X201.here hx rfl (hb hby d4_99)) ?_
        show Go _ p e below s _ _ _ (T201.setTop (mkF m 100 #[.val (.ref a1), .val (.int p2), .val (.int p3), .val (.int p4), .val (.int p5), .val (.int (p2 &&& (3 : Int32))), .val (.int ((p2 >>> ((2 : Int32) &&& 31)).toInt8.toInt32)), .val (.int (10 : Int32)), .val (.int (13 : Int32)), .val (.int (13 : Int32)), .val (.int ((p2 >>> ((2 : Int32) &&& 31)).toInt8.toInt32)), .val (.int (10 : Int32)), .val (.int (3 : Int32)), .unset, .unset, .unset, .unset] [(.int (2 : Int32)), (.ref b199), (.ref b199)]))
        refine go (fun _ => XS.iload X201.here hx rfl (hb hby d4_100) rfl) ?_
        show Go _ p e below s _ _ _ (T201.setTop (mkF m 102 #[.val (.ref a1), .val (.int p2), .val (.int p3), .val (.int p4), .val (.int p5), .val (.int (p2 &&& (3 : Int32))), .val (.int ((p2 >>> ((2 : Int32) &&& 31)).toInt8.toInt32)), .val (.int (10 : Int32)), .val (.int (13 : Int32)), .val (.int (13 : Int32)), .val (.int ((p2 >>> ((2 : Int32) &&& 31)).toInt8.toInt32)), .val (.int (10 : Int32)), .val (.int (3 : Int32)), .unset, .unset, .unset, .unset] [(.int ((p2 >>> ((2 : Int32) &&& 31)).toInt8.toInt32)), (.int (2 : Int32)), (.ref b199), (.ref b199)]))
        obtain ⟨cl202, Ar202, q202, Sz202, Nz202, Hs202, Gs202⟩ := id VV201
        have hin202 : ¬ ((2 : Int32) < 0 ∨ cl202.slots.size ≤ ((2 : Int32)).toNatClampNeg) := inb_of Sz202 ⟨by decide, by decide⟩
        obtain ⟨T202, h202, X202, e202, W202, st202⟩ := stB X201 hx hZ e201 Ar202 (j := (2 : Int32)) hin202 (g := (mkF m 102 #[.val (.ref a1), .val (.int p2), .val (.int p3), .val (.int p4), .val (.int p5), .val (.int (p2 &&& (3 : Int32))), .val (.int ((p2 >>> ((2 : Int32) &&& 31)).toInt8.toInt32)), .val (.int (10 : Int32)), .val (.int (13 : Int32)), .val (.int (13 : Int32)), .val (.int ((p2 >>> ((2 : Int32) &&& 31)).toInt8.toInt32)), .val (.int (10 : Int32)), .val (.int (3 : Int32)), .unset, .unset, .unset, .unset] [(.int ((p2 >>> ((2 : Int32) &&& 31)).toInt8.toInt32)), (.int (2 : Int32)), (.ref b199), (.ref b199)])) rfl rfl (hb hby d4_102)
        have V202 := Arv.set Ar202 q202 Sz202 Nz202 Hs202 Gs202 (fits_nar_byte _) W202 2 rfl (Nat.le_of_ble_eq_true rfl)
        have VV202 : Arv Z h202 b199 k199 .byte (5 : Int32) [(.int (nar .byte (10 : Int32))), (.int (nar .byte (13 : Int32))), (.int (nar .byte ((p2 >>> ((2 : Int32) &&& 31)).toInt8.toInt32))), (.int (0 : Int32)), (.int (0 : Int32))] (.int (0 : Int32)) := V202
        have c202_0 := c201_0.wr W202
        have c202_1 := c201_1.other W202 (Or.inl (Nat.ne_of_lt lt199_a1_b199))
        have c202_2 := c201_2.other W202 (Or.inl (Nat.ne_of_lt lt199_a1_b199))
        have c202_3 := c201_3.other W202 (Or.inl (Nat.ne_of_lt lt199_a1_b199))
        have c202_4 := c201_4.other W202 (Or.inl (Nat.ne_of_lt lt199_a1_b199))
        have c202_5 := c201_5.other W202 (Or.inl (Nat.ne_of_lt lt199_a1_b199))
        have c202_6 := c201_6.wr W202
        have KK202 : Keep h0 h202 [a1] := KK201.wr W202 (Or.inr SZ_b199)
        have ZN202 : n0 ≤ h202.size := Nat.le_trans ZN201 (Keep.of_wr W202).1
        have NN202 := Fr.snoc X202 NN201 G_b199
        refine go st202 ?_
        show Go _ p e below s _ _ _ (T202.setTop (mkF m 103 #[.val (.ref a1), .val (.int p2), .val (.int p3), .val (.int p4), .val (.int p5), .val (.int (p2 &&& (3 : Int32))), .val (.int ((p2 >>> ((2 : Int32) &&& 31)).toInt8.toInt32)), .val (.int (10 : Int32)), .val (.int (13 : Int32)), .val (.int (13 : Int32)), .val (.int ((p2 >>> ((2 : Int32) &&& 31)).toInt8.toInt32)), .val (.int (10 : Int32)), .val (.int (3 : Int32)), .unset, .unset, .unset, .unset] [(.ref b199)]))
        refine go (fun _ => XS.dup X202.here hx rfl (hb hby d4_103) rfl rfl) ?_
        show Go _ p e below s _ _ _ (T202.setTop (mkF m 104 #[.val (.ref a1), .val (.int p2), .val (.int p3), .val (.int p4), .val (.int p5), .val (.int (p2 &&& (3 : Int32))), .val (.int ((p2 >>> ((2 : Int32) &&& 31)).toInt8.toInt32)), .val (.int (10 : Int32)), .val (.int (13 : Int32)), .val (.int (13 : Int32)), .val (.int ((p2 >>> ((2 : Int32) &&& 31)).toInt8.toInt32)), .val (.int (10 : Int32)), .val (.int (3 : Int32)), .unset, .unset, .unset, .unset] [(.ref b199), (.ref b199)]))
        refine go (fun _ => XS.iconst X202.here hx rfl (hb hby d4_104)) ?_
        show Go _ p e below s _ _ _ (T202.setTop (mkF m 105 #[.val (.ref a1), .val (.int p2), .val (.int p3), .val (.int p4), .val (.int p5), .val (.int (p2 &&& (3 : Int32))), .val (.int ((p2 >>> ((2 : Int32) &&& 31)).toInt8.toInt32)), .val (.int (10 : Int32)), .val (.int (13 : Int32)), .val (.int (13 : Int32)), .val (.int ((p2 >>> ((2 : Int32) &&& 31)).toInt8.toInt32)), .val (.int (10 : Int32)), .val (.int (3 : Int32)), .unset, .unset, .unset, .unset] [(.int (3 : Int32)), (.ref b199), (.ref b199)]))
        refine go (fun _ => XS.iload X202.here hx rfl (hb hby d4_105) rfl) ?_
        show Go _ p e below s _ _ _ (T202.setTop (mkF m 107 #[.val (.ref a1), .val (.int p2), .val (.int p3), .val (.int p4), .val (.int p5), .val (.int (p2 &&& (3 : Int32))), .val (.int ((p2 >>> ((2 : Int32) &&& 31)).toInt8.toInt32)), .val (.int (10 : Int32)), .val (.int (13 : Int32)), .val (.int (13 : Int32)), .val (.int ((p2 >>> ((2 : Int32) &&& 31)).toInt8.toInt32)), .val (.int (10 : Int32)), .val (.int (3 : Int32)), .unset, .unset, .unset, .unset] [(.int (10 : Int32)), (.int (3 : Int32)), (.ref b199), (.ref b199)]))
        obtain ⟨cl203, Ar203, q203, Sz203, Nz203, Hs203, Gs203⟩ := id VV202
        have hin203 : ¬ ((3 : Int32) < 0 ∨ cl203.slots.size ≤ ((3 : Int32)).toNatClampNeg) := inb_of Sz203 ⟨by decide, by decide⟩
        obtain ⟨T203, h203, X203, e203, W203, st203⟩ := stB X202 hx hZ e202 Ar203 (j := (3 : Int32)) hin203 (g := (mkF m 107 #[.val (.ref a1), .val (.int p2), .val (.int p3), .val (.int p4), .val (.int p5), .val (.int (p2 &&& (3 : Int32))), .val (.int ((p2 >>> ((2 : Int32) &&& 31)).toInt8.toInt32)), .val (.int (10 : Int32)), .val (.int (13 : Int32)), .val (.int (13 : Int32)), .val (.int ((p2 >>> ((2 : Int32) &&& 31)).toInt8.toInt32)), .val (.int (10 : Int32)), .val (.int (3 : Int32)), .unset, .unset, .unset, .unset] [(.int (10 : Int32)), (.int (3 : Int32)), (.ref b199), (.ref b199)])) rfl rfl (hb hby d4_107)
        have V203 := Arv.set Ar203 q203 Sz203 Nz203 Hs203 Gs203 (fits_nar_byte _) W203 3 rfl (Nat.le_of_ble_eq_true rfl)
        have VV203 : Arv Z h203 b199 k199 .byte (5 : Int32) [(.int (nar .byte (10 : Int32))), (.int (nar .byte (13 : Int32))), (.int (nar .byte ((p2 >>> ((2 : Int32) &&& 31)).toInt8.toInt32))), (.int (nar .byte (10 : Int32))), (.int (0 : Int32))] (.int (0 : Int32)) := V203
        have c203_0 := c202_0.wr W203
        have c203_1 := c202_1.other W203 (Or.inl (Nat.ne_of_lt lt199_a1_b199))
        have c203_2 := c202_2.other W203 (Or.inl (Nat.ne_of_lt lt199_a1_b199))
        have c203_3 := c202_3.other W203 (Or.inl (Nat.ne_of_lt lt199_a1_b199))
        have c203_4 := c202_4.other W203 (Or.inl (Nat.ne_of_lt lt199_a1_b199))
        have c203_5 := c202_5.other W203 (Or.inl (Nat.ne_of_lt lt199_a1_b199))
        have c203_6 := c202_6.wr W203
        have KK203 : Keep h0 h203 [a1] := KK202.wr W203 (Or.inr SZ_b199)
        have ZN203 : n0 ≤ h203.size := Nat.le_trans ZN202 (Keep.of_wr W203).1
        have NN203 := Fr.snoc X203 NN202 G_b199
        refine go st203 ?_
        show Go _ p e below s _ _ _ (T203.setTop (mkF m 108 #[.val (.ref a1), .val (.int p2), .val (.int p3), .val (.int p4), .val (.int p5), .val (.int (p2 &&& (3 : Int32))), .val (.int ((p2 >>> ((2 : Int32) &&& 31)).toInt8.toInt32)), .val (.int (10 : Int32)), .val (.int (13 : Int32)), .val (.int (13 : Int32)), .val (.int ((p2 >>> ((2 : Int32) &&& 31)).toInt8.toInt32)), .val (.int (10 : Int32)), .val (.int (3 : Int32)), .unset, .unset, .unset, .unset] [(.ref b199)]))
        refine go (fun _ => XS.dup X203.here hx rfl (hb hby d4_108) rfl rfl) ?_
        show Go _ p e below s _ _ _ (T203.setTop (mkF m 109 #[.val (.ref a1), .val (.int p2), .val (.int p3), .val (.int p4), .val (.int p5), .val (.int (p2 &&& (3 : Int32))), .val (.int ((p2 >>> ((2 : Int32) &&& 31)).toInt8.toInt32)), .val (.int (10 : Int32)), .val (.int (13 : Int32)), .val (.int (13 : Int32)), .val (.int ((p2 >>> ((2 : Int32) &&& 31)).toInt8.toInt32)), .val (.int (10 : Int32)), .val (.int (3 : Int32)), .unset, .unset, .unset, .unset] [(.ref b199), (.ref b199)]))
        refine go (fun _ => XS.iconst X203.here hx rfl (hb hby d4_109)) ?_
        show Go _ p e below s _ _ _ (T203.setTop (mkF m 110 #[.val (.ref a1), .val (.int p2), .val (.int p3), .val (.int p4), .val (.int p5), .val (.int (p2 &&& (3 : Int32))), .val (.int ((p2 >>> ((2 : Int32) &&& 31)).toInt8.toInt32)), .val (.int (10 : Int32)), .val (.int (13 : Int32)), .val (.int (13 : Int32)), .val (.int ((p2 >>> ((2 : Int32) &&& 31)).toInt8.toInt32)), .val (.int (10 : Int32)), .val (.int (3 : Int32)), .unset, .unset, .unset, .unset] [(.int (4 : Int32)), (.ref b199), (.ref b199)]))
        refine go (fun _ => XS.iload X203.here hx rfl (hb hby d4_110) rfl) ?_
        show Go _ p e below s _ _ _ (T203.setTop (mkF m 112 #[.val (.ref a1), .val (.int p2), .val (.int p3), .val (.int p4), .val (.int p5), .val (.int (p2 &&& (3 : Int32))), .val (.int ((p2 >>> ((2 : Int32) &&& 31)).toInt8.toInt32)), .val (.int (10 : Int32)), .val (.int (13 : Int32)), .val (.int (13 : Int32)), .val (.int ((p2 >>> ((2 : Int32) &&& 31)).toInt8.toInt32)), .val (.int (10 : Int32)), .val (.int (3 : Int32)), .unset, .unset, .unset, .unset] [(.int (10 : Int32)), (.int (4 : Int32)), (.ref b199), (.ref b199)]))
        obtain ⟨cl204, Ar204, q204, Sz204, Nz204, Hs204, Gs204⟩ := id VV203
        have hin204 : ¬ ((4 : Int32) < 0 ∨ cl204.slots.size ≤ ((4 : Int32)).toNatClampNeg) := inb_of Sz204 ⟨by decide, by decide⟩
        obtain ⟨T204, h204, X204, e204, W204, st204⟩ := stB X203 hx hZ e203 Ar204 (j := (4 : Int32)) hin204 (g := (mkF m 112 #[.val (.ref a1), .val (.int p2), .val (.int p3), .val (.int p4), .val (.int p5), .val (.int (p2 &&& (3 : Int32))), .val (.int ((p2 >>> ((2 : Int32) &&& 31)).toInt8.toInt32)), .val (.int (10 : Int32)), .val (.int (13 : Int32)), .val (.int (13 : Int32)), .val (.int ((p2 >>> ((2 : Int32) &&& 31)).toInt8.toInt32)), .val (.int (10 : Int32)), .val (.int (3 : Int32)), .unset, .unset, .unset, .unset] [(.int (10 : Int32)), (.int (4 : Int32)), (.ref b199), (.ref b199)])) rfl rfl (hb hby d4_112)
        have V204 := Arv.set Ar204 q204 Sz204 Nz204 Hs204 Gs204 (fits_nar_byte _) W204 4 rfl (Nat.le_of_ble_eq_true rfl)
        have VV204 : Arv Z h204 b199 k199 .byte (5 : Int32) [(.int (nar .byte (10 : Int32))), (.int (nar .byte (13 : Int32))), (.int (nar .byte ((p2 >>> ((2 : Int32) &&& 31)).toInt8.toInt32))), (.int (nar .byte (10 : Int32))), (.int (nar .byte (10 : Int32)))] (.int (0 : Int32)) := V204
        have c204_0 := c203_0.wr W204
        have c204_1 := c203_1.other W204 (Or.inl (Nat.ne_of_lt lt199_a1_b199))
        have c204_2 := c203_2.other W204 (Or.inl (Nat.ne_of_lt lt199_a1_b199))
        have c204_3 := c203_3.other W204 (Or.inl (Nat.ne_of_lt lt199_a1_b199))
        have c204_4 := c203_4.other W204 (Or.inl (Nat.ne_of_lt lt199_a1_b199))
        have c204_5 := c203_5.other W204 (Or.inl (Nat.ne_of_lt lt199_a1_b199))
        have c204_6 := c203_6.wr W204
        have KK204 : Keep h0 h204 [a1] := KK203.wr W204 (Or.inr SZ_b199)
        have ZN204 : n0 ≤ h204.size := Nat.le_trans ZN203 (Keep.of_wr W204).1
        have NN204 := Fr.snoc X204 NN203 G_b199
        refine go st204 ?_
        show Go _ p e below s _ _ _ (T204.setTop (mkF m 113 #[.val (.ref a1), .val (.int p2), .val (.int p3), .val (.int p4), .val (.int p5), .val (.int (p2 &&& (3 : Int32))), .val (.int ((p2 >>> ((2 : Int32) &&& 31)).toInt8.toInt32)), .val (.int (10 : Int32)), .val (.int (13 : Int32)), .val (.int (13 : Int32)), .val (.int ((p2 >>> ((2 : Int32) &&& 31)).toInt8.toInt32)), .val (.int (10 : Int32)), .val (.int (3 : Int32)), .unset, .unset, .unset, .unset] [(.ref b199)]))
        refine go (fun _ => XS.astore X204.here hx rfl (hb hby d4_113) rfl rfl (l' := #[.val (.ref a1), .val (.int p2), .val (.int p3), .val (.int p4), .val (.int p5), .val (.int (p2 &&& (3 : Int32))), .val (.int ((p2 >>> ((2 : Int32) &&& 31)).toInt8.toInt32)), .val (.int (10 : Int32)), .val (.int (13 : Int32)), .val (.int (13 : Int32)), .val (.int ((p2 >>> ((2 : Int32) &&& 31)).toInt8.toInt32)), .val (.int (10 : Int32)), .val (.int (3 : Int32)), .val (.ref b199), .unset, .unset, .unset]) rfl) ?_
        show Go _ p e below s _ _ _ (T204.setTop (mkF m 115 #[.val (.ref a1), .val (.int p2), .val (.int p3), .val (.int p4), .val (.int p5), .val (.int (p2 &&& (3 : Int32))), .val (.int ((p2 >>> ((2 : Int32) &&& 31)).toInt8.toInt32)), .val (.int (10 : Int32)), .val (.int (13 : Int32)), .val (.int (13 : Int32)), .val (.int ((p2 >>> ((2 : Int32) &&& 31)).toInt8.toInt32)), .val (.int (10 : Int32)), .val (.int (3 : Int32)), .val (.ref b199), .unset, .unset, .unset] []))
        refine go (fun _ => XS.iloadN X204.here hx rfl (hb hby d4_115) rfl) ?_
        show Go _ p e below s _ _ _ (T204.setTop (mkF m 116 #[.val (.ref a1), .val (.int p2), .val (.int p3), .val (.int p4), .val (.int p5), .val (.int (p2 &&& (3 : Int32))), .val (.int ((p2 >>> ((2 : Int32) &&& 31)).toInt8.toInt32)), .val (.int (10 : Int32)), .val (.int (13 : Int32)), .val (.int (13 : Int32)), .val (.int ((p2 >>> ((2 : Int32) &&& 31)).toInt8.toInt32)), .val (.int (10 : Int32)), .val (.int (3 : Int32)), .val (.ref b199), .unset, .unset, .unset] [(.int p3)]))
        refine go (fun _ => XS.iload X204.here hx rfl (hb hby d4_116) rfl) ?_
        show Go _ p e below s _ _ _ (T204.setTop (mkF m 118 #[.val (.ref a1), .val (.int p2), .val (.int p3), .val (.int p4), .val (.int p5), .val (.int (p2 &&& (3 : Int32))), .val (.int ((p2 >>> ((2 : Int32) &&& 31)).toInt8.toInt32)), .val (.int (10 : Int32)), .val (.int (13 : Int32)), .val (.int (13 : Int32)), .val (.int ((p2 >>> ((2 : Int32) &&& 31)).toInt8.toInt32)), .val (.int (10 : Int32)), .val (.int (3 : Int32)), .val (.ref b199), .unset, .unset, .unset] [(.int (3 : Int32)), (.int p3)]))
        obtain ⟨_, _, ⟨T205, L205, k205, n205⟩, -, X205, ⟨Lc205, hQ205, l205, y205, z205⟩, st205⟩ := Jvm.LawKit.callS X204 hx (y := (⟨"java/lang/Math", "min", "(II)I"⟩ : MethodName)) hown (mvT hZ (hw _ (List.mem_of_getElem? (i := 17) rfl))) (mvT hZ (hw _ (List.mem_of_getElem? (i := 18) rfl))) (mvT hZ (hw _ (List.mem_of_getElem? (i := 19) rfl))) (mvT hZ (hw _ (List.mem_of_getElem? (i := 20) rfl))) (by decide) (backOf (W := 0) (rm5 l Z a0 hw [] p3 (3 : Int32) h204 n0 ZN204 ) hZ (hw _ (List.mem_of_getElem? (i := 20) rfl)) (hw _ (List.mem_of_getElem? (i := 19) rfl)) (by decide) (by decide)) (g := (mkF m 118 #[.val (.ref a1), .val (.int p2), .val (.int p3), .val (.int p4), .val (.int p5), .val (.int (p2 &&& (3 : Int32))), .val (.int ((p2 >>> ((2 : Int32) &&& 31)).toInt8.toInt32)), .val (.int (10 : Int32)), .val (.int (13 : Int32)), .val (.int (13 : Int32)), .val (.int ((p2 >>> ((2 : Int32) &&& 31)).toInt8.toInt32)), .val (.int (10 : Int32)), .val (.int (3 : Int32)), .val (.ref b199), .unset, .unset, .unset] [(.int (3 : Int32)), (.int p3)])) rfl (by rw [hml]; rfl) (argsL := [(.int p3), (.int (3 : Int32))]) (rest := []) (lenOf pd_4_0 rfl) rfl (by show 2 * 0 + _ ≤ _; exact Nat.le_of_eq rfl) (hb hby d4_118) (fun _ _ => ⟨rfl, e204, (by decide : 1 + 0 ≤ _), (by decide : 5 + 0 ≤ _)⟩)
        dsimp only [Pt.U, Pt.locs, Pt.cells, Pt.slots] at X205 l205 y205 z205 st205 hQ205
        subst l205 y205 z205
        obtain ⟨rfl, N205q, e205⟩ := hQ205
        have N205 := Fr.app NN204 N205q
        refine go st205 ?_
        show Go _ p e below s _ _ _ (T205.setTop (mkF m 121 #[.val (.ref a1), .val (.int p2), .val (.int p3), .val (.int p4), .val (.int p5), .val (.int (p2 &&& (3 : Int32))), .val (.int ((p2 >>> ((2 : Int32) &&& 31)).toInt8.toInt32)), .val (.int (10 : Int32)), .val (.int (13 : Int32)), .val (.int (13 : Int32)), .val (.int ((p2 >>> ((2 : Int32) &&& 31)).toInt8.toInt32)), .val (.int (10 : Int32)), .val (.int (3 : Int32)), .val (.ref b199), .unset, .unset, .unset] [(.int (own_min p3 (3 : Int32)))]))
        refine go (fun _ => XS.istore X205.here hx rfl (hb hby d4_121) rfl (l' := #[.val (.ref a1), .val (.int p2), .val (.int p3), .val (.int p4), .val (.int p5), .val (.int (p2 &&& (3 : Int32))), .val (.int ((p2 >>> ((2 : Int32) &&& 31)).toInt8.toInt32)), .val (.int (10 : Int32)), .val (.int (13 : Int32)), .val (.int (13 : Int32)), .val (.int ((p2 >>> ((2 : Int32) &&& 31)).toInt8.toInt32)), .val (.int (10 : Int32)), .val (.int (3 : Int32)), .val (.ref b199), .val (.int (own_min p3 (3 : Int32))), .unset, .unset]) rfl) ?_
        show Go _ p e below s _ _ _ (T205.setTop (mkF m 123 #[.val (.ref a1), .val (.int p2), .val (.int p3), .val (.int p4), .val (.int p5), .val (.int (p2 &&& (3 : Int32))), .val (.int ((p2 >>> ((2 : Int32) &&& 31)).toInt8.toInt32)), .val (.int (10 : Int32)), .val (.int (13 : Int32)), .val (.int (13 : Int32)), .val (.int ((p2 >>> ((2 : Int32) &&& 31)).toInt8.toInt32)), .val (.int (10 : Int32)), .val (.int (3 : Int32)), .val (.ref b199), .val (.int (own_min p3 (3 : Int32))), .unset, .unset] []))
        obtain ⟨spl, hs, hsl⟩ := own_minN hsp (show ((3 : Int32)).toInt = ((3 : Nat) : Int) from by decide)
        generalize own_min p3 (3 : Int32) = sv at hs ⊢
        show Go _ p e below s _ _ _ (T205.setTop (mkF m 123 #[.val (.ref a1), .val (.int p2), .val (.int p3), .val (.int p4), .val (.int p5), .val (.int (p2 &&& (3 : Int32))), .val (.int ((p2 >>> ((2 : Int32) &&& 31)).toInt8.toInt32)), .val (.int (10 : Int32)), .val (.int (13 : Int32)), .val (.int (13 : Int32)), .val (.int ((p2 >>> ((2 : Int32) &&& 31)).toInt8.toInt32)), .val (.int (10 : Int32)), .val (.int (3 : Int32)), .val (.ref b199), .val (.int sv), .unset, .unset] []))
        refine go (fun _ => XS.aloadN X205.here hx rfl (hb hby d4_123) rfl rfl) ?_
        show Go _ p e below s _ _ _ (T205.setTop (mkF m 124 #[.val (.ref a1), .val (.int p2), .val (.int p3), .val (.int p4), .val (.int p5), .val (.int (p2 &&& (3 : Int32))), .val (.int ((p2 >>> ((2 : Int32) &&& 31)).toInt8.toInt32)), .val (.int (10 : Int32)), .val (.int (13 : Int32)), .val (.int (13 : Int32)), .val (.int ((p2 >>> ((2 : Int32) &&& 31)).toInt8.toInt32)), .val (.int (10 : Int32)), .val (.int (3 : Int32)), .val (.ref b199), .val (.int sv), .unset, .unset] [(.ref a1)]))
        refine go (fun _ => XS.aload X205.here hx rfl (hb hby d4_124) rfl rfl) ?_
        show Go _ p e below s _ _ _ (T205.setTop (mkF m 126 #[.val (.ref a1), .val (.int p2), .val (.int p3), .val (.int p4), .val (.int p5), .val (.int (p2 &&& (3 : Int32))), .val (.int ((p2 >>> ((2 : Int32) &&& 31)).toInt8.toInt32)), .val (.int (10 : Int32)), .val (.int (13 : Int32)), .val (.int (13 : Int32)), .val (.int ((p2 >>> ((2 : Int32) &&& 31)).toInt8.toInt32)), .val (.int (10 : Int32)), .val (.int (3 : Int32)), .val (.ref b199), .val (.int sv), .unset, .unset] [(.ref b199), (.ref a1)]))
        refine go (fun _ => XS.iconst X205.here hx rfl (hb hby d4_126)) ?_
        show Go _ p e below s _ _ _ (T205.setTop (mkF m 127 #[.val (.ref a1), .val (.int p2), .val (.int p3), .val (.int p4), .val (.int p5), .val (.int (p2 &&& (3 : Int32))), .val (.int ((p2 >>> ((2 : Int32) &&& 31)).toInt8.toInt32)), .val (.int (10 : Int32)), .val (.int (13 : Int32)), .val (.int (13 : Int32)), .val (.int ((p2 >>> ((2 : Int32) &&& 31)).toInt8.toInt32)), .val (.int (10 : Int32)), .val (.int (3 : Int32)), .val (.ref b199), .val (.int sv), .unset, .unset] [(.int (1 : Int32)), (.ref b199), (.ref a1)]))
        refine go (fun _ => XS.iconst X205.here hx rfl (hb hby d4_127)) ?_
        show Go _ p e below s _ _ _ (T205.setTop (mkF m 128 #[.val (.ref a1), .val (.int p2), .val (.int p3), .val (.int p4), .val (.int p5), .val (.int (p2 &&& (3 : Int32))), .val (.int ((p2 >>> ((2 : Int32) &&& 31)).toInt8.toInt32)), .val (.int (10 : Int32)), .val (.int (13 : Int32)), .val (.int (13 : Int32)), .val (.int ((p2 >>> ((2 : Int32) &&& 31)).toInt8.toInt32)), .val (.int (10 : Int32)), .val (.int (3 : Int32)), .val (.ref b199), .val (.int sv), .unset, .unset] [(.int (1 : Int32)), (.int (1 : Int32)), (.ref b199), (.ref a1)]))
        refine go (fun _ => XS.iload X205.here hx rfl (hb hby d4_128) rfl) ?_
        show Go _ p e below s _ _ _ (T205.setTop (mkF m 130 #[.val (.ref a1), .val (.int p2), .val (.int p3), .val (.int p4), .val (.int p5), .val (.int (p2 &&& (3 : Int32))), .val (.int ((p2 >>> ((2 : Int32) &&& 31)).toInt8.toInt32)), .val (.int (10 : Int32)), .val (.int (13 : Int32)), .val (.int (13 : Int32)), .val (.int ((p2 >>> ((2 : Int32) &&& 31)).toInt8.toInt32)), .val (.int (10 : Int32)), .val (.int (3 : Int32)), .val (.ref b199), .val (.int sv), .unset, .unset] [(.int sv), (.int (1 : Int32)), (.int (1 : Int32)), (.ref b199), (.ref a1)]))
        refine go (fun _ => XS.iadd X205.here hx rfl (hb hby d4_130) rfl) ?_
        show Go _ p e below s _ _ _ (T205.setTop (mkF m 131 #[.val (.ref a1), .val (.int p2), .val (.int p3), .val (.int p4), .val (.int p5), .val (.int (p2 &&& (3 : Int32))), .val (.int ((p2 >>> ((2 : Int32) &&& 31)).toInt8.toInt32)), .val (.int (10 : Int32)), .val (.int (13 : Int32)), .val (.int (13 : Int32)), .val (.int ((p2 >>> ((2 : Int32) &&& 31)).toInt8.toInt32)), .val (.int (10 : Int32)), .val (.int (3 : Int32)), .val (.ref b199), .val (.int sv), .unset, .unset] [(.int ((1 : Int32) + sv)), (.int (1 : Int32)), (.ref b199), (.ref a1)]))
        obtain ⟨cq206, kq206, q206a, q206b, q206c⟩ := isOf hZ e205 c204_0
        obtain ⟨_, _, ⟨T206, L206, k206, n206⟩, -, X206, ⟨Lc206, hQ206, l206, y206, z206⟩, st206⟩ := X205.virtualBack hx (y := (⟨"com/example/dosisbog/dosisbog/HttpRequest$HeadEnd", "whole", "([BII)Z"⟩ : MethodName)) (z := (⟨"com/example/dosisbog/dosisbog/HttpRequest$HeadEnd", "whole", "([BII)Z"⟩ : MethodName)) hown (mvT hZ (hw _ (List.mem_of_getElem? (i := 21) rfl))) (mvT hZ (hw _ (List.mem_of_getElem? (i := 22) rfl))) (notFace_of_selects (args := #[]) (mvT hZ (hw _ (List.mem_of_getElem? (i := 24) rfl)))) (mvT hZ (hw _ (List.mem_of_getElem? (i := 24) rfl))) (mvT hZ (hw _ (List.mem_of_getElem? (i := 23) rfl))) (by decide) (backOf (W := 0) (rm6 l Z a0 hw [] a1 b199 (1 : Int32) ((1 : Int32) + sv) k199 (5 : Int32) [(.int (nar .byte (10 : Int32))), (.int (nar .byte (13 : Int32))), (.int (nar .byte ((p2 >>> ((2 : Int32) &&& 31)).toInt8.toInt32))), (.int (nar .byte (10 : Int32))), (.int (nar .byte (10 : Int32)))] (.int (0 : Int32)) (fun j => [(nar .byte (10 : Int32)), (nar .byte (13 : Int32)), (nar .byte ((p2 >>> ((2 : Int32) &&& 31)).toInt8.toInt32)), (nar .byte (10 : Int32)), (nar .byte (10 : Int32))].getD j 0) spl 1 x1 x2 x3 x4 x5 h204 n0 ZN204 c204_0 P1 VV204 (Nat.ne_of_lt lt199_a1_b199) c204_1 c204_2 c204_3 c204_4 c204_5 (by decide) (own_1p hs (by omega)) (by have : (5 : Int32).toInt = 5 := (by decide); omega) (own_getD [(nar .byte (10 : Int32)), (nar .byte (13 : Int32)), (nar .byte ((p2 >>> ((2 : Int32) &&& 31)).toInt8.toInt32)), (nar .byte (10 : Int32)), (nar .byte (10 : Int32))])) hZ (hw _ (List.mem_of_getElem? (i := 25) rfl)) (hw _ (List.mem_of_getElem? (i := 2) rfl)) (by decide) (by decide)) q206a q206c (g := (mkF m 131 #[.val (.ref a1), .val (.int p2), .val (.int p3), .val (.int p4), .val (.int p5), .val (.int (p2 &&& (3 : Int32))), .val (.int ((p2 >>> ((2 : Int32) &&& 31)).toInt8.toInt32)), .val (.int (10 : Int32)), .val (.int (13 : Int32)), .val (.int (13 : Int32)), .val (.int ((p2 >>> ((2 : Int32) &&& 31)).toInt8.toInt32)), .val (.int (10 : Int32)), .val (.int (3 : Int32)), .val (.ref b199), .val (.int sv), .unset, .unset] [(.int ((1 : Int32) + sv)), (.int (1 : Int32)), (.ref b199), (.ref a1)])) rfl (by rw [hml]; rfl) (Steps.refl _) (argsL := [(.ref b199), (.int (1 : Int32)), (.int ((1 : Int32) + sv))]) (rest := []) (lenOf pd_4_1 rfl) rfl (by show 2 * 0 + _ ≤ _; exact Nat.le_of_eq rfl) (hb hby d4_131) (fun _ _ => ⟨rfl, e205, (by decide : 1 + 0 ≤ _), (by decide : 5 + 0 ≤ _)⟩)
        dsimp only [Pt.U, Pt.locs, Pt.cells, Pt.slots] at X206 l206 y206 z206 st206 hQ206
        subst l206 y206 z206
        obtain ⟨w1206, w2206, w3206, w4206, w5206, rfl, N206q, K206, u206_1, u206_2, u206_3, u206_4, u206_5, u206_6⟩ := hQ206
        have N206 := Fr.app N205 N206q
        have c206_0 := c204_0.keep K206
        have c206_1 := c204_6.keep K206
        have c206_2 := VV204.keep K206 (ninS (Ne.symm (Nat.ne_of_lt lt199_a1_b199)) nin0)
        have KK206 : Keep h0 T206.heap [a1] := KK204.trans K206 (allS (P := fun x => x ∈ [a1] ∨ h0.size ≤ x) (Or.inl (List.mem_of_getElem? (i := 0) rfl)) all0)
        have ZN206 : n0 ≤ T206.heap.size := Nat.le_trans ZN204 K206.1
        refine goT st206 ?_
        show Go _ p e below s _ _ _ (T206.setTop (mkF m 134 #[.val (.ref a1), .val (.int p2), .val (.int p3), .val (.int p4), .val (.int p5), .val (.int (p2 &&& (3 : Int32))), .val (.int ((p2 >>> ((2 : Int32) &&& 31)).toInt8.toInt32)), .val (.int (10 : Int32)), .val (.int (13 : Int32)), .val (.int (13 : Int32)), .val (.int ((p2 >>> ((2 : Int32) &&& 31)).toInt8.toInt32)), .val (.int (10 : Int32)), .val (.int (3 : Int32)), .val (.ref b199), .val (.int sv), .unset, .unset] [(.int (nar .boolean w5206))]))
        refine go (fun _ => XS.istore X206.here hx rfl (hb hby d4_134) rfl (l' := #[.val (.ref a1), .val (.int p2), .val (.int p3), .val (.int p4), .val (.int p5), .val (.int (p2 &&& (3 : Int32))), .val (.int ((p2 >>> ((2 : Int32) &&& 31)).toInt8.toInt32)), .val (.int (10 : Int32)), .val (.int (13 : Int32)), .val (.int (13 : Int32)), .val (.int ((p2 >>> ((2 : Int32) &&& 31)).toInt8.toInt32)), .val (.int (10 : Int32)), .val (.int (3 : Int32)), .val (.ref b199), .val (.int sv), .val (.int (nar .boolean w5206)), .unset]) rfl) ?_
        show Go _ p e below s _ _ _ (T206.setTop (mkF m 136 #[.val (.ref a1), .val (.int p2), .val (.int p3), .val (.int p4), .val (.int p5), .val (.int (p2 &&& (3 : Int32))), .val (.int ((p2 >>> ((2 : Int32) &&& 31)).toInt8.toInt32)), .val (.int (10 : Int32)), .val (.int (13 : Int32)), .val (.int (13 : Int32)), .val (.int ((p2 >>> ((2 : Int32) &&& 31)).toInt8.toInt32)), .val (.int (10 : Int32)), .val (.int (3 : Int32)), .val (.ref b199), .val (.int sv), .val (.int (nar .boolean w5206)), .unset] []))
        refine go (fun _ => XS.aloadN X206.here hx rfl (hb hby d4_136) rfl rfl) ?_
        show Go _ p e below s _ _ _ (T206.setTop (mkF m 137 #[.val (.ref a1), .val (.int p2), .val (.int p3), .val (.int p4), .val (.int p5), .val (.int (p2 &&& (3 : Int32))), .val (.int ((p2 >>> ((2 : Int32) &&& 31)).toInt8.toInt32)), .val (.int (10 : Int32)), .val (.int (13 : Int32)), .val (.int (13 : Int32)), .val (.int ((p2 >>> ((2 : Int32) &&& 31)).toInt8.toInt32)), .val (.int (10 : Int32)), .val (.int (3 : Int32)), .val (.ref b199), .val (.int sv), .val (.int (nar .boolean w5206)), .unset] [(.ref a1)]))
        refine go (fun _ => XS.aload X206.here hx rfl (hb hby d4_137) rfl rfl) ?_
        show Go _ p e below s _ _ _ (T206.setTop (mkF m 139 #[.val (.ref a1), .val (.int p2), .val (.int p3), .val (.int p4), .val (.int p5), .val (.int (p2 &&& (3 : Int32))), .val (.int ((p2 >>> ((2 : Int32) &&& 31)).toInt8.toInt32)), .val (.int (10 : Int32)), .val (.int (13 : Int32)), .val (.int (13 : Int32)), .val (.int ((p2 >>> ((2 : Int32) &&& 31)).toInt8.toInt32)), .val (.int (10 : Int32)), .val (.int (3 : Int32)), .val (.ref b199), .val (.int sv), .val (.int (nar .boolean w5206)), .unset] [(.ref b199), (.ref a1)]))
        refine go (fun _ => XS.iconst X206.here hx rfl (hb hby d4_139)) ?_
        show Go _ p e below s _ _ _ (T206.setTop (mkF m 140 #[.val (.ref a1), .val (.int p2), .val (.int p3), .val (.int p4), .val (.int p5), .val (.int (p2 &&& (3 : Int32))), .val (.int ((p2 >>> ((2 : Int32) &&& 31)).toInt8.toInt32)), .val (.int (10 : Int32)), .val (.int (13 : Int32)), .val (.int (13 : Int32)), .val (.int ((p2 >>> ((2 : Int32) &&& 31)).toInt8.toInt32)), .val (.int (10 : Int32)), .val (.int (3 : Int32)), .val (.ref b199), .val (.int sv), .val (.int (nar .boolean w5206)), .unset] [(.int (1 : Int32)), (.ref b199), (.ref a1)]))
        refine go (fun _ => XS.iload X206.here hx rfl (hb hby d4_140) rfl) ?_
        show Go _ p e below s _ _ _ (T206.setTop (mkF m 142 #[.val (.ref a1), .val (.int p2), .val (.int p3), .val (.int p4), .val (.int p5), .val (.int (p2 &&& (3 : Int32))), .val (.int ((p2 >>> ((2 : Int32) &&& 31)).toInt8.toInt32)), .val (.int (10 : Int32)), .val (.int (13 : Int32)), .val (.int (13 : Int32)), .val (.int ((p2 >>> ((2 : Int32) &&& 31)).toInt8.toInt32)), .val (.int (10 : Int32)), .val (.int (3 : Int32)), .val (.ref b199), .val (.int sv), .val (.int (nar .boolean w5206)), .unset] [(.int sv), (.int (1 : Int32)), (.ref b199), (.ref a1)]))
        refine go (fun _ => XS.iadd X206.here hx rfl (hb hby d4_142) rfl) ?_
        show Go _ p e below s _ _ _ (T206.setTop (mkF m 143 #[.val (.ref a1), .val (.int p2), .val (.int p3), .val (.int p4), .val (.int p5), .val (.int (p2 &&& (3 : Int32))), .val (.int ((p2 >>> ((2 : Int32) &&& 31)).toInt8.toInt32)), .val (.int (10 : Int32)), .val (.int (13 : Int32)), .val (.int (13 : Int32)), .val (.int ((p2 >>> ((2 : Int32) &&& 31)).toInt8.toInt32)), .val (.int (10 : Int32)), .val (.int (3 : Int32)), .val (.ref b199), .val (.int sv), .val (.int (nar .boolean w5206)), .unset] [(.int ((1 : Int32) + sv)), (.ref b199), (.ref a1)]))
        refine go (fun _ => XS.iconst X206.here hx rfl (hb hby d4_143)) ?_
        show Go _ p e below s _ _ _ (T206.setTop (mkF m 144 #[.val (.ref a1), .val (.int p2), .val (.int p3), .val (.int p4), .val (.int p5), .val (.int (p2 &&& (3 : Int32))), .val (.int ((p2 >>> ((2 : Int32) &&& 31)).toInt8.toInt32)), .val (.int (10 : Int32)), .val (.int (13 : Int32)), .val (.int (13 : Int32)), .val (.int ((p2 >>> ((2 : Int32) &&& 31)).toInt8.toInt32)), .val (.int (10 : Int32)), .val (.int (3 : Int32)), .val (.ref b199), .val (.int sv), .val (.int (nar .boolean w5206)), .unset] [(.int (1 : Int32)), (.int ((1 : Int32) + sv)), (.ref b199), (.ref a1)]))
        refine go (fun _ => XS.iload X206.here hx rfl (hb hby d4_144) rfl) ?_
        show Go _ p e below s _ _ _ (T206.setTop (mkF m 146 #[.val (.ref a1), .val (.int p2), .val (.int p3), .val (.int p4), .val (.int p5), .val (.int (p2 &&& (3 : Int32))), .val (.int ((p2 >>> ((2 : Int32) &&& 31)).toInt8.toInt32)), .val (.int (10 : Int32)), .val (.int (13 : Int32)), .val (.int (13 : Int32)), .val (.int ((p2 >>> ((2 : Int32) &&& 31)).toInt8.toInt32)), .val (.int (10 : Int32)), .val (.int (3 : Int32)), .val (.ref b199), .val (.int sv), .val (.int (nar .boolean w5206)), .unset] [(.int (3 : Int32)), (.int (1 : Int32)), (.int ((1 : Int32) + sv)), (.ref b199), (.ref a1)]))
        refine go (fun _ => XS.iadd X206.here hx rfl (hb hby d4_146) rfl) ?_
        show Go _ p e below s _ _ _ (T206.setTop (mkF m 147 #[.val (.ref a1), .val (.int p2), .val (.int p3), .val (.int p4), .val (.int p5), .val (.int (p2 &&& (3 : Int32))), .val (.int ((p2 >>> ((2 : Int32) &&& 31)).toInt8.toInt32)), .val (.int (10 : Int32)), .val (.int (13 : Int32)), .val (.int (13 : Int32)), .val (.int ((p2 >>> ((2 : Int32) &&& 31)).toInt8.toInt32)), .val (.int (10 : Int32)), .val (.int (3 : Int32)), .val (.ref b199), .val (.int sv), .val (.int (nar .boolean w5206)), .unset] [(.int (4 : Int32)), (.int ((1 : Int32) + sv)), (.ref b199), (.ref a1)]))
        obtain ⟨cq207, kq207, q207a, q207b, q207c⟩ := isOf hZ rfl c206_0
        obtain ⟨_, _, ⟨T207, L207, k207, n207⟩, -, X207, ⟨Lc207, hQ207, l207, y207, z207⟩, st207⟩ := X206.virtualBack hx (y := (⟨"com/example/dosisbog/dosisbog/HttpRequest$HeadEnd", "whole", "([BII)Z"⟩ : MethodName)) (z := (⟨"com/example/dosisbog/dosisbog/HttpRequest$HeadEnd", "whole", "([BII)Z"⟩ : MethodName)) hown (mvT hZ (hw _ (List.mem_of_getElem? (i := 21) rfl))) (mvT hZ (hw _ (List.mem_of_getElem? (i := 22) rfl))) (notFace_of_selects (args := #[]) (mvT hZ (hw _ (List.mem_of_getElem? (i := 24) rfl)))) (mvT hZ (hw _ (List.mem_of_getElem? (i := 24) rfl))) (mvT hZ (hw _ (List.mem_of_getElem? (i := 23) rfl))) (by decide) (backOf (W := 0) (rm6 l Z a0 hw [] a1 b199 ((1 : Int32) + sv) (4 : Int32) k199 (5 : Int32) [(.int (nar .byte (10 : Int32))), (.int (nar .byte (13 : Int32))), (.int (nar .byte ((p2 >>> ((2 : Int32) &&& 31)).toInt8.toInt32))), (.int (nar .byte (10 : Int32))), (.int (nar .byte (10 : Int32)))] (.int (0 : Int32)) (fun j => [(nar .byte (10 : Int32)), (nar .byte (13 : Int32)), (nar .byte ((p2 >>> ((2 : Int32) &&& 31)).toInt8.toInt32)), (nar .byte (10 : Int32)), (nar .byte (10 : Int32))].getD j 0) (3 - spl) (1 + spl) w1206 w2206 w3206 w4206 w5206 (T206.heap) n0 ZN206 c206_0 P1 c206_2 (Nat.ne_of_lt lt199_a1_b199) u206_1 u206_2 u206_3 u206_4 u206_5 (own_1p hs (by omega)) (by have : ((4 : Int32)).toInt = 4 := (by decide); omega) (by have : (5 : Int32).toInt = 5 := (by decide); omega) (own_getD [(nar .byte (10 : Int32)), (nar .byte (13 : Int32)), (nar .byte ((p2 >>> ((2 : Int32) &&& 31)).toInt8.toInt32)), (nar .byte (10 : Int32)), (nar .byte (10 : Int32))])) hZ (hw _ (List.mem_of_getElem? (i := 25) rfl)) (hw _ (List.mem_of_getElem? (i := 2) rfl)) (by decide) (by decide)) q207a q207c (g := (mkF m 147 #[.val (.ref a1), .val (.int p2), .val (.int p3), .val (.int p4), .val (.int p5), .val (.int (p2 &&& (3 : Int32))), .val (.int ((p2 >>> ((2 : Int32) &&& 31)).toInt8.toInt32)), .val (.int (10 : Int32)), .val (.int (13 : Int32)), .val (.int (13 : Int32)), .val (.int ((p2 >>> ((2 : Int32) &&& 31)).toInt8.toInt32)), .val (.int (10 : Int32)), .val (.int (3 : Int32)), .val (.ref b199), .val (.int sv), .val (.int (nar .boolean w5206)), .unset] [(.int (4 : Int32)), (.int ((1 : Int32) + sv)), (.ref b199), (.ref a1)])) rfl (by rw [hml]; rfl) (Steps.refl _) (argsL := [(.ref b199), (.int ((1 : Int32) + sv)), (.int (4 : Int32))]) (rest := []) (lenOf pd_4_1 rfl) rfl (by show 2 * 0 + _ ≤ _; exact Nat.le_of_eq rfl) (hb hby d4_147) (fun _ _ => ⟨rfl, rfl, (by decide : 1 + 0 ≤ _), (by decide : 5 + 0 ≤ _)⟩)
        dsimp only [Pt.U, Pt.locs, Pt.cells, Pt.slots] at X207 l207 y207 z207 st207 hQ207
        subst l207 y207 z207
        obtain ⟨w1207, w2207, w3207, w4207, w5207, rfl, N207q, K207, u207_1, u207_2, u207_3, u207_4, u207_5, u207_6⟩ := hQ207
        have N207 := Fr.app N206 N207q
        have c207_0 := c206_0.keep K207
        have c207_1 := c206_1.keep K207
        have c207_2 := c206_2.keep K207 (ninS (Ne.symm (Nat.ne_of_lt lt199_a1_b199)) nin0)
        have KK207 : Keep h0 T207.heap [a1] := KK206.trans K207 (allS (P := fun x => x ∈ [a1] ∨ h0.size ≤ x) (Or.inl (List.mem_of_getElem? (i := 0) rfl)) all0)
        have ZN207 : n0 ≤ T207.heap.size := Nat.le_trans ZN206 K207.1
        refine goT st207 ?_
        show Go _ p e below s _ _ _ (T207.setTop (mkF m 150 #[.val (.ref a1), .val (.int p2), .val (.int p3), .val (.int p4), .val (.int p5), .val (.int (p2 &&& (3 : Int32))), .val (.int ((p2 >>> ((2 : Int32) &&& 31)).toInt8.toInt32)), .val (.int (10 : Int32)), .val (.int (13 : Int32)), .val (.int (13 : Int32)), .val (.int ((p2 >>> ((2 : Int32) &&& 31)).toInt8.toInt32)), .val (.int (10 : Int32)), .val (.int (3 : Int32)), .val (.ref b199), .val (.int sv), .val (.int (nar .boolean w5206)), .unset] [(.int (nar .boolean w5207))]))
        refine go (fun _ => XS.istore X207.here hx rfl (hb hby d4_150) rfl (l' := #[.val (.ref a1), .val (.int p2), .val (.int p3), .val (.int p4), .val (.int p5), .val (.int (p2 &&& (3 : Int32))), .val (.int ((p2 >>> ((2 : Int32) &&& 31)).toInt8.toInt32)), .val (.int (10 : Int32)), .val (.int (13 : Int32)), .val (.int (13 : Int32)), .val (.int ((p2 >>> ((2 : Int32) &&& 31)).toInt8.toInt32)), .val (.int (10 : Int32)), .val (.int (3 : Int32)), .val (.ref b199), .val (.int sv), .val (.int (nar .boolean w5206)), .val (.int (nar .boolean w5207))]) rfl) ?_
        show Go _ p e below s _ _ _ (T207.setTop (mkF m 152 #[.val (.ref a1), .val (.int p2), .val (.int p3), .val (.int p4), .val (.int p5), .val (.int (p2 &&& (3 : Int32))), .val (.int ((p2 >>> ((2 : Int32) &&& 31)).toInt8.toInt32)), .val (.int (10 : Int32)), .val (.int (13 : Int32)), .val (.int (13 : Int32)), .val (.int ((p2 >>> ((2 : Int32) &&& 31)).toInt8.toInt32)), .val (.int (10 : Int32)), .val (.int (3 : Int32)), .val (.ref b199), .val (.int sv), .val (.int (nar .boolean w5206)), .val (.int (nar .boolean w5207))] []))
        have hline : ∀ x1 x3 : Int32, 0 ≤ x1.toInt → x1.toInt ≤ N → (rq = 0 ∨ rq = 1) → own_inv (own_run (fun j => [(nar .byte (10 : Int32)), (nar .byte (13 : Int32)), (nar .byte ((p2 >>> ((2 : Int32) &&& 31)).toInt8.toInt32)), (nar .byte (10 : Int32)), (nar .byte (10 : Int32))].getD j 0) 3 1 (x1, 0, x3, rq, 0)) (own_rq rq (own_emp (p2 &&& (3 : Int32)) ((p2 >>> ((2 : Int32) &&& 31)) &&& (255 : Int32)))) (own_fd 0 (own_emp (p2 &&& (3 : Int32)) ((p2 >>> ((2 : Int32) &&& 31)) &&& (255 : Int32))) rq) (N + 3) := by
          intro x1 x3 g1 g2 g3
          obtain ⟨k3, u1, u2⟩ := own_and3 p2
          have h3 := own_four u1 u2 hc33_160 hc45_173 hc61_186
          by_cases q2 : ((p2 >>> ((2 : Int32) &&& 31)).toInt8.toInt32) = 10
          · rw [show (own_emp (p2 &&& (3 : Int32)) ((p2 >>> ((2 : Int32) &&& 31)) &&& (255 : Int32))) = 1 from by unfold own_emp; simp only [if_neg hc33_160, if_neg hc45_173, if_neg hc61_186, if_pos h3, if_pos ((own_cc _ 10 10 (by decide) (by decide)).mpr q2)]]
            exact own_line3a rfl ((own_nb8 _).trans q2) rfl g1 g2 (by omega) g3
          · rw [show (own_emp (p2 &&& (3 : Int32)) ((p2 >>> ((2 : Int32) &&& 31)) &&& (255 : Int32))) = 0 from by unfold own_emp; simp only [if_neg hc33_160, if_neg hc45_173, if_neg hc61_186, if_pos h3, if_neg (fun u => q2 ((own_cc _ 10 10 (by decide) (by decide)).mp u))]]
            exact own_line3c rfl (fun u => q2 ((own_nb8 _).symm.trans u)) rfl g1 g2 (by omega) g3
        obtain ⟨f1, f2, f3, f4, f5⟩ := own_feed (g := (fun j => [(nar .byte (10 : Int32)), (nar .byte (13 : Int32)), (nar .byte ((p2 >>> ((2 : Int32) &&& 31)).toInt8.toInt32)), (nar .byte (10 : Int32)), (nar .byte (10 : Int32))].getD j 0)) hsl u206_6 u207_6 hin (own_e01 _ _) hline
        dsimp only at f2 f3 f4 f5
        refine go (fun _ => XS.iloadN X207.here hx rfl (hb hby d4_152) rfl) ?_
        show Go _ p e below s _ _ _ (T207.setTop (mkF m 153 #[.val (.ref a1), .val (.int p2), .val (.int p3), .val (.int p4), .val (.int p5), .val (.int (p2 &&& (3 : Int32))), .val (.int ((p2 >>> ((2 : Int32) &&& 31)).toInt8.toInt32)), .val (.int (10 : Int32)), .val (.int (13 : Int32)), .val (.int (13 : Int32)), .val (.int ((p2 >>> ((2 : Int32) &&& 31)).toInt8.toInt32)), .val (.int (10 : Int32)), .val (.int (3 : Int32)), .val (.ref b199), .val (.int sv), .val (.int (nar .boolean w5206)), .val (.int (nar .boolean w5207))] [(.int p4)]))
        by_cases hc153_208 : p4 = (0 : Int32)
        · refine go (fun _ => XS.ifYes X207.here hx rfl (pc0 := 153) (pc' := 161) rfl (hb hby d4_153) rfl ((if0 _ _).trans (teq hc153_208).1) (by decide) (by decide)) ?_
          show Go _ p e below s _ _ _ (T207.setTop (mkF m 161 #[.val (.ref a1), .val (.int p2), .val (.int p3), .val (.int p4), .val (.int p5), .val (.int (p2 &&& (3 : Int32))), .val (.int ((p2 >>> ((2 : Int32) &&& 31)).toInt8.toInt32)), .val (.int (10 : Int32)), .val (.int (13 : Int32)), .val (.int (13 : Int32)), .val (.int ((p2 >>> ((2 : Int32) &&& 31)).toInt8.toInt32)), .val (.int (10 : Int32)), .val (.int (3 : Int32)), .val (.ref b199), .val (.int sv), .val (.int (nar .boolean w5206)), .val (.int (nar .boolean w5207))] []))
          refine go (fun _ => XS.iload X207.here hx rfl (hb hby d4_161) rfl) ?_
          show Go _ p e below s _ _ _ (T207.setTop (mkF m 163 #[.val (.ref a1), .val (.int p2), .val (.int p3), .val (.int p4), .val (.int p5), .val (.int (p2 &&& (3 : Int32))), .val (.int ((p2 >>> ((2 : Int32) &&& 31)).toInt8.toInt32)), .val (.int (10 : Int32)), .val (.int (13 : Int32)), .val (.int (13 : Int32)), .val (.int ((p2 >>> ((2 : Int32) &&& 31)).toInt8.toInt32)), .val (.int (10 : Int32)), .val (.int (3 : Int32)), .val (.ref b199), .val (.int sv), .val (.int (nar .boolean w5206)), .val (.int (nar .boolean w5207))] [(.int (nar .boolean w5206))]))
          by_cases hc163_209 : (nar .boolean w5206) = (0 : Int32)
          · refine go (fun _ => XS.ifYes X207.here hx rfl (pc0 := 163) (pc' := 171) rfl (hb hby d4_163) rfl ((if0 _ _).trans (teq hc163_209).1) (by decide) (by decide)) ?_
            show Go _ p e below s _ _ _ (T207.setTop (mkF m 171 #[.val (.ref a1), .val (.int p2), .val (.int p3), .val (.int p4), .val (.int p5), .val (.int (p2 &&& (3 : Int32))), .val (.int ((p2 >>> ((2 : Int32) &&& 31)).toInt8.toInt32)), .val (.int (10 : Int32)), .val (.int (13 : Int32)), .val (.int (13 : Int32)), .val (.int ((p2 >>> ((2 : Int32) &&& 31)).toInt8.toInt32)), .val (.int (10 : Int32)), .val (.int (3 : Int32)), .val (.ref b199), .val (.int sv), .val (.int (nar .boolean w5206)), .val (.int (nar .boolean w5207))] []))
            refine go (fun _ => XS.iload X207.here hx rfl (hb hby d4_171) rfl) ?_
            show Go _ p e below s _ _ _ (T207.setTop (mkF m 173 #[.val (.ref a1), .val (.int p2), .val (.int p3), .val (.int p4), .val (.int p5), .val (.int (p2 &&& (3 : Int32))), .val (.int ((p2 >>> ((2 : Int32) &&& 31)).toInt8.toInt32)), .val (.int (10 : Int32)), .val (.int (13 : Int32)), .val (.int (13 : Int32)), .val (.int ((p2 >>> ((2 : Int32) &&& 31)).toInt8.toInt32)), .val (.int (10 : Int32)), .val (.int (3 : Int32)), .val (.ref b199), .val (.int sv), .val (.int (nar .boolean w5206)), .val (.int (nar .boolean w5207))] [(.int (nar .boolean w5207))]))
            refine go (fun _ => XS.iload X207.here hx rfl (hb hby d4_173) rfl) ?_
            show Go _ p e below s _ _ _ (T207.setTop (mkF m 175 #[.val (.ref a1), .val (.int p2), .val (.int p3), .val (.int p4), .val (.int p5), .val (.int (p2 &&& (3 : Int32))), .val (.int ((p2 >>> ((2 : Int32) &&& 31)).toInt8.toInt32)), .val (.int (10 : Int32)), .val (.int (13 : Int32)), .val (.int (13 : Int32)), .val (.int ((p2 >>> ((2 : Int32) &&& 31)).toInt8.toInt32)), .val (.int (10 : Int32)), .val (.int (3 : Int32)), .val (.ref b199), .val (.int sv), .val (.int (nar .boolean w5206)), .val (.int (nar .boolean w5207))] [(.int p5), (.int (nar .boolean w5207))]))
            refine go (fun _ => XS.icmpNo X207.here hx rfl (hb hby d4_175) rfl (teq (by rw [h5, ← f4]; exact own_nb (by rw [f4]; exact f1.2.1))).2) ?_
            show Go _ p e below s _ _ _ (T207.setTop (mkF m 178 #[.val (.ref a1), .val (.int p2), .val (.int p3), .val (.int p4), .val (.int p5), .val (.int (p2 &&& (3 : Int32))), .val (.int ((p2 >>> ((2 : Int32) &&& 31)).toInt8.toInt32)), .val (.int (10 : Int32)), .val (.int (13 : Int32)), .val (.int (13 : Int32)), .val (.int ((p2 >>> ((2 : Int32) &&& 31)).toInt8.toInt32)), .val (.int (10 : Int32)), .val (.int (3 : Int32)), .val (.ref b199), .val (.int sv), .val (.int (nar .boolean w5206)), .val (.int (nar .boolean w5207))] []))
            refine go (fun _ => XS.iconst X207.here hx rfl (hb hby d4_178)) ?_
            show Go _ p e below s _ _ _ (T207.setTop (mkF m 179 #[.val (.ref a1), .val (.int p2), .val (.int p3), .val (.int p4), .val (.int p5), .val (.int (p2 &&& (3 : Int32))), .val (.int ((p2 >>> ((2 : Int32) &&& 31)).toInt8.toInt32)), .val (.int (10 : Int32)), .val (.int (13 : Int32)), .val (.int (13 : Int32)), .val (.int ((p2 >>> ((2 : Int32) &&& 31)).toInt8.toInt32)), .val (.int (10 : Int32)), .val (.int (3 : Int32)), .val (.ref b199), .val (.int sv), .val (.int (nar .boolean w5206)), .val (.int (nar .boolean w5207))] [(.int (1 : Int32))]))
            refine go (fun _ => XS.goto X207.here hx rfl (pc0 := 179) (pc' := 183) rfl (hb hby d4_179) (by decide) (by decide)) ?_
            show Go _ p e below s _ _ _ (T207.setTop (mkF m 183 #[.val (.ref a1), .val (.int p2), .val (.int p3), .val (.int p4), .val (.int p5), .val (.int (p2 &&& (3 : Int32))), .val (.int ((p2 >>> ((2 : Int32) &&& 31)).toInt8.toInt32)), .val (.int (10 : Int32)), .val (.int (13 : Int32)), .val (.int (13 : Int32)), .val (.int ((p2 >>> ((2 : Int32) &&& 31)).toInt8.toInt32)), .val (.int (10 : Int32)), .val (.int (3 : Int32)), .val (.ref b199), .val (.int sv), .val (.int (nar .boolean w5206)), .val (.int (nar .boolean w5207))] [(.int (1 : Int32))]))
            refine goRet X207 hx Bd.notSynchronized Bd.returns rfl (Or.inl ⟨rfl, Or.inr (Or.inl rfl), _, rfl⟩) (hb hby d4_183) (by decide) (by decide) (by refine ⟨w1207, w2207, w3207, w4207, w5207, rfl, N207, KK207, u207_1, u207_2, u207_3, u207_4, u207_5, f1⟩)
          · refine go (fun _ => XS.ifNo X207.here hx rfl (hb hby d4_163) rfl ((if0 _ _).trans (feq hc163_209).1)) ?_
            show Go _ p e below s _ _ _ (T207.setTop (mkF m 166 #[.val (.ref a1), .val (.int p2), .val (.int p3), .val (.int p4), .val (.int p5), .val (.int (p2 &&& (3 : Int32))), .val (.int ((p2 >>> ((2 : Int32) &&& 31)).toInt8.toInt32)), .val (.int (10 : Int32)), .val (.int (13 : Int32)), .val (.int (13 : Int32)), .val (.int ((p2 >>> ((2 : Int32) &&& 31)).toInt8.toInt32)), .val (.int (10 : Int32)), .val (.int (3 : Int32)), .val (.ref b199), .val (.int sv), .val (.int (nar .boolean w5206)), .val (.int (nar .boolean w5207))] []))
            refine go (fun _ => XS.iload X207.here hx rfl (hb hby d4_166) rfl) ?_
            show Go _ p e below s _ _ _ (T207.setTop (mkF m 168 #[.val (.ref a1), .val (.int p2), .val (.int p3), .val (.int p4), .val (.int p5), .val (.int (p2 &&& (3 : Int32))), .val (.int ((p2 >>> ((2 : Int32) &&& 31)).toInt8.toInt32)), .val (.int (10 : Int32)), .val (.int (13 : Int32)), .val (.int (13 : Int32)), .val (.int ((p2 >>> ((2 : Int32) &&& 31)).toInt8.toInt32)), .val (.int (10 : Int32)), .val (.int (3 : Int32)), .val (.ref b199), .val (.int sv), .val (.int (nar .boolean w5206)), .val (.int (nar .boolean w5207))] [(.int p5)]))
            refine go (fun _ => XS.ifNo X207.here hx rfl (hb hby d4_168) rfl ((if0 _ _).trans (feq (fun u => by rw [h5, f3 (fun v => hc163_209 (by rw [own_nb f5]; exact v))] at u; exact absurd u (by decide))).1)) ?_
            show Go _ p e below s _ _ _ (T207.setTop (mkF m 171 #[.val (.ref a1), .val (.int p2), .val (.int p3), .val (.int p4), .val (.int p5), .val (.int (p2 &&& (3 : Int32))), .val (.int ((p2 >>> ((2 : Int32) &&& 31)).toInt8.toInt32)), .val (.int (10 : Int32)), .val (.int (13 : Int32)), .val (.int (13 : Int32)), .val (.int ((p2 >>> ((2 : Int32) &&& 31)).toInt8.toInt32)), .val (.int (10 : Int32)), .val (.int (3 : Int32)), .val (.ref b199), .val (.int sv), .val (.int (nar .boolean w5206)), .val (.int (nar .boolean w5207))] []))
            refine go (fun _ => XS.iload X207.here hx rfl (hb hby d4_171) rfl) ?_
            show Go _ p e below s _ _ _ (T207.setTop (mkF m 173 #[.val (.ref a1), .val (.int p2), .val (.int p3), .val (.int p4), .val (.int p5), .val (.int (p2 &&& (3 : Int32))), .val (.int ((p2 >>> ((2 : Int32) &&& 31)).toInt8.toInt32)), .val (.int (10 : Int32)), .val (.int (13 : Int32)), .val (.int (13 : Int32)), .val (.int ((p2 >>> ((2 : Int32) &&& 31)).toInt8.toInt32)), .val (.int (10 : Int32)), .val (.int (3 : Int32)), .val (.ref b199), .val (.int sv), .val (.int (nar .boolean w5206)), .val (.int (nar .boolean w5207))] [(.int (nar .boolean w5207))]))
            refine go (fun _ => XS.iload X207.here hx rfl (hb hby d4_173) rfl) ?_
            show Go _ p e below s _ _ _ (T207.setTop (mkF m 175 #[.val (.ref a1), .val (.int p2), .val (.int p3), .val (.int p4), .val (.int p5), .val (.int (p2 &&& (3 : Int32))), .val (.int ((p2 >>> ((2 : Int32) &&& 31)).toInt8.toInt32)), .val (.int (10 : Int32)), .val (.int (13 : Int32)), .val (.int (13 : Int32)), .val (.int ((p2 >>> ((2 : Int32) &&& 31)).toInt8.toInt32)), .val (.int (10 : Int32)), .val (.int (3 : Int32)), .val (.ref b199), .val (.int sv), .val (.int (nar .boolean w5206)), .val (.int (nar .boolean w5207))] [(.int p5), (.int (nar .boolean w5207))]))
            refine go (fun _ => XS.icmpNo X207.here hx rfl (hb hby d4_175) rfl (teq (by rw [h5, ← f4]; exact own_nb (by rw [f4]; exact f1.2.1))).2) ?_
            show Go _ p e below s _ _ _ (T207.setTop (mkF m 178 #[.val (.ref a1), .val (.int p2), .val (.int p3), .val (.int p4), .val (.int p5), .val (.int (p2 &&& (3 : Int32))), .val (.int ((p2 >>> ((2 : Int32) &&& 31)).toInt8.toInt32)), .val (.int (10 : Int32)), .val (.int (13 : Int32)), .val (.int (13 : Int32)), .val (.int ((p2 >>> ((2 : Int32) &&& 31)).toInt8.toInt32)), .val (.int (10 : Int32)), .val (.int (3 : Int32)), .val (.ref b199), .val (.int sv), .val (.int (nar .boolean w5206)), .val (.int (nar .boolean w5207))] []))
            refine go (fun _ => XS.iconst X207.here hx rfl (hb hby d4_178)) ?_
            show Go _ p e below s _ _ _ (T207.setTop (mkF m 179 #[.val (.ref a1), .val (.int p2), .val (.int p3), .val (.int p4), .val (.int p5), .val (.int (p2 &&& (3 : Int32))), .val (.int ((p2 >>> ((2 : Int32) &&& 31)).toInt8.toInt32)), .val (.int (10 : Int32)), .val (.int (13 : Int32)), .val (.int (13 : Int32)), .val (.int ((p2 >>> ((2 : Int32) &&& 31)).toInt8.toInt32)), .val (.int (10 : Int32)), .val (.int (3 : Int32)), .val (.ref b199), .val (.int sv), .val (.int (nar .boolean w5206)), .val (.int (nar .boolean w5207))] [(.int (1 : Int32))]))
            refine go (fun _ => XS.goto X207.here hx rfl (pc0 := 179) (pc' := 183) rfl (hb hby d4_179) (by decide) (by decide)) ?_
            show Go _ p e below s _ _ _ (T207.setTop (mkF m 183 #[.val (.ref a1), .val (.int p2), .val (.int p3), .val (.int p4), .val (.int p5), .val (.int (p2 &&& (3 : Int32))), .val (.int ((p2 >>> ((2 : Int32) &&& 31)).toInt8.toInt32)), .val (.int (10 : Int32)), .val (.int (13 : Int32)), .val (.int (13 : Int32)), .val (.int ((p2 >>> ((2 : Int32) &&& 31)).toInt8.toInt32)), .val (.int (10 : Int32)), .val (.int (3 : Int32)), .val (.ref b199), .val (.int sv), .val (.int (nar .boolean w5206)), .val (.int (nar .boolean w5207))] [(.int (1 : Int32))]))
            refine goRet X207 hx Bd.notSynchronized Bd.returns rfl (Or.inl ⟨rfl, Or.inr (Or.inl rfl), _, rfl⟩) (hb hby d4_183) (by decide) (by decide) (by refine ⟨w1207, w2207, w3207, w4207, w5207, rfl, N207, KK207, u207_1, u207_2, u207_3, u207_4, u207_5, f1⟩)
        · refine go (fun _ => XS.ifNo X207.here hx rfl (hb hby d4_153) rfl ((if0 _ _).trans (feq hc153_208).1)) ?_
          show Go _ p e below s _ _ _ (T207.setTop (mkF m 156 #[.val (.ref a1), .val (.int p2), .val (.int p3), .val (.int p4), .val (.int p5), .val (.int (p2 &&& (3 : Int32))), .val (.int ((p2 >>> ((2 : Int32) &&& 31)).toInt8.toInt32)), .val (.int (10 : Int32)), .val (.int (13 : Int32)), .val (.int (13 : Int32)), .val (.int ((p2 >>> ((2 : Int32) &&& 31)).toInt8.toInt32)), .val (.int (10 : Int32)), .val (.int (3 : Int32)), .val (.ref b199), .val (.int sv), .val (.int (nar .boolean w5206)), .val (.int (nar .boolean w5207))] []))
          refine go (fun _ => XS.iload X207.here hx rfl (hb hby d4_156) rfl) ?_
          show Go _ p e below s _ _ _ (T207.setTop (mkF m 158 #[.val (.ref a1), .val (.int p2), .val (.int p3), .val (.int p4), .val (.int p5), .val (.int (p2 &&& (3 : Int32))), .val (.int ((p2 >>> ((2 : Int32) &&& 31)).toInt8.toInt32)), .val (.int (10 : Int32)), .val (.int (13 : Int32)), .val (.int (13 : Int32)), .val (.int ((p2 >>> ((2 : Int32) &&& 31)).toInt8.toInt32)), .val (.int (10 : Int32)), .val (.int (3 : Int32)), .val (.ref b199), .val (.int sv), .val (.int (nar .boolean w5206)), .val (.int (nar .boolean w5207))] [(.int (nar .boolean w5206))]))
          refine go (fun _ => XS.ifNo X207.here hx rfl (hb hby d4_158) rfl ((if0 _ _).trans (feq (fun u => by rw [own_nb f5, f2 (fun v => hc153_208 (h4.trans v))] at u; exact absurd u (by decide))).1)) ?_
          show Go _ p e below s _ _ _ (T207.setTop (mkF m 161 #[.val (.ref a1), .val (.int p2), .val (.int p3), .val (.int p4), .val (.int p5), .val (.int (p2 &&& (3 : Int32))), .val (.int ((p2 >>> ((2 : Int32) &&& 31)).toInt8.toInt32)), .val (.int (10 : Int32)), .val (.int (13 : Int32)), .val (.int (13 : Int32)), .val (.int ((p2 >>> ((2 : Int32) &&& 31)).toInt8.toInt32)), .val (.int (10 : Int32)), .val (.int (3 : Int32)), .val (.ref b199), .val (.int sv), .val (.int (nar .boolean w5206)), .val (.int (nar .boolean w5207))] []))
          refine go (fun _ => XS.iload X207.here hx rfl (hb hby d4_161) rfl) ?_
          show Go _ p e below s _ _ _ (T207.setTop (mkF m 163 #[.val (.ref a1), .val (.int p2), .val (.int p3), .val (.int p4), .val (.int p5), .val (.int (p2 &&& (3 : Int32))), .val (.int ((p2 >>> ((2 : Int32) &&& 31)).toInt8.toInt32)), .val (.int (10 : Int32)), .val (.int (13 : Int32)), .val (.int (13 : Int32)), .val (.int ((p2 >>> ((2 : Int32) &&& 31)).toInt8.toInt32)), .val (.int (10 : Int32)), .val (.int (3 : Int32)), .val (.ref b199), .val (.int sv), .val (.int (nar .boolean w5206)), .val (.int (nar .boolean w5207))] [(.int (nar .boolean w5206))]))
          by_cases hc163_210 : (nar .boolean w5206) = (0 : Int32)
          · refine go (fun _ => XS.ifYes X207.here hx rfl (pc0 := 163) (pc' := 171) rfl (hb hby d4_163) rfl ((if0 _ _).trans (teq hc163_210).1) (by decide) (by decide)) ?_
            show Go _ p e below s _ _ _ (T207.setTop (mkF m 171 #[.val (.ref a1), .val (.int p2), .val (.int p3), .val (.int p4), .val (.int p5), .val (.int (p2 &&& (3 : Int32))), .val (.int ((p2 >>> ((2 : Int32) &&& 31)).toInt8.toInt32)), .val (.int (10 : Int32)), .val (.int (13 : Int32)), .val (.int (13 : Int32)), .val (.int ((p2 >>> ((2 : Int32) &&& 31)).toInt8.toInt32)), .val (.int (10 : Int32)), .val (.int (3 : Int32)), .val (.ref b199), .val (.int sv), .val (.int (nar .boolean w5206)), .val (.int (nar .boolean w5207))] []))
            refine go (fun _ => XS.iload X207.here hx rfl (hb hby d4_171) rfl) ?_
            show Go _ p e below s _ _ _ (T207.setTop (mkF m 173 #[.val (.ref a1), .val (.int p2), .val (.int p3), .val (.int p4), .val (.int p5), .val (.int (p2 &&& (3 : Int32))), .val (.int ((p2 >>> ((2 : Int32) &&& 31)).toInt8.toInt32)), .val (.int (10 : Int32)), .val (.int (13 : Int32)), .val (.int (13 : Int32)), .val (.int ((p2 >>> ((2 : Int32) &&& 31)).toInt8.toInt32)), .val (.int (10 : Int32)), .val (.int (3 : Int32)), .val (.ref b199), .val (.int sv), .val (.int (nar .boolean w5206)), .val (.int (nar .boolean w5207))] [(.int (nar .boolean w5207))]))
            refine go (fun _ => XS.iload X207.here hx rfl (hb hby d4_173) rfl) ?_
            show Go _ p e below s _ _ _ (T207.setTop (mkF m 175 #[.val (.ref a1), .val (.int p2), .val (.int p3), .val (.int p4), .val (.int p5), .val (.int (p2 &&& (3 : Int32))), .val (.int ((p2 >>> ((2 : Int32) &&& 31)).toInt8.toInt32)), .val (.int (10 : Int32)), .val (.int (13 : Int32)), .val (.int (13 : Int32)), .val (.int ((p2 >>> ((2 : Int32) &&& 31)).toInt8.toInt32)), .val (.int (10 : Int32)), .val (.int (3 : Int32)), .val (.ref b199), .val (.int sv), .val (.int (nar .boolean w5206)), .val (.int (nar .boolean w5207))] [(.int p5), (.int (nar .boolean w5207))]))
            refine go (fun _ => XS.icmpNo X207.here hx rfl (hb hby d4_175) rfl (teq (by rw [h5, ← f4]; exact own_nb (by rw [f4]; exact f1.2.1))).2) ?_
            show Go _ p e below s _ _ _ (T207.setTop (mkF m 178 #[.val (.ref a1), .val (.int p2), .val (.int p3), .val (.int p4), .val (.int p5), .val (.int (p2 &&& (3 : Int32))), .val (.int ((p2 >>> ((2 : Int32) &&& 31)).toInt8.toInt32)), .val (.int (10 : Int32)), .val (.int (13 : Int32)), .val (.int (13 : Int32)), .val (.int ((p2 >>> ((2 : Int32) &&& 31)).toInt8.toInt32)), .val (.int (10 : Int32)), .val (.int (3 : Int32)), .val (.ref b199), .val (.int sv), .val (.int (nar .boolean w5206)), .val (.int (nar .boolean w5207))] []))
            refine go (fun _ => XS.iconst X207.here hx rfl (hb hby d4_178)) ?_
            show Go _ p e below s _ _ _ (T207.setTop (mkF m 179 #[.val (.ref a1), .val (.int p2), .val (.int p3), .val (.int p4), .val (.int p5), .val (.int (p2 &&& (3 : Int32))), .val (.int ((p2 >>> ((2 : Int32) &&& 31)).toInt8.toInt32)), .val (.int (10 : Int32)), .val (.int (13 : Int32)), .val (.int (13 : Int32)), .val (.int ((p2 >>> ((2 : Int32) &&& 31)).toInt8.toInt32)), .val (.int (10 : Int32)), .val (.int (3 : Int32)), .val (.ref b199), .val (.int sv), .val (.int (nar .boolean w5206)), .val (.int (nar .boolean w5207))] [(.int (1 : Int32))]))
            refine go (fun _ => XS.goto X207.here hx rfl (pc0 := 179) (pc' := 183) rfl (hb hby d4_179) (by decide) (by decide)) ?_
            show Go _ p e below s _ _ _ (T207.setTop (mkF m 183 #[.val (.ref a1), .val (.int p2), .val (.int p3), .val (.int p4), .val (.int p5), .val (.int (p2 &&& (3 : Int32))), .val (.int ((p2 >>> ((2 : Int32) &&& 31)).toInt8.toInt32)), .val (.int (10 : Int32)), .val (.int (13 : Int32)), .val (.int (13 : Int32)), .val (.int ((p2 >>> ((2 : Int32) &&& 31)).toInt8.toInt32)), .val (.int (10 : Int32)), .val (.int (3 : Int32)), .val (.ref b199), .val (.int sv), .val (.int (nar .boolean w5206)), .val (.int (nar .boolean w5207))] [(.int (1 : Int32))]))
            refine goRet X207 hx Bd.notSynchronized Bd.returns rfl (Or.inl ⟨rfl, Or.inr (Or.inl rfl), _, rfl⟩) (hb hby d4_183) (by decide) (by decide) (by refine ⟨w1207, w2207, w3207, w4207, w5207, rfl, N207, KK207, u207_1, u207_2, u207_3, u207_4, u207_5, f1⟩)
          · refine go (fun _ => XS.ifNo X207.here hx rfl (hb hby d4_163) rfl ((if0 _ _).trans (feq hc163_210).1)) ?_
            show Go _ p e below s _ _ _ (T207.setTop (mkF m 166 #[.val (.ref a1), .val (.int p2), .val (.int p3), .val (.int p4), .val (.int p5), .val (.int (p2 &&& (3 : Int32))), .val (.int ((p2 >>> ((2 : Int32) &&& 31)).toInt8.toInt32)), .val (.int (10 : Int32)), .val (.int (13 : Int32)), .val (.int (13 : Int32)), .val (.int ((p2 >>> ((2 : Int32) &&& 31)).toInt8.toInt32)), .val (.int (10 : Int32)), .val (.int (3 : Int32)), .val (.ref b199), .val (.int sv), .val (.int (nar .boolean w5206)), .val (.int (nar .boolean w5207))] []))
            refine go (fun _ => XS.iload X207.here hx rfl (hb hby d4_166) rfl) ?_
            show Go _ p e below s _ _ _ (T207.setTop (mkF m 168 #[.val (.ref a1), .val (.int p2), .val (.int p3), .val (.int p4), .val (.int p5), .val (.int (p2 &&& (3 : Int32))), .val (.int ((p2 >>> ((2 : Int32) &&& 31)).toInt8.toInt32)), .val (.int (10 : Int32)), .val (.int (13 : Int32)), .val (.int (13 : Int32)), .val (.int ((p2 >>> ((2 : Int32) &&& 31)).toInt8.toInt32)), .val (.int (10 : Int32)), .val (.int (3 : Int32)), .val (.ref b199), .val (.int sv), .val (.int (nar .boolean w5206)), .val (.int (nar .boolean w5207))] [(.int p5)]))
            refine go (fun _ => XS.ifNo X207.here hx rfl (hb hby d4_168) rfl ((if0 _ _).trans (feq (fun u => by rw [h5, f3 (fun v => hc163_210 (by rw [own_nb f5]; exact v))] at u; exact absurd u (by decide))).1)) ?_
            show Go _ p e below s _ _ _ (T207.setTop (mkF m 171 #[.val (.ref a1), .val (.int p2), .val (.int p3), .val (.int p4), .val (.int p5), .val (.int (p2 &&& (3 : Int32))), .val (.int ((p2 >>> ((2 : Int32) &&& 31)).toInt8.toInt32)), .val (.int (10 : Int32)), .val (.int (13 : Int32)), .val (.int (13 : Int32)), .val (.int ((p2 >>> ((2 : Int32) &&& 31)).toInt8.toInt32)), .val (.int (10 : Int32)), .val (.int (3 : Int32)), .val (.ref b199), .val (.int sv), .val (.int (nar .boolean w5206)), .val (.int (nar .boolean w5207))] []))
            refine go (fun _ => XS.iload X207.here hx rfl (hb hby d4_171) rfl) ?_
            show Go _ p e below s _ _ _ (T207.setTop (mkF m 173 #[.val (.ref a1), .val (.int p2), .val (.int p3), .val (.int p4), .val (.int p5), .val (.int (p2 &&& (3 : Int32))), .val (.int ((p2 >>> ((2 : Int32) &&& 31)).toInt8.toInt32)), .val (.int (10 : Int32)), .val (.int (13 : Int32)), .val (.int (13 : Int32)), .val (.int ((p2 >>> ((2 : Int32) &&& 31)).toInt8.toInt32)), .val (.int (10 : Int32)), .val (.int (3 : Int32)), .val (.ref b199), .val (.int sv), .val (.int (nar .boolean w5206)), .val (.int (nar .boolean w5207))] [(.int (nar .boolean w5207))]))
            refine go (fun _ => XS.iload X207.here hx rfl (hb hby d4_173) rfl) ?_
            show Go _ p e below s _ _ _ (T207.setTop (mkF m 175 #[.val (.ref a1), .val (.int p2), .val (.int p3), .val (.int p4), .val (.int p5), .val (.int (p2 &&& (3 : Int32))), .val (.int ((p2 >>> ((2 : Int32) &&& 31)).toInt8.toInt32)), .val (.int (10 : Int32)), .val (.int (13 : Int32)), .val (.int (13 : Int32)), .val (.int ((p2 >>> ((2 : Int32) &&& 31)).toInt8.toInt32)), .val (.int (10 : Int32)), .val (.int (3 : Int32)), .val (.ref b199), .val (.int sv), .val (.int (nar .boolean w5206)), .val (.int (nar .boolean w5207))] [(.int p5), (.int (nar .boolean w5207))]))
            refine go (fun _ => XS.icmpNo X207.here hx rfl (hb hby d4_175) rfl (teq (by rw [h5, ← f4]; exact own_nb (by rw [f4]; exact f1.2.1))).2) ?_
            show Go _ p e below s _ _ _ (T207.setTop (mkF m 178 #[.val (.ref a1), .val (.int p2), .val (.int p3), .val (.int p4), .val (.int p5), .val (.int (p2 &&& (3 : Int32))), .val (.int ((p2 >>> ((2 : Int32) &&& 31)).toInt8.toInt32)), .val (.int (10 : Int32)), .val (.int (13 : Int32)), .val (.int (13 : Int32)), .val (.int ((p2 >>> ((2 : Int32) &&& 31)).toInt8.toInt32)), .val (.int (10 : Int32)), .val (.int (3 : Int32)), .val (.ref b199), .val (.int sv), .val (.int (nar .boolean w5206)), .val (.int (nar .boolean w5207))] []))
            refine go (fun _ => XS.iconst X207.here hx rfl (hb hby d4_178)) ?_
            show Go _ p e below s _ _ _ (T207.setTop (mkF m 179 #[.val (.ref a1), .val (.int p2), .val (.int p3), .val (.int p4), .val (.int p5), .val (.int (p2 &&& (3 : Int32))), .val (.int ((p2 >>> ((2 : Int32) &&& 31)).toInt8.toInt32)), .val (.int (10 : Int32)), .val (.int (13 : Int32)), .val (.int (13 : Int32)), .val (.int ((p2 >>> ((2 : Int32) &&& 31)).toInt8.toInt32)), .val (.int (10 : Int32)), .val (.int (3 : Int32)), .val (.ref b199), .val (.int sv), .val (.int (nar .boolean w5206)), .val (.int (nar .boolean w5207))] [(.int (1 : Int32))]))
            refine go (fun _ => XS.goto X207.here hx rfl (pc0 := 179) (pc' := 183) rfl (hb hby d4_179) (by decide) (by decide)) ?_
            show Go _ p e below s _ _ _ (T207.setTop (mkF m 183 #[.val (.ref a1), .val (.int p2), .val (.int p3), .val (.int p4), .val (.int p5), .val (.int (p2 &&& (3 : Int32))), .val (.int ((p2 >>> ((2 : Int32) &&& 31)).toInt8.toInt32)), .val (.int (10 : Int32)), .val (.int (13 : Int32)), .val (.int (13 : Int32)), .val (.int ((p2 >>> ((2 : Int32) &&& 31)).toInt8.toInt32)), .val (.int (10 : Int32)), .val (.int (3 : Int32)), .val (.ref b199), .val (.int sv), .val (.int (nar .boolean w5206)), .val (.int (nar .boolean w5207))] [(.int (1 : Int32))]))
            refine goRet X207 hx Bd.notSynchronized Bd.returns rfl (Or.inl ⟨rfl, Or.inr (Or.inl rfl), _, rfl⟩) (hb hby d4_183) (by decide) (by decide) (by refine ⟨w1207, w2207, w3207, w4207, w5207, rfl, N207, KK207, u207_1, u207_2, u207_3, u207_4, u207_5, f1⟩)
theorem own_pre {n : Nat} (h : n ≤ 3) : own_run (fun j => [nar .byte (10 : Int32), nar .byte (10 : Int32), nar .byte (10 : Int32)].getD j 0) n 0 ((0 : Int32), (0 : Int32), (0 : Int32), (0 : Int32), (0 : Int32)) = (Int32.ofNat n, 0, 0, 0, 0) := by
  match n, h with
  | 0, _ => decide
  | 1, _ => decide
  | 2, _ => decide
  | 3, _ => decide
theorem own_m1 {kN mN : Nat} (hk : kN ≤ 3) (hm : mN < 65539) {w1 w2 w3 w4 w5 v1 v2 v3 v4 v5 u1 u2 u3 u4 u5 : Int32}
    (h1 : (w1, w2, w3, w4, w5) = own_run (fun j => [nar .byte (10 : Int32), nar .byte (10 : Int32), nar .byte (10 : Int32)].getD j 0) kN 0 ((0 : Int32), (0 : Int32), (0 : Int32), (0 : Int32), (0 : Int32)))
    (h2 : (v1, v2, v3, v4, v5) = own_run (fun _ => 0) mN 0 (w1, w2, w3, w4, w5)) (h3 : (u1, u2, u3, u4, u5) = own_run (fun _ => 0) (65538 - mN) mN (v1, v2, v3, v4, v5)) :
    w5 = 0 ∧ (kN + mN < 65537 → v5 = 0) ∧ (65537 ≤ kN + mN → v5 = 1) ∧ u5 = 1 := by
  rw [own_pre hk] at h1
  simp only [Prod.mk.injEq] at h1
  obtain ⟨rfl, rfl, rfl, rfl, rfl⟩ := h1
  have hk0 : (Int32.ofNat kN).toInt = (kN : Int) := Int32.toInt_ofNat_of_lt (by omega)
  obtain ⟨z1, z2⟩ := own_zeros mN 0 (Int32.ofNat kN) 0 0 kN hk0 (by omega)
  rw [← h2] at z1 z2
  refine ⟨rfl, fun q => (z1 q).2.2, z2, ?_⟩
  by_cases q : kN + mN < 65537
  · obtain ⟨a, b, c⟩ := z1 q
    simp only at a b c
    subst b c
    obtain ⟨-, y2⟩ := own_zeros (65538 - mN) mN v1 v2 v3 (kN + mN) a q
    rw [← h3] at y2
    exact y2 (by omega)
  · have c := z2 (by omega)
    simp only at c
    subst c
    rw [own_stick (by show ¬ (1 : Int32) = 0; decide)] at h3
    simp only [Prod.mk.injEq] at h3
    exact h3.2.2.2.2
theorem own_kmlt {k m : Int32} {a b : Nat} (hk : k.toInt = (a : Int)) (hm : m.toInt = (b : Int)) (ha : a ≤ 3) (hb : b < 65539) : (k + m < 65537) ↔ a + b < 65537 := by
  rw [Int32.lt_iff_toInt_lt, Jvm.Kit.i32_add (by omega) (by omega), hk, hm, show (65537 : Int32).toInt = 65537 from by decide]; omega
theorem pn_0 : plainName "com/example/dosisbog/dosisbog/HeadEndWholePinLaw" = true := by first | (simp [plainName, overriddenIn]; done) | decide +kernel
theorem pd_0_0 : parseMethodDescriptor "()V" = some ⟨[], none⟩ := by decide +kernel
theorem pd_0_1 : parseMethodDescriptor "(I)Z" = some ⟨[.int], some .boolean⟩ := by decide +kernel
theorem pd_0_2 : parseMethodDescriptor "(Lcom/example/dosisbog/dosisbog/HttpRequest$HeadEnd;IIZZ)Z" = some ⟨[(.object "com/example/dosisbog/dosisbog/HttpRequest$HeadEnd"), .int, .int, .boolean, .boolean], some .boolean⟩ := by decide +kernel
theorem pd_0_3 : parseMethodDescriptor "([BII)Z" = some ⟨[(.array .byte), .int, .int], some .boolean⟩ := by decide +kernel
theorem ef_0 (m : MethodId) (p1 : Int32) (p2 : Int32) (p3 : Int32) (p4 : Int32) (p5 : Int32) (p6 : Int32) : entryFrame m #[(.int p1), (.int p2), (.int p3), (.int p4), (.int p5), (.int p6)] maxLocals = mkF m 0 #[.val (.int p1), .val (.int p2), .val (.int p3), .val (.int p4), .val (.int p5), .val (.int p6), .unset, .unset, .unset, .unset, .unset, .unset, .unset, .unset, .unset, .unset] [] := by first | (simp [entryFrame, mkF, argsToLocals, Value.category, maxLocals]; done) | rfl
def Q0 (Z : State) (p1 : Int32) (p2 : Int32) (p3 : Int32) (p4 : Int32) (p5 : Int32) (p6 : Int32) (h0 : Heap) (n0 : Nat) (v : Option Value) (h : Heap) (L : List Loc) : Prop := v = some (.int (1 : Int32)) ∧ Fr n0 L
set_option maxRecDepth 65536 in
set_option maxHeartbeats 40000000 in
theorem rm0 (l : Launch) (Z : State) (a0 : Array Value) (hw : ∀ d ∈ tables_1, d.before a0 Z = true) (ws : List Jvm.Cond) (p1 : Int32) (p2 : Int32) (p3 : Int32) (p4 : Int32) (p5 : Int32) (p6 : Int32) (h0 : Heap) (n0 : Nat) (Z0 : n0 ≤ h0.size)  :
    MetFree l x (head1 (Jvm.Cond.code x code maxLocals ret :: ws) room_1) (fun a U => a = #[(.int p1), (.int p2), (.int p3), (.int p4), (.int p5), (.int p6)] ∧ Z.Warmed39 U.vm ∧ U.heap = h0) (fun _ _ _ _ _ => True) (fun _ U o U' => ∃ v L, o = .returned v ∧ Q0 Z p1 p2 p3 p4 p5 p6 h0 n0 v U'.heap L ∧ FrameEnd U o U' L room_1.cells room_1.slots) := by
  refine MetFree.of_bodySF (plainFor_of_name pn_0) hisR ?_
  intro p e s m args below meth c s₁ Bd hml0 hP hK
  obtain ⟨rfl, hZ, hh⟩ := hP
  have hx := Bd.exec
  have hby := Bd.bytes
  have hml : c.maxLocals = 16 := hml0
  have hown : s.vm.findClass "com/example/dosisbog/dosisbog/HeadEndWholePinLaw" = some m.cls := findClass_of_methodNamed Bd.named
  have hnm := (name_of_methodNamed Bd.named Bd.method).1
  have X0 : Stand p l e room_1 s m #[(.int p1), (.int p2), (.int p3), (.int p4), (.int p5), (.int p6)] below meth c s₁ [] 0 0 := Stand.of_body Bd
  have e0 : s₁.heap = h0 := by rw [← hh, Bd.state]; rfl
  have N0 := Fr.nil n0
  have hS0 : s.Since s.vm 0 := (State.WarmedH.refl s).since 0
  show Go FrameEnd p e below s room_1.cells room_1.slots (Q0 Z p1 p2 p3 p4 p5 p6 h0 n0) (s₁.setTop (entryFrame m #[(.int p1), (.int p2), (.int p3), (.int p4), (.int p5), (.int p6)] maxLocals))
  refine go (fun _ k => castTop (ef_0 m p1 p2 p3 p4 p5 p6) k) ?_
  show Go _ p e below s _ _ _ (s₁.setTop (mkF m 0 #[.val (.int p1), .val (.int p2), .val (.int p3), .val (.int p4), .val (.int p5), .val (.int p6), .unset, .unset, .unset, .unset, .unset, .unset, .unset, .unset, .unset, .unset] []))
  obtain ⟨T211, h211, X211, e211, E211, A211, D211, -, st211⟩ := newO X0 hx hZ hown (hw _ (List.mem_of_getElem? (i := 0) rfl)) (hw _ (List.mem_of_getElem? (i := 1) rfl)) (hw _ (List.mem_of_getElem? (i := 2) rfl)) e0 (g := (mkF m 0 #[.val (.int p1), .val (.int p2), .val (.int p3), .val (.int p4), .val (.int p5), .val (.int p6), .unset, .unset, .unset, .unset, .unset, .unset, .unset, .unset, .unset, .unset] [])) rfl (hb hby at_0) (by decide) (by decide)
  obtain ⟨b211, g211⟩ : ∃ z, z = h0.size := ⟨_, rfl⟩
  rw [← g211] at A211 D211 st211
  have G_b211 : n0 ≤ b211 := Nat.le_trans Z0 (Nat.le_of_eq g211.symm)
  have SZ_b211 : h0.size ≤ b211 := Nat.le_trans (Keep.refl h0 []).1 (Nat.le_of_eq g211.symm)
  have KK211 : Keep h0 h211 [] := (Keep.refl h0 []).ext E211
  have ZN211 : n0 ≤ h211.size := Nat.le_trans Z0 E211.1
  have F211_27 : Fld Z h211 b211 "com/example/dosisbog/dosisbog/HttpRequest$HeadEnd" "found" "Z" (.int (0 : Int32)) := D211 (Or.inl (hw _ (List.mem_of_getElem? (i := 27) rfl))) (ty := .boolean) (by decide)
  have F211_29 : Fld Z h211 b211 "com/example/dosisbog/dosisbog/HttpRequest$HeadEnd" "looked" "I" (.int (0 : Int32)) := D211 (Or.inl (hw _ (List.mem_of_getElem? (i := 29) rfl))) (ty := .int) (by decide)
  have F211_31 : Fld Z h211 b211 "com/example/dosisbog/dosisbog/HttpRequest$HeadEnd" "inLine" "I" (.int (0 : Int32)) := D211 (Or.inl (hw _ (List.mem_of_getElem? (i := 31) rfl))) (ty := .int) (by decide)
  have F211_33 : Fld Z h211 b211 "com/example/dosisbog/dosisbog/HttpRequest$HeadEnd" "carriageReturn" "Z" (.int (0 : Int32)) := D211 (Or.inl (hw _ (List.mem_of_getElem? (i := 33) rfl))) (ty := .boolean) (by decide)
  have F211_36 : Fld Z h211 b211 "com/example/dosisbog/dosisbog/HttpRequest$HeadEnd" "requestLine" "Z" (.int (0 : Int32)) := D211 (Or.inl (hw _ (List.mem_of_getElem? (i := 36) rfl))) (ty := .boolean) (by decide)
  refine go st211 ?_
  show Go _ p e below s _ _ _ (T211.setTop (mkF m 3 #[.val (.int p1), .val (.int p2), .val (.int p3), .val (.int p4), .val (.int p5), .val (.int p6), .unset, .unset, .unset, .unset, .unset, .unset, .unset, .unset, .unset, .unset] [(.ref b211)]))
  refine go (fun _ => XS.dup X211.here hx rfl (hb hby at_3) rfl rfl) ?_
  show Go _ p e below s _ _ _ (T211.setTop (mkF m 4 #[.val (.int p1), .val (.int p2), .val (.int p3), .val (.int p4), .val (.int p5), .val (.int p6), .unset, .unset, .unset, .unset, .unset, .unset, .unset, .unset, .unset, .unset] [(.ref b211), (.ref b211)]))
  obtain ⟨_, _, ⟨T212, L212, k212, n212⟩, -, X212, ⟨Lc212, hQ212, l212, y212, z212⟩, st212⟩ := X211.specialBack hx (y := (⟨"com/example/dosisbog/dosisbog/HttpRequest$HeadEnd", "<init>", "()V"⟩ : MethodName)) rfl hown (mvT hZ (hw _ (List.mem_of_getElem? (i := 3) rfl))) (mvT hZ (hw _ (List.mem_of_getElem? (i := 4) rfl))) (mvT hZ (hw _ (List.mem_of_getElem? (i := 5) rfl))) (by decide) (backOf (W := 1) (rm1 l Z a0 hw [] b211 h211 n0 ZN211 ) hZ (hw _ (List.mem_of_getElem? (i := 5) rfl)) (hw _ (List.mem_of_getElem? (i := 2) rfl)) (by decide) (by decide)) (g := (mkF m 4 #[.val (.int p1), .val (.int p2), .val (.int p3), .val (.int p4), .val (.int p5), .val (.int p6), .unset, .unset, .unset, .unset, .unset, .unset, .unset, .unset, .unset, .unset] [(.ref b211), (.ref b211)])) rfl (by rw [hml]; rfl) (Steps.refl _) (a := b211) (argsL := []) (rest := [(.ref b211)]) (lenOf pd_0_0 rfl) rfl (by show 2 * 0 + _ ≤ _; exact Nat.le_of_eq rfl) (hb hby at_4) (fun _ _ => ⟨rfl, e211, (by decide : 1 + 0 ≤ _), (by decide : 5 + 0 ≤ _)⟩)
  dsimp only [Pt.U, Pt.locs, Pt.cells, Pt.slots] at X212 l212 y212 z212 st212 hQ212
  subst l212 y212 z212
  obtain ⟨rfl, N212q, e212⟩ := hQ212
  have N212 := Fr.app N0 N212q
  refine goT st212 ?_
  show Go _ p e below s _ _ _ (T212.setTop (mkF m 7 #[.val (.int p1), .val (.int p2), .val (.int p3), .val (.int p4), .val (.int p5), .val (.int p6), .unset, .unset, .unset, .unset, .unset, .unset, .unset, .unset, .unset, .unset] [(.ref b211)]))
  refine go (fun _ => XS.astore X212.here hx rfl (hb hby at_7) rfl rfl (l' := #[.val (.int p1), .val (.int p2), .val (.int p3), .val (.int p4), .val (.int p5), .val (.int p6), .val (.ref b211), .unset, .unset, .unset, .unset, .unset, .unset, .unset, .unset, .unset]) rfl) ?_
  show Go _ p e below s _ _ _ (T212.setTop (mkF m 9 #[.val (.int p1), .val (.int p2), .val (.int p3), .val (.int p4), .val (.int p5), .val (.int p6), .val (.ref b211), .unset, .unset, .unset, .unset, .unset, .unset, .unset, .unset, .unset] []))
  refine go (fun _ => XS.iloadN X212.here hx rfl (hb hby at_9) rfl) ?_
  show Go _ p e below s _ _ _ (T212.setTop (mkF m 10 #[.val (.int p1), .val (.int p2), .val (.int p3), .val (.int p4), .val (.int p5), .val (.int p6), .val (.ref b211), .unset, .unset, .unset, .unset, .unset, .unset, .unset, .unset, .unset] [(.int p1)]))
  refine go (fun _ => XS.iconst X212.here hx rfl (hb hby at_10)) ?_
  show Go _ p e below s _ _ _ (T212.setTop (mkF m 11 #[.val (.int p1), .val (.int p2), .val (.int p3), .val (.int p4), .val (.int p5), .val (.int p6), .val (.ref b211), .unset, .unset, .unset, .unset, .unset, .unset, .unset, .unset, .unset] [(.int (1 : Int32)), (.int p1)]))
  refine go (fun _ => XS.iand X212.here hx rfl (hb hby at_11) rfl) ?_
  show Go _ p e below s _ _ _ (T212.setTop (mkF m 12 #[.val (.int p1), .val (.int p2), .val (.int p3), .val (.int p4), .val (.int p5), .val (.int p6), .val (.ref b211), .unset, .unset, .unset, .unset, .unset, .unset, .unset, .unset, .unset] [(.int (p1 &&& (1 : Int32)))]))
  by_cases hc12_213 : (p1 &&& (1 : Int32)) = (0 : Int32)
  · refine go (fun _ => XS.ifYes X212.here hx rfl (pc0 := 12) (pc' := 142) rfl (hb hby at_12) rfl ((if0 _ _).trans (teq hc12_213).1) (by decide) (by decide)) ?_
    show Go _ p e below s _ _ _ (T212.setTop (mkF m 142 #[.val (.int p1), .val (.int p2), .val (.int p3), .val (.int p4), .val (.int p5), .val (.int p6), .val (.ref b211), .unset, .unset, .unset, .unset, .unset, .unset, .unset, .unset, .unset] []))
    refine go (fun _ => XS.iconst X212.here hx rfl (hb hby at_142)) ?_
    show Go _ p e below s _ _ _ (T212.setTop (mkF m 143 #[.val (.int p1), .val (.int p2), .val (.int p3), .val (.int p4), .val (.int p5), .val (.int p6), .val (.ref b211), .unset, .unset, .unset, .unset, .unset, .unset, .unset, .unset, .unset] [(.int (0 : Int32))]))
    refine go (fun _ => XS.istore X212.here hx rfl (hb hby at_143) rfl (l' := #[.val (.int p1), .val (.int p2), .val (.int p3), .val (.int p4), .val (.int p5), .val (.int p6), .val (.ref b211), .val (.int (0 : Int32)), .unset, .unset, .unset, .unset, .unset, .unset, .unset, .unset]) rfl) ?_
    show Go _ p e below s _ _ _ (T212.setTop (mkF m 145 #[.val (.int p1), .val (.int p2), .val (.int p3), .val (.int p4), .val (.int p5), .val (.int p6), .val (.ref b211), .val (.int (0 : Int32)), .unset, .unset, .unset, .unset, .unset, .unset, .unset, .unset] []))
    refine go (fun _ => XS.iconst X212.here hx rfl (hb hby at_145)) ?_
    show Go _ p e below s _ _ _ (T212.setTop (mkF m 146 #[.val (.int p1), .val (.int p2), .val (.int p3), .val (.int p4), .val (.int p5), .val (.int p6), .val (.ref b211), .val (.int (0 : Int32)), .unset, .unset, .unset, .unset, .unset, .unset, .unset, .unset] [(.int (0 : Int32))]))
    refine go (fun _ => XS.istore X212.here hx rfl (hb hby at_146) rfl (l' := #[.val (.int p1), .val (.int p2), .val (.int p3), .val (.int p4), .val (.int p5), .val (.int p6), .val (.ref b211), .val (.int (0 : Int32)), .val (.int (0 : Int32)), .unset, .unset, .unset, .unset, .unset, .unset, .unset]) rfl) ?_
    show Go _ p e below s _ _ _ (T212.setTop (mkF m 148 #[.val (.int p1), .val (.int p2), .val (.int p3), .val (.int p4), .val (.int p5), .val (.int p6), .val (.ref b211), .val (.int (0 : Int32)), .val (.int (0 : Int32)), .unset, .unset, .unset, .unset, .unset, .unset, .unset] []))
    refine go (fun _ => XS.iconst X212.here hx rfl (hb hby at_148)) ?_
    show Go _ p e below s _ _ _ (T212.setTop (mkF m 149 #[.val (.int p1), .val (.int p2), .val (.int p3), .val (.int p4), .val (.int p5), .val (.int p6), .val (.ref b211), .val (.int (0 : Int32)), .val (.int (0 : Int32)), .unset, .unset, .unset, .unset, .unset, .unset, .unset] [(.int (1 : Int32))]))
    refine go (fun _ => XS.istore X212.here hx rfl (hb hby at_149) rfl (l' := #[.val (.int p1), .val (.int p2), .val (.int p3), .val (.int p4), .val (.int p5), .val (.int p6), .val (.ref b211), .val (.int (0 : Int32)), .val (.int (0 : Int32)), .val (.int (1 : Int32)), .unset, .unset, .unset, .unset, .unset, .unset]) rfl) ?_
    show Go _ p e below s _ _ _ (T212.setTop (mkF m 151 #[.val (.int p1), .val (.int p2), .val (.int p3), .val (.int p4), .val (.int p5), .val (.int p6), .val (.ref b211), .val (.int (0 : Int32)), .val (.int (0 : Int32)), .val (.int (1 : Int32)), .unset, .unset, .unset, .unset, .unset, .unset] []))
    refine go (fun _ => XS.iloadN X212.here hx rfl (hb hby at_151) rfl) ?_
    show Go _ p e below s _ _ _ (T212.setTop (mkF m 152 #[.val (.int p1), .val (.int p2), .val (.int p3), .val (.int p4), .val (.int p5), .val (.int p6), .val (.ref b211), .val (.int (0 : Int32)), .val (.int (0 : Int32)), .val (.int (1 : Int32)), .unset, .unset, .unset, .unset, .unset, .unset] [(.int p2)]))
    obtain ⟨_, _, ⟨T214, L214, k214, n214⟩, -, X214, ⟨Lc214, hQ214, l214, y214, z214⟩, st214⟩ := Jvm.LawKit.callS X212 hx (y := (⟨"com/example/dosisbog/dosisbog/HeadEndWholePinLaw", "empty", "(I)Z"⟩ : MethodName)) hown (mvT hZ (hw _ (List.mem_of_getElem? (i := 9) rfl))) (mvT hZ (hw _ (List.mem_of_getElem? (i := 10) rfl))) (mvT hZ (hw _ (List.mem_of_getElem? (i := 11) rfl))) (mvT hZ (hw _ (List.mem_of_getElem? (i := 12) rfl))) (by decide) (backOf (W := 0) (rm3 l Z a0 hw [] p2 h211 n0 ZN211 ) hZ (hw _ (List.mem_of_getElem? (i := 12) rfl)) (hw _ (List.mem_of_getElem? (i := 11) rfl)) (by decide) (by decide)) (g := (mkF m 152 #[.val (.int p1), .val (.int p2), .val (.int p3), .val (.int p4), .val (.int p5), .val (.int p6), .val (.ref b211), .val (.int (0 : Int32)), .val (.int (0 : Int32)), .val (.int (1 : Int32)), .unset, .unset, .unset, .unset, .unset, .unset] [(.int p2)])) rfl (by rw [hml]; rfl) (argsL := [(.int p2)]) (rest := []) (lenOf pd_0_1 rfl) rfl (by show 2 * 0 + _ ≤ _; exact Nat.le_of_eq rfl) (hb hby at_152) (fun _ _ => ⟨rfl, e212, (by decide : 1 + 0 ≤ _), (by decide : 5 + 0 ≤ _)⟩)
    dsimp only [Pt.U, Pt.locs, Pt.cells, Pt.slots] at X214 l214 y214 z214 st214 hQ214
    subst l214 y214 z214
    obtain ⟨rfl, N214q, e214⟩ := hQ214
    have N214 := Fr.app N212 N214q
    refine go st214 ?_
    show Go _ p e below s _ _ _ (T214.setTop (mkF m 155 #[.val (.int p1), .val (.int p2), .val (.int p3), .val (.int p4), .val (.int p5), .val (.int p6), .val (.ref b211), .val (.int (0 : Int32)), .val (.int (0 : Int32)), .val (.int (1 : Int32)), .unset, .unset, .unset, .unset, .unset, .unset] [(.int (own_emp (p2 &&& (3 : Int32)) ((p2 >>> ((2 : Int32) &&& 31)) &&& (255 : Int32))))]))
    refine go (fun _ => XS.istore X214.here hx rfl (hb hby at_155) rfl (l' := #[.val (.int p1), .val (.int p2), .val (.int p3), .val (.int p4), .val (.int p5), .val (.int p6), .val (.ref b211), .val (.int (0 : Int32)), .val (.int (0 : Int32)), .val (.int (1 : Int32)), .val (.int (own_emp (p2 &&& (3 : Int32)) ((p2 >>> ((2 : Int32) &&& 31)) &&& (255 : Int32)))), .unset, .unset, .unset, .unset, .unset]) rfl) ?_
    show Go _ p e below s _ _ _ (T214.setTop (mkF m 157 #[.val (.int p1), .val (.int p2), .val (.int p3), .val (.int p4), .val (.int p5), .val (.int p6), .val (.ref b211), .val (.int (0 : Int32)), .val (.int (0 : Int32)), .val (.int (1 : Int32)), .val (.int (own_emp (p2 &&& (3 : Int32)) ((p2 >>> ((2 : Int32) &&& 31)) &&& (255 : Int32)))), .unset, .unset, .unset, .unset, .unset] []))
    generalize he0 : (own_emp (p2 &&& (3 : Int32)) ((p2 >>> ((2 : Int32) &&& 31)) &&& (255 : Int32))) = e0
    show Go _ p e below s _ _ _ (T214.setTop (mkF m 157 #[.val (.int p1), .val (.int p2), .val (.int p3), .val (.int p4), .val (.int p5), .val (.int p6), .val (.ref b211), .val (.int (0 : Int32)), .val (.int (0 : Int32)), .val (.int (1 : Int32)), .val (.int e0), .unset, .unset, .unset, .unset, .unset] []))
    have JF0 : ∀ (f0 : Int32), (f0 = own_fd (0 : Int32) e0 (0 : Int32)) → Go FrameEnd p e below s room_1.cells room_1.slots (Q0 Z p1 p2 p3 p4 p5 p6 h0 n0) (T214.setTop (mkF m 177 #[.val (.int p1), .val (.int p2), .val (.int p3), .val (.int p4), .val (.int p5), .val (.int p6), .val (.ref b211), .val (.int (0 : Int32)), .val (.int (0 : Int32)), .val (.int (1 : Int32)), .val (.int e0), .unset, .unset, .unset, .unset, .unset] [(.int f0)])) := by
      intro f0 hf0
      show Go _ p e below s _ _ _ (T214.setTop (mkF m 177 #[.val (.int p1), .val (.int p2), .val (.int p3), .val (.int p4), .val (.int p5), .val (.int p6), .val (.ref b211), .val (.int (0 : Int32)), .val (.int (0 : Int32)), .val (.int (1 : Int32)), .val (.int e0), .unset, .unset, .unset, .unset, .unset] [(.int f0)]))
      refine go (fun _ => XS.istore X214.here hx rfl (hb hby at_177) rfl (l' := #[.val (.int p1), .val (.int p2), .val (.int p3), .val (.int p4), .val (.int p5), .val (.int p6), .val (.ref b211), .val (.int (0 : Int32)), .val (.int (0 : Int32)), .val (.int (1 : Int32)), .val (.int e0), .val (.int f0), .unset, .unset, .unset, .unset]) rfl) ?_
      show Go _ p e below s _ _ _ (T214.setTop (mkF m 179 #[.val (.int p1), .val (.int p2), .val (.int p3), .val (.int p4), .val (.int p5), .val (.int p6), .val (.ref b211), .val (.int (0 : Int32)), .val (.int (0 : Int32)), .val (.int (1 : Int32)), .val (.int e0), .val (.int f0), .unset, .unset, .unset, .unset] []))
      refine go (fun _ => XS.iload X214.here hx rfl (hb hby at_179) rfl) ?_
      show Go _ p e below s _ _ _ (T214.setTop (mkF m 181 #[.val (.int p1), .val (.int p2), .val (.int p3), .val (.int p4), .val (.int p5), .val (.int p6), .val (.ref b211), .val (.int (0 : Int32)), .val (.int (0 : Int32)), .val (.int (1 : Int32)), .val (.int e0), .val (.int f0), .unset, .unset, .unset, .unset] [(.int (1 : Int32))]))
      refine go (fun _ => XS.ifNo X214.here hx rfl (hb hby at_181) rfl ((if0 _ _).trans (feq (by decide : ¬ ((1 : Int32) = (0 : Int32)))).1)) ?_
      show Go _ p e below s _ _ _ (T214.setTop (mkF m 184 #[.val (.int p1), .val (.int p2), .val (.int p3), .val (.int p4), .val (.int p5), .val (.int p6), .val (.ref b211), .val (.int (0 : Int32)), .val (.int (0 : Int32)), .val (.int (1 : Int32)), .val (.int e0), .val (.int f0), .unset, .unset, .unset, .unset] []))
      refine go (fun _ => XS.aload X214.here hx rfl (hb hby at_184) rfl rfl) ?_
      show Go _ p e below s _ _ _ (T214.setTop (mkF m 186 #[.val (.int p1), .val (.int p2), .val (.int p3), .val (.int p4), .val (.int p5), .val (.int p6), .val (.ref b211), .val (.int (0 : Int32)), .val (.int (0 : Int32)), .val (.int (1 : Int32)), .val (.int e0), .val (.int f0), .unset, .unset, .unset, .unset] [(.ref b211)]))
      refine go (fun _ => XS.iloadN X214.here hx rfl (hb hby at_186) rfl) ?_
      show Go _ p e below s _ _ _ (T214.setTop (mkF m 187 #[.val (.int p1), .val (.int p2), .val (.int p3), .val (.int p4), .val (.int p5), .val (.int p6), .val (.ref b211), .val (.int (0 : Int32)), .val (.int (0 : Int32)), .val (.int (1 : Int32)), .val (.int e0), .val (.int f0), .unset, .unset, .unset, .unset] [(.int p2), (.ref b211)]))
      refine go (fun _ => XS.iload X214.here hx rfl (hb hby at_187) rfl) ?_
      show Go _ p e below s _ _ _ (T214.setTop (mkF m 189 #[.val (.int p1), .val (.int p2), .val (.int p3), .val (.int p4), .val (.int p5), .val (.int p6), .val (.ref b211), .val (.int (0 : Int32)), .val (.int (0 : Int32)), .val (.int (1 : Int32)), .val (.int e0), .val (.int f0), .unset, .unset, .unset, .unset] [(.int p6), (.int p2), (.ref b211)]))
      refine go (fun _ => XS.iconst X214.here hx rfl (hb hby at_189)) ?_
      show Go _ p e below s _ _ _ (T214.setTop (mkF m 190 #[.val (.int p1), .val (.int p2), .val (.int p3), .val (.int p4), .val (.int p5), .val (.int p6), .val (.ref b211), .val (.int (0 : Int32)), .val (.int (0 : Int32)), .val (.int (1 : Int32)), .val (.int e0), .val (.int f0), .unset, .unset, .unset, .unset] [(.int (3 : Int32)), (.int p6), (.int p2), (.ref b211)]))
      refine go (fun _ => XS.iand X214.here hx rfl (hb hby at_190) rfl) ?_
      show Go _ p e below s _ _ _ (T214.setTop (mkF m 191 #[.val (.int p1), .val (.int p2), .val (.int p3), .val (.int p4), .val (.int p5), .val (.int p6), .val (.ref b211), .val (.int (0 : Int32)), .val (.int (0 : Int32)), .val (.int (1 : Int32)), .val (.int e0), .val (.int f0), .unset, .unset, .unset, .unset] [(.int (p6 &&& (3 : Int32))), (.int p2), (.ref b211)]))
      refine go (fun _ => XS.iload X214.here hx rfl (hb hby at_191) rfl) ?_
      show Go _ p e below s _ _ _ (T214.setTop (mkF m 193 #[.val (.int p1), .val (.int p2), .val (.int p3), .val (.int p4), .val (.int p5), .val (.int p6), .val (.ref b211), .val (.int (0 : Int32)), .val (.int (0 : Int32)), .val (.int (1 : Int32)), .val (.int e0), .val (.int f0), .unset, .unset, .unset, .unset] [(.int (0 : Int32)), (.int (p6 &&& (3 : Int32))), (.int p2), (.ref b211)]))
      refine go (fun _ => XS.iload X214.here hx rfl (hb hby at_193) rfl) ?_
      show Go _ p e below s _ _ _ (T214.setTop (mkF m 195 #[.val (.int p1), .val (.int p2), .val (.int p3), .val (.int p4), .val (.int p5), .val (.int p6), .val (.ref b211), .val (.int (0 : Int32)), .val (.int (0 : Int32)), .val (.int (1 : Int32)), .val (.int e0), .val (.int f0), .unset, .unset, .unset, .unset] [(.int f0), (.int (0 : Int32)), (.int (p6 &&& (3 : Int32))), (.int p2), (.ref b211)]))
      obtain ⟨sp0, hsp0, -⟩ := own_and3 p6
      obtain ⟨_, _, ⟨T215, L215, k215, n215⟩, -, X215, ⟨Lc215, hQ215, l215, y215, z215⟩, st215⟩ := Jvm.LawKit.callS X214 hx (y := (⟨"com/example/dosisbog/dosisbog/HeadEndWholePinLaw", "feed", "(Lcom/example/dosisbog/dosisbog/HttpRequest$HeadEnd;IIZZ)Z"⟩ : MethodName)) hown (mvT hZ (hw _ (List.mem_of_getElem? (i := 13) rfl))) (mvT hZ (hw _ (List.mem_of_getElem? (i := 14) rfl))) (mvT hZ (hw _ (List.mem_of_getElem? (i := 11) rfl))) (mvT hZ (hw _ (List.mem_of_getElem? (i := 15) rfl))) (by decide) (backOf (W := 0) (rm4 l Z a0 hw [] b211 p2 (p6 &&& (3 : Int32)) (0 : Int32) f0 (0 : Int32) (0 : Int32) (0 : Int32) (0 : Int32) (0 : Int32) (0 : Int32) (0 : Int32) 0 sp0 h211 n0 ZN211 A211 G_b211 F211_29 F211_31 F211_33 F211_36 F211_27 (show own_inv (0, 0, 0, 0, 0) 0 0 0 from ⟨rfl, Or.inl rfl, Or.inl rfl, fun _ => ⟨rfl, rfl, by decide, by decide⟩⟩) (by decide) hsp0 rfl (by rw [he0]; exact hf0)) hZ (hw _ (List.mem_of_getElem? (i := 15) rfl)) (hw _ (List.mem_of_getElem? (i := 11) rfl)) (by decide) (by decide)) (g := (mkF m 195 #[.val (.int p1), .val (.int p2), .val (.int p3), .val (.int p4), .val (.int p5), .val (.int p6), .val (.ref b211), .val (.int (0 : Int32)), .val (.int (0 : Int32)), .val (.int (1 : Int32)), .val (.int e0), .val (.int f0), .unset, .unset, .unset, .unset] [(.int f0), (.int (0 : Int32)), (.int (p6 &&& (3 : Int32))), (.int p2), (.ref b211)])) rfl (by rw [hml]; rfl) (argsL := [(.ref b211), (.int p2), (.int (p6 &&& (3 : Int32))), (.int (0 : Int32)), (.int f0)]) (rest := []) (lenOf pd_0_2 rfl) rfl (by show 2 * 0 + _ ≤ _; exact Nat.le_of_eq rfl) (hb hby at_195) (fun _ _ => ⟨rfl, e214, (by decide : 1 + 1 ≤ _), (by decide : 5 + 5 ≤ _)⟩)
      dsimp only [Pt.U, Pt.locs, Pt.cells, Pt.slots] at X215 l215 y215 z215 st215 hQ215
      subst l215 y215 z215
      obtain ⟨w1215, w2215, w3215, w4215, w5215, rfl, N215q, K215, u215_1, u215_2, u215_3, u215_4, u215_5, u215_6⟩ := hQ215
      have N215 := Fr.app N214 N215q
      have c215_0 := A211.keep K215
      have KK215 : Keep h0 T215.heap [] := KK211.trans K215 (allS (P := fun x => x ∈ [] ∨ h0.size ≤ x) (Or.inr SZ_b211) all0)
      have ZN215 : n0 ≤ T215.heap.size := Nat.le_trans ZN211 K215.1
      refine go st215 ?_
      show Go _ p e below s _ _ _ (T215.setTop (mkF m 198 #[.val (.int p1), .val (.int p2), .val (.int p3), .val (.int p4), .val (.int p5), .val (.int p6), .val (.ref b211), .val (.int (0 : Int32)), .val (.int (0 : Int32)), .val (.int (1 : Int32)), .val (.int e0), .val (.int f0), .unset, .unset, .unset, .unset] [(.int (1 : Int32))]))
      refine go (fun _ => XS.ifNo X215.here hx rfl (hb hby at_198) rfl ((if0 _ _).trans (feq (by decide : ¬ ((1 : Int32) = (0 : Int32)))).1)) ?_
      show Go _ p e below s _ _ _ (T215.setTop (mkF m 201 #[.val (.int p1), .val (.int p2), .val (.int p3), .val (.int p4), .val (.int p5), .val (.int p6), .val (.ref b211), .val (.int (0 : Int32)), .val (.int (0 : Int32)), .val (.int (1 : Int32)), .val (.int e0), .val (.int f0), .unset, .unset, .unset, .unset] []))
      refine go (fun _ => XS.iconst X215.here hx rfl (hb hby at_201)) ?_
      show Go _ p e below s _ _ _ (T215.setTop (mkF m 202 #[.val (.int p1), .val (.int p2), .val (.int p3), .val (.int p4), .val (.int p5), .val (.int p6), .val (.ref b211), .val (.int (0 : Int32)), .val (.int (0 : Int32)), .val (.int (1 : Int32)), .val (.int e0), .val (.int f0), .unset, .unset, .unset, .unset] [(.int (1 : Int32))]))
      refine go (fun _ => XS.goto X215.here hx rfl (pc0 := 202) (pc' := 206) rfl (hb hby at_202) (by decide) (by decide)) ?_
      show Go _ p e below s _ _ _ (T215.setTop (mkF m 206 #[.val (.int p1), .val (.int p2), .val (.int p3), .val (.int p4), .val (.int p5), .val (.int p6), .val (.ref b211), .val (.int (0 : Int32)), .val (.int (0 : Int32)), .val (.int (1 : Int32)), .val (.int e0), .val (.int f0), .unset, .unset, .unset, .unset] [(.int (1 : Int32))]))
      refine go (fun _ => XS.istore X215.here hx rfl (hb hby at_206) rfl (l' := #[.val (.int p1), .val (.int p2), .val (.int p3), .val (.int p4), .val (.int p5), .val (.int p6), .val (.ref b211), .val (.int (0 : Int32)), .val (.int (0 : Int32)), .val (.int (1 : Int32)), .val (.int e0), .val (.int f0), .unset, .unset, .unset, .unset]) rfl) ?_
      show Go _ p e below s _ _ _ (T215.setTop (mkF m 208 #[.val (.int p1), .val (.int p2), .val (.int p3), .val (.int p4), .val (.int p5), .val (.int p6), .val (.ref b211), .val (.int (0 : Int32)), .val (.int (0 : Int32)), .val (.int (1 : Int32)), .val (.int e0), .val (.int f0), .unset, .unset, .unset, .unset] []))
      refine go (fun _ => XS.iload X215.here hx rfl (hb hby at_208) rfl) ?_
      show Go _ p e below s _ _ _ (T215.setTop (mkF m 210 #[.val (.int p1), .val (.int p2), .val (.int p3), .val (.int p4), .val (.int p5), .val (.int p6), .val (.ref b211), .val (.int (0 : Int32)), .val (.int (0 : Int32)), .val (.int (1 : Int32)), .val (.int e0), .val (.int f0), .unset, .unset, .unset, .unset] [(.int f0)]))
      refine go (fun _ => XS.istore X215.here hx rfl (hb hby at_210) rfl (l' := #[.val (.int p1), .val (.int p2), .val (.int p3), .val (.int p4), .val (.int p5), .val (.int p6), .val (.ref b211), .val (.int (0 : Int32)), .val (.int f0), .val (.int (1 : Int32)), .val (.int e0), .val (.int f0), .unset, .unset, .unset, .unset]) rfl) ?_
      show Go _ p e below s _ _ _ (T215.setTop (mkF m 212 #[.val (.int p1), .val (.int p2), .val (.int p3), .val (.int p4), .val (.int p5), .val (.int p6), .val (.ref b211), .val (.int (0 : Int32)), .val (.int f0), .val (.int (1 : Int32)), .val (.int e0), .val (.int f0), .unset, .unset, .unset, .unset] []))
      have JQ0 : ∀ (q0 : Int32), (q0 = own_rq (0 : Int32) e0) → Go FrameEnd p e below s room_1.cells room_1.slots (Q0 Z p1 p2 p3 p4 p5 p6 h0 n0) (T215.setTop (mkF m 227 #[.val (.int p1), .val (.int p2), .val (.int p3), .val (.int p4), .val (.int p5), .val (.int p6), .val (.ref b211), .val (.int (0 : Int32)), .val (.int f0), .val (.int (1 : Int32)), .val (.int e0), .val (.int f0), .unset, .unset, .unset, .unset] [(.int q0)])) := by
        intro q0 hq0
        show Go _ p e below s _ _ _ (T215.setTop (mkF m 227 #[.val (.int p1), .val (.int p2), .val (.int p3), .val (.int p4), .val (.int p5), .val (.int p6), .val (.ref b211), .val (.int (0 : Int32)), .val (.int f0), .val (.int (1 : Int32)), .val (.int e0), .val (.int f0), .unset, .unset, .unset, .unset] [(.int q0)]))
        refine go (fun _ => XS.istore X215.here hx rfl (hb hby at_227) rfl (l' := #[.val (.int p1), .val (.int p2), .val (.int p3), .val (.int p4), .val (.int p5), .val (.int p6), .val (.ref b211), .val (.int q0), .val (.int f0), .val (.int (1 : Int32)), .val (.int e0), .val (.int f0), .unset, .unset, .unset, .unset]) rfl) ?_
        show Go _ p e below s _ _ _ (T215.setTop (mkF m 229 #[.val (.int p1), .val (.int p2), .val (.int p3), .val (.int p4), .val (.int p5), .val (.int p6), .val (.ref b211), .val (.int q0), .val (.int f0), .val (.int (1 : Int32)), .val (.int e0), .val (.int f0), .unset, .unset, .unset, .unset] []))
        refine go (fun _ => XS.iloadN X215.here hx rfl (hb hby at_229) rfl) ?_
        show Go _ p e below s _ _ _ (T215.setTop (mkF m 230 #[.val (.int p1), .val (.int p2), .val (.int p3), .val (.int p4), .val (.int p5), .val (.int p6), .val (.ref b211), .val (.int q0), .val (.int f0), .val (.int (1 : Int32)), .val (.int e0), .val (.int f0), .unset, .unset, .unset, .unset] [(.int p3)]))
        obtain ⟨_, _, ⟨T216, L216, k216, n216⟩, -, X216, ⟨Lc216, hQ216, l216, y216, z216⟩, st216⟩ := Jvm.LawKit.callS X215 hx (y := (⟨"com/example/dosisbog/dosisbog/HeadEndWholePinLaw", "empty", "(I)Z"⟩ : MethodName)) hown (mvT hZ (hw _ (List.mem_of_getElem? (i := 9) rfl))) (mvT hZ (hw _ (List.mem_of_getElem? (i := 10) rfl))) (mvT hZ (hw _ (List.mem_of_getElem? (i := 11) rfl))) (mvT hZ (hw _ (List.mem_of_getElem? (i := 12) rfl))) (by decide) (backOf (W := 0) (rm3 l Z a0 hw [] p3 (T215.heap) n0 ZN215 ) hZ (hw _ (List.mem_of_getElem? (i := 12) rfl)) (hw _ (List.mem_of_getElem? (i := 11) rfl)) (by decide) (by decide)) (g := (mkF m 230 #[.val (.int p1), .val (.int p2), .val (.int p3), .val (.int p4), .val (.int p5), .val (.int p6), .val (.ref b211), .val (.int q0), .val (.int f0), .val (.int (1 : Int32)), .val (.int e0), .val (.int f0), .unset, .unset, .unset, .unset] [(.int p3)])) rfl (by rw [hml]; rfl) (argsL := [(.int p3)]) (rest := []) (lenOf pd_0_1 rfl) rfl (by show 2 * 0 + _ ≤ _; exact Nat.le_of_eq rfl) (hb hby at_230) (fun _ _ => ⟨rfl, rfl, (by decide : 2 + 0 ≤ _), (by decide : 10 + 0 ≤ _)⟩)
        dsimp only [Pt.U, Pt.locs, Pt.cells, Pt.slots] at X216 l216 y216 z216 st216 hQ216
        subst l216 y216 z216
        obtain ⟨rfl, N216q, e216⟩ := hQ216
        have N216 := Fr.app N215 N216q
        refine go st216 ?_
        show Go _ p e below s _ _ _ (T216.setTop (mkF m 233 #[.val (.int p1), .val (.int p2), .val (.int p3), .val (.int p4), .val (.int p5), .val (.int p6), .val (.ref b211), .val (.int q0), .val (.int f0), .val (.int (1 : Int32)), .val (.int e0), .val (.int f0), .unset, .unset, .unset, .unset] [(.int (own_emp (p3 &&& (3 : Int32)) ((p3 >>> ((2 : Int32) &&& 31)) &&& (255 : Int32))))]))
        refine go (fun _ => XS.istore X216.here hx rfl (hb hby at_233) rfl (l' := #[.val (.int p1), .val (.int p2), .val (.int p3), .val (.int p4), .val (.int p5), .val (.int p6), .val (.ref b211), .val (.int q0), .val (.int f0), .val (.int (1 : Int32)), .val (.int (own_emp (p3 &&& (3 : Int32)) ((p3 >>> ((2 : Int32) &&& 31)) &&& (255 : Int32)))), .val (.int f0), .unset, .unset, .unset, .unset]) rfl) ?_
        show Go _ p e below s _ _ _ (T216.setTop (mkF m 235 #[.val (.int p1), .val (.int p2), .val (.int p3), .val (.int p4), .val (.int p5), .val (.int p6), .val (.ref b211), .val (.int q0), .val (.int f0), .val (.int (1 : Int32)), .val (.int (own_emp (p3 &&& (3 : Int32)) ((p3 >>> ((2 : Int32) &&& 31)) &&& (255 : Int32)))), .val (.int f0), .unset, .unset, .unset, .unset] []))
        generalize he1 : (own_emp (p3 &&& (3 : Int32)) ((p3 >>> ((2 : Int32) &&& 31)) &&& (255 : Int32))) = e1
        show Go _ p e below s _ _ _ (T216.setTop (mkF m 235 #[.val (.int p1), .val (.int p2), .val (.int p3), .val (.int p4), .val (.int p5), .val (.int p6), .val (.ref b211), .val (.int q0), .val (.int f0), .val (.int (1 : Int32)), .val (.int e1), .val (.int f0), .unset, .unset, .unset, .unset] []))
        have JF1 : ∀ (f1 : Int32), (f1 = own_fd f0 e1 q0) → Go FrameEnd p e below s room_1.cells room_1.slots (Q0 Z p1 p2 p3 p4 p5 p6 h0 n0) (T216.setTop (mkF m 255 #[.val (.int p1), .val (.int p2), .val (.int p3), .val (.int p4), .val (.int p5), .val (.int p6), .val (.ref b211), .val (.int q0), .val (.int f0), .val (.int (1 : Int32)), .val (.int e1), .val (.int f0), .unset, .unset, .unset, .unset] [(.int f1)])) := by
          intro f1 hf1
          show Go _ p e below s _ _ _ (T216.setTop (mkF m 255 #[.val (.int p1), .val (.int p2), .val (.int p3), .val (.int p4), .val (.int p5), .val (.int p6), .val (.ref b211), .val (.int q0), .val (.int f0), .val (.int (1 : Int32)), .val (.int e1), .val (.int f0), .unset, .unset, .unset, .unset] [(.int f1)]))
          refine go (fun _ => XS.istore X216.here hx rfl (hb hby at_255) rfl (l' := #[.val (.int p1), .val (.int p2), .val (.int p3), .val (.int p4), .val (.int p5), .val (.int p6), .val (.ref b211), .val (.int q0), .val (.int f0), .val (.int (1 : Int32)), .val (.int e1), .val (.int f1), .unset, .unset, .unset, .unset]) rfl) ?_
          show Go _ p e below s _ _ _ (T216.setTop (mkF m 257 #[.val (.int p1), .val (.int p2), .val (.int p3), .val (.int p4), .val (.int p5), .val (.int p6), .val (.ref b211), .val (.int q0), .val (.int f0), .val (.int (1 : Int32)), .val (.int e1), .val (.int f1), .unset, .unset, .unset, .unset] []))
          refine go (fun _ => XS.iload X216.here hx rfl (hb hby at_257) rfl) ?_
          show Go _ p e below s _ _ _ (T216.setTop (mkF m 259 #[.val (.int p1), .val (.int p2), .val (.int p3), .val (.int p4), .val (.int p5), .val (.int p6), .val (.ref b211), .val (.int q0), .val (.int f0), .val (.int (1 : Int32)), .val (.int e1), .val (.int f1), .unset, .unset, .unset, .unset] [(.int (1 : Int32))]))
          refine go (fun _ => XS.ifNo X216.here hx rfl (hb hby at_259) rfl ((if0 _ _).trans (feq (by decide : ¬ ((1 : Int32) = (0 : Int32)))).1)) ?_
          show Go _ p e below s _ _ _ (T216.setTop (mkF m 262 #[.val (.int p1), .val (.int p2), .val (.int p3), .val (.int p4), .val (.int p5), .val (.int p6), .val (.ref b211), .val (.int q0), .val (.int f0), .val (.int (1 : Int32)), .val (.int e1), .val (.int f1), .unset, .unset, .unset, .unset] []))
          refine go (fun _ => XS.aload X216.here hx rfl (hb hby at_262) rfl rfl) ?_
          show Go _ p e below s _ _ _ (T216.setTop (mkF m 264 #[.val (.int p1), .val (.int p2), .val (.int p3), .val (.int p4), .val (.int p5), .val (.int p6), .val (.ref b211), .val (.int q0), .val (.int f0), .val (.int (1 : Int32)), .val (.int e1), .val (.int f1), .unset, .unset, .unset, .unset] [(.ref b211)]))
          refine go (fun _ => XS.iloadN X216.here hx rfl (hb hby at_264) rfl) ?_
          show Go _ p e below s _ _ _ (T216.setTop (mkF m 265 #[.val (.int p1), .val (.int p2), .val (.int p3), .val (.int p4), .val (.int p5), .val (.int p6), .val (.ref b211), .val (.int q0), .val (.int f0), .val (.int (1 : Int32)), .val (.int e1), .val (.int f1), .unset, .unset, .unset, .unset] [(.int p3), (.ref b211)]))
          refine go (fun _ => XS.iload X216.here hx rfl (hb hby at_265) rfl) ?_
          show Go _ p e below s _ _ _ (T216.setTop (mkF m 267 #[.val (.int p1), .val (.int p2), .val (.int p3), .val (.int p4), .val (.int p5), .val (.int p6), .val (.ref b211), .val (.int q0), .val (.int f0), .val (.int (1 : Int32)), .val (.int e1), .val (.int f1), .unset, .unset, .unset, .unset] [(.int p6), (.int p3), (.ref b211)]))
          refine go (fun _ => XS.iconst X216.here hx rfl (hb hby at_267)) ?_
          show Go _ p e below s _ _ _ (T216.setTop (mkF m 268 #[.val (.int p1), .val (.int p2), .val (.int p3), .val (.int p4), .val (.int p5), .val (.int p6), .val (.ref b211), .val (.int q0), .val (.int f0), .val (.int (1 : Int32)), .val (.int e1), .val (.int f1), .unset, .unset, .unset, .unset] [(.int (2 : Int32)), (.int p6), (.int p3), (.ref b211)]))
          refine go (fun _ => XS.ishr X216.here hx rfl (hb hby at_268) rfl) ?_
          show Go _ p e below s _ _ _ (T216.setTop (mkF m 269 #[.val (.int p1), .val (.int p2), .val (.int p3), .val (.int p4), .val (.int p5), .val (.int p6), .val (.ref b211), .val (.int q0), .val (.int f0), .val (.int (1 : Int32)), .val (.int e1), .val (.int f1), .unset, .unset, .unset, .unset] [(.int (p6 >>> ((2 : Int32) &&& 31))), (.int p3), (.ref b211)]))
          refine go (fun _ => XS.iconst X216.here hx rfl (hb hby at_269)) ?_
          show Go _ p e below s _ _ _ (T216.setTop (mkF m 270 #[.val (.int p1), .val (.int p2), .val (.int p3), .val (.int p4), .val (.int p5), .val (.int p6), .val (.ref b211), .val (.int q0), .val (.int f0), .val (.int (1 : Int32)), .val (.int e1), .val (.int f1), .unset, .unset, .unset, .unset] [(.int (3 : Int32)), (.int (p6 >>> ((2 : Int32) &&& 31))), (.int p3), (.ref b211)]))
          refine go (fun _ => XS.iand X216.here hx rfl (hb hby at_270) rfl) ?_
          show Go _ p e below s _ _ _ (T216.setTop (mkF m 271 #[.val (.int p1), .val (.int p2), .val (.int p3), .val (.int p4), .val (.int p5), .val (.int p6), .val (.ref b211), .val (.int q0), .val (.int f0), .val (.int (1 : Int32)), .val (.int e1), .val (.int f1), .unset, .unset, .unset, .unset] [(.int ((p6 >>> ((2 : Int32) &&& 31)) &&& (3 : Int32))), (.int p3), (.ref b211)]))
          refine go (fun _ => XS.iload X216.here hx rfl (hb hby at_271) rfl) ?_
          show Go _ p e below s _ _ _ (T216.setTop (mkF m 273 #[.val (.int p1), .val (.int p2), .val (.int p3), .val (.int p4), .val (.int p5), .val (.int p6), .val (.ref b211), .val (.int q0), .val (.int f0), .val (.int (1 : Int32)), .val (.int e1), .val (.int f1), .unset, .unset, .unset, .unset] [(.int f0), (.int ((p6 >>> ((2 : Int32) &&& 31)) &&& (3 : Int32))), (.int p3), (.ref b211)]))
          refine go (fun _ => XS.iload X216.here hx rfl (hb hby at_273) rfl) ?_
          show Go _ p e below s _ _ _ (T216.setTop (mkF m 275 #[.val (.int p1), .val (.int p2), .val (.int p3), .val (.int p4), .val (.int p5), .val (.int p6), .val (.ref b211), .val (.int q0), .val (.int f0), .val (.int (1 : Int32)), .val (.int e1), .val (.int f1), .unset, .unset, .unset, .unset] [(.int f1), (.int f0), (.int ((p6 >>> ((2 : Int32) &&& 31)) &&& (3 : Int32))), (.int p3), (.ref b211)]))
          obtain ⟨sp1, hsp1, -⟩ := own_and3 (p6 >>> ((2 : Int32) &&& 31))
          obtain ⟨_, _, ⟨T217, L217, k217, n217⟩, -, X217, ⟨Lc217, hQ217, l217, y217, z217⟩, st217⟩ := Jvm.LawKit.callS X216 hx (y := (⟨"com/example/dosisbog/dosisbog/HeadEndWholePinLaw", "feed", "(Lcom/example/dosisbog/dosisbog/HttpRequest$HeadEnd;IIZZ)Z"⟩ : MethodName)) hown (mvT hZ (hw _ (List.mem_of_getElem? (i := 13) rfl))) (mvT hZ (hw _ (List.mem_of_getElem? (i := 14) rfl))) (mvT hZ (hw _ (List.mem_of_getElem? (i := 11) rfl))) (mvT hZ (hw _ (List.mem_of_getElem? (i := 15) rfl))) (by decide) (backOf (W := 0) (rm4 l Z a0 hw [] b211 p3 ((p6 >>> ((2 : Int32) &&& 31)) &&& (3 : Int32)) f0 f1 w1215 w2215 w3215 w4215 w5215 q0 f0 3 sp1 (T215.heap) n0 ZN215 c215_0 G_b211 u215_1 u215_2 u215_3 u215_4 u215_5 (by rw [hq0, hf0, ← he0]; exact u215_6) (by decide) hsp1 rfl (by rw [he1]; exact hf1)) hZ (hw _ (List.mem_of_getElem? (i := 15) rfl)) (hw _ (List.mem_of_getElem? (i := 11) rfl)) (by decide) (by decide)) (g := (mkF m 275 #[.val (.int p1), .val (.int p2), .val (.int p3), .val (.int p4), .val (.int p5), .val (.int p6), .val (.ref b211), .val (.int q0), .val (.int f0), .val (.int (1 : Int32)), .val (.int e1), .val (.int f1), .unset, .unset, .unset, .unset] [(.int f1), (.int f0), (.int ((p6 >>> ((2 : Int32) &&& 31)) &&& (3 : Int32))), (.int p3), (.ref b211)])) rfl (by rw [hml]; rfl) (argsL := [(.ref b211), (.int p3), (.int ((p6 >>> ((2 : Int32) &&& 31)) &&& (3 : Int32))), (.int f0), (.int f1)]) (rest := []) (lenOf pd_0_2 rfl) rfl (by show 2 * 0 + _ ≤ _; exact Nat.le_of_eq rfl) (hb hby at_275) (fun _ _ => ⟨rfl, e216, (by decide : 2 + 1 ≤ _), (by decide : 10 + 5 ≤ _)⟩)
          dsimp only [Pt.U, Pt.locs, Pt.cells, Pt.slots] at X217 l217 y217 z217 st217 hQ217
          subst l217 y217 z217
          obtain ⟨w1217, w2217, w3217, w4217, w5217, rfl, N217q, K217, u217_1, u217_2, u217_3, u217_4, u217_5, u217_6⟩ := hQ217
          have N217 := Fr.app N216 N217q
          have c217_0 := c215_0.keep K217
          have KK217 : Keep h0 T217.heap [] := KK215.trans K217 (allS (P := fun x => x ∈ [] ∨ h0.size ≤ x) (Or.inr SZ_b211) all0)
          have ZN217 : n0 ≤ T217.heap.size := Nat.le_trans ZN215 K217.1
          refine go st217 ?_
          show Go _ p e below s _ _ _ (T217.setTop (mkF m 278 #[.val (.int p1), .val (.int p2), .val (.int p3), .val (.int p4), .val (.int p5), .val (.int p6), .val (.ref b211), .val (.int q0), .val (.int f0), .val (.int (1 : Int32)), .val (.int e1), .val (.int f1), .unset, .unset, .unset, .unset] [(.int (1 : Int32))]))
          refine go (fun _ => XS.ifNo X217.here hx rfl (hb hby at_278) rfl ((if0 _ _).trans (feq (by decide : ¬ ((1 : Int32) = (0 : Int32)))).1)) ?_
          show Go _ p e below s _ _ _ (T217.setTop (mkF m 281 #[.val (.int p1), .val (.int p2), .val (.int p3), .val (.int p4), .val (.int p5), .val (.int p6), .val (.ref b211), .val (.int q0), .val (.int f0), .val (.int (1 : Int32)), .val (.int e1), .val (.int f1), .unset, .unset, .unset, .unset] []))
          refine go (fun _ => XS.iconst X217.here hx rfl (hb hby at_281)) ?_
          show Go _ p e below s _ _ _ (T217.setTop (mkF m 282 #[.val (.int p1), .val (.int p2), .val (.int p3), .val (.int p4), .val (.int p5), .val (.int p6), .val (.ref b211), .val (.int q0), .val (.int f0), .val (.int (1 : Int32)), .val (.int e1), .val (.int f1), .unset, .unset, .unset, .unset] [(.int (1 : Int32))]))
          refine go (fun _ => XS.goto X217.here hx rfl (pc0 := 282) (pc' := 286) rfl (hb hby at_282) (by decide) (by decide)) ?_
          show Go _ p e below s _ _ _ (T217.setTop (mkF m 286 #[.val (.int p1), .val (.int p2), .val (.int p3), .val (.int p4), .val (.int p5), .val (.int p6), .val (.ref b211), .val (.int q0), .val (.int f0), .val (.int (1 : Int32)), .val (.int e1), .val (.int f1), .unset, .unset, .unset, .unset] [(.int (1 : Int32))]))
          refine go (fun _ => XS.istore X217.here hx rfl (hb hby at_286) rfl (l' := #[.val (.int p1), .val (.int p2), .val (.int p3), .val (.int p4), .val (.int p5), .val (.int p6), .val (.ref b211), .val (.int q0), .val (.int f0), .val (.int (1 : Int32)), .val (.int e1), .val (.int f1), .unset, .unset, .unset, .unset]) rfl) ?_
          show Go _ p e below s _ _ _ (T217.setTop (mkF m 288 #[.val (.int p1), .val (.int p2), .val (.int p3), .val (.int p4), .val (.int p5), .val (.int p6), .val (.ref b211), .val (.int q0), .val (.int f0), .val (.int (1 : Int32)), .val (.int e1), .val (.int f1), .unset, .unset, .unset, .unset] []))
          refine go (fun _ => XS.iload X217.here hx rfl (hb hby at_288) rfl) ?_
          show Go _ p e below s _ _ _ (T217.setTop (mkF m 290 #[.val (.int p1), .val (.int p2), .val (.int p3), .val (.int p4), .val (.int p5), .val (.int p6), .val (.ref b211), .val (.int q0), .val (.int f0), .val (.int (1 : Int32)), .val (.int e1), .val (.int f1), .unset, .unset, .unset, .unset] [(.int f1)]))
          refine go (fun _ => XS.istore X217.here hx rfl (hb hby at_290) rfl (l' := #[.val (.int p1), .val (.int p2), .val (.int p3), .val (.int p4), .val (.int p5), .val (.int p6), .val (.ref b211), .val (.int q0), .val (.int f1), .val (.int (1 : Int32)), .val (.int e1), .val (.int f1), .unset, .unset, .unset, .unset]) rfl) ?_
          show Go _ p e below s _ _ _ (T217.setTop (mkF m 292 #[.val (.int p1), .val (.int p2), .val (.int p3), .val (.int p4), .val (.int p5), .val (.int p6), .val (.ref b211), .val (.int q0), .val (.int f1), .val (.int (1 : Int32)), .val (.int e1), .val (.int f1), .unset, .unset, .unset, .unset] []))
          have JQ1 : ∀ (q1 : Int32), (q1 = own_rq q0 e1) → Go FrameEnd p e below s room_1.cells room_1.slots (Q0 Z p1 p2 p3 p4 p5 p6 h0 n0) (T217.setTop (mkF m 307 #[.val (.int p1), .val (.int p2), .val (.int p3), .val (.int p4), .val (.int p5), .val (.int p6), .val (.ref b211), .val (.int q0), .val (.int f1), .val (.int (1 : Int32)), .val (.int e1), .val (.int f1), .unset, .unset, .unset, .unset] [(.int q1)])) := by
            intro q1 hq1
            show Go _ p e below s _ _ _ (T217.setTop (mkF m 307 #[.val (.int p1), .val (.int p2), .val (.int p3), .val (.int p4), .val (.int p5), .val (.int p6), .val (.ref b211), .val (.int q0), .val (.int f1), .val (.int (1 : Int32)), .val (.int e1), .val (.int f1), .unset, .unset, .unset, .unset] [(.int q1)]))
            refine go (fun _ => XS.istore X217.here hx rfl (hb hby at_307) rfl (l' := #[.val (.int p1), .val (.int p2), .val (.int p3), .val (.int p4), .val (.int p5), .val (.int p6), .val (.ref b211), .val (.int q1), .val (.int f1), .val (.int (1 : Int32)), .val (.int e1), .val (.int f1), .unset, .unset, .unset, .unset]) rfl) ?_
            show Go _ p e below s _ _ _ (T217.setTop (mkF m 309 #[.val (.int p1), .val (.int p2), .val (.int p3), .val (.int p4), .val (.int p5), .val (.int p6), .val (.ref b211), .val (.int q1), .val (.int f1), .val (.int (1 : Int32)), .val (.int e1), .val (.int f1), .unset, .unset, .unset, .unset] []))
            refine go (fun _ => XS.iloadN X217.here hx rfl (hb hby at_309) rfl) ?_
            show Go _ p e below s _ _ _ (T217.setTop (mkF m 310 #[.val (.int p1), .val (.int p2), .val (.int p3), .val (.int p4), .val (.int p5), .val (.int p6), .val (.ref b211), .val (.int q1), .val (.int f1), .val (.int (1 : Int32)), .val (.int e1), .val (.int f1), .unset, .unset, .unset, .unset] [(.int p4)]))
            obtain ⟨_, _, ⟨T218, L218, k218, n218⟩, -, X218, ⟨Lc218, hQ218, l218, y218, z218⟩, st218⟩ := Jvm.LawKit.callS X217 hx (y := (⟨"com/example/dosisbog/dosisbog/HeadEndWholePinLaw", "empty", "(I)Z"⟩ : MethodName)) hown (mvT hZ (hw _ (List.mem_of_getElem? (i := 9) rfl))) (mvT hZ (hw _ (List.mem_of_getElem? (i := 10) rfl))) (mvT hZ (hw _ (List.mem_of_getElem? (i := 11) rfl))) (mvT hZ (hw _ (List.mem_of_getElem? (i := 12) rfl))) (by decide) (backOf (W := 0) (rm3 l Z a0 hw [] p4 (T217.heap) n0 ZN217 ) hZ (hw _ (List.mem_of_getElem? (i := 12) rfl)) (hw _ (List.mem_of_getElem? (i := 11) rfl)) (by decide) (by decide)) (g := (mkF m 310 #[.val (.int p1), .val (.int p2), .val (.int p3), .val (.int p4), .val (.int p5), .val (.int p6), .val (.ref b211), .val (.int q1), .val (.int f1), .val (.int (1 : Int32)), .val (.int e1), .val (.int f1), .unset, .unset, .unset, .unset] [(.int p4)])) rfl (by rw [hml]; rfl) (argsL := [(.int p4)]) (rest := []) (lenOf pd_0_1 rfl) rfl (by show 2 * 0 + _ ≤ _; exact Nat.le_of_eq rfl) (hb hby at_310) (fun _ _ => ⟨rfl, rfl, (by decide : 3 + 0 ≤ _), (by decide : 15 + 0 ≤ _)⟩)
            dsimp only [Pt.U, Pt.locs, Pt.cells, Pt.slots] at X218 l218 y218 z218 st218 hQ218
            subst l218 y218 z218
            obtain ⟨rfl, N218q, e218⟩ := hQ218
            have N218 := Fr.app N217 N218q
            refine go st218 ?_
            show Go _ p e below s _ _ _ (T218.setTop (mkF m 313 #[.val (.int p1), .val (.int p2), .val (.int p3), .val (.int p4), .val (.int p5), .val (.int p6), .val (.ref b211), .val (.int q1), .val (.int f1), .val (.int (1 : Int32)), .val (.int e1), .val (.int f1), .unset, .unset, .unset, .unset] [(.int (own_emp (p4 &&& (3 : Int32)) ((p4 >>> ((2 : Int32) &&& 31)) &&& (255 : Int32))))]))
            refine go (fun _ => XS.istore X218.here hx rfl (hb hby at_313) rfl (l' := #[.val (.int p1), .val (.int p2), .val (.int p3), .val (.int p4), .val (.int p5), .val (.int p6), .val (.ref b211), .val (.int q1), .val (.int f1), .val (.int (1 : Int32)), .val (.int (own_emp (p4 &&& (3 : Int32)) ((p4 >>> ((2 : Int32) &&& 31)) &&& (255 : Int32)))), .val (.int f1), .unset, .unset, .unset, .unset]) rfl) ?_
            show Go _ p e below s _ _ _ (T218.setTop (mkF m 315 #[.val (.int p1), .val (.int p2), .val (.int p3), .val (.int p4), .val (.int p5), .val (.int p6), .val (.ref b211), .val (.int q1), .val (.int f1), .val (.int (1 : Int32)), .val (.int (own_emp (p4 &&& (3 : Int32)) ((p4 >>> ((2 : Int32) &&& 31)) &&& (255 : Int32)))), .val (.int f1), .unset, .unset, .unset, .unset] []))
            generalize he2 : (own_emp (p4 &&& (3 : Int32)) ((p4 >>> ((2 : Int32) &&& 31)) &&& (255 : Int32))) = e2
            show Go _ p e below s _ _ _ (T218.setTop (mkF m 315 #[.val (.int p1), .val (.int p2), .val (.int p3), .val (.int p4), .val (.int p5), .val (.int p6), .val (.ref b211), .val (.int q1), .val (.int f1), .val (.int (1 : Int32)), .val (.int e2), .val (.int f1), .unset, .unset, .unset, .unset] []))
            have JF2 : ∀ (f2 : Int32), (f2 = own_fd f1 e2 q1) → Go FrameEnd p e below s room_1.cells room_1.slots (Q0 Z p1 p2 p3 p4 p5 p6 h0 n0) (T218.setTop (mkF m 335 #[.val (.int p1), .val (.int p2), .val (.int p3), .val (.int p4), .val (.int p5), .val (.int p6), .val (.ref b211), .val (.int q1), .val (.int f1), .val (.int (1 : Int32)), .val (.int e2), .val (.int f1), .unset, .unset, .unset, .unset] [(.int f2)])) := by
              intro f2 hf2
              show Go _ p e below s _ _ _ (T218.setTop (mkF m 335 #[.val (.int p1), .val (.int p2), .val (.int p3), .val (.int p4), .val (.int p5), .val (.int p6), .val (.ref b211), .val (.int q1), .val (.int f1), .val (.int (1 : Int32)), .val (.int e2), .val (.int f1), .unset, .unset, .unset, .unset] [(.int f2)]))
              refine go (fun _ => XS.istore X218.here hx rfl (hb hby at_335) rfl (l' := #[.val (.int p1), .val (.int p2), .val (.int p3), .val (.int p4), .val (.int p5), .val (.int p6), .val (.ref b211), .val (.int q1), .val (.int f1), .val (.int (1 : Int32)), .val (.int e2), .val (.int f2), .unset, .unset, .unset, .unset]) rfl) ?_
              show Go _ p e below s _ _ _ (T218.setTop (mkF m 337 #[.val (.int p1), .val (.int p2), .val (.int p3), .val (.int p4), .val (.int p5), .val (.int p6), .val (.ref b211), .val (.int q1), .val (.int f1), .val (.int (1 : Int32)), .val (.int e2), .val (.int f2), .unset, .unset, .unset, .unset] []))
              refine go (fun _ => XS.iload X218.here hx rfl (hb hby at_337) rfl) ?_
              show Go _ p e below s _ _ _ (T218.setTop (mkF m 339 #[.val (.int p1), .val (.int p2), .val (.int p3), .val (.int p4), .val (.int p5), .val (.int p6), .val (.ref b211), .val (.int q1), .val (.int f1), .val (.int (1 : Int32)), .val (.int e2), .val (.int f2), .unset, .unset, .unset, .unset] [(.int (1 : Int32))]))
              refine go (fun _ => XS.ifNo X218.here hx rfl (hb hby at_339) rfl ((if0 _ _).trans (feq (by decide : ¬ ((1 : Int32) = (0 : Int32)))).1)) ?_
              show Go _ p e below s _ _ _ (T218.setTop (mkF m 342 #[.val (.int p1), .val (.int p2), .val (.int p3), .val (.int p4), .val (.int p5), .val (.int p6), .val (.ref b211), .val (.int q1), .val (.int f1), .val (.int (1 : Int32)), .val (.int e2), .val (.int f2), .unset, .unset, .unset, .unset] []))
              refine go (fun _ => XS.aload X218.here hx rfl (hb hby at_342) rfl rfl) ?_
              show Go _ p e below s _ _ _ (T218.setTop (mkF m 344 #[.val (.int p1), .val (.int p2), .val (.int p3), .val (.int p4), .val (.int p5), .val (.int p6), .val (.ref b211), .val (.int q1), .val (.int f1), .val (.int (1 : Int32)), .val (.int e2), .val (.int f2), .unset, .unset, .unset, .unset] [(.ref b211)]))
              refine go (fun _ => XS.iloadN X218.here hx rfl (hb hby at_344) rfl) ?_
              show Go _ p e below s _ _ _ (T218.setTop (mkF m 345 #[.val (.int p1), .val (.int p2), .val (.int p3), .val (.int p4), .val (.int p5), .val (.int p6), .val (.ref b211), .val (.int q1), .val (.int f1), .val (.int (1 : Int32)), .val (.int e2), .val (.int f2), .unset, .unset, .unset, .unset] [(.int p4), (.ref b211)]))
              refine go (fun _ => XS.iload X218.here hx rfl (hb hby at_345) rfl) ?_
              show Go _ p e below s _ _ _ (T218.setTop (mkF m 347 #[.val (.int p1), .val (.int p2), .val (.int p3), .val (.int p4), .val (.int p5), .val (.int p6), .val (.ref b211), .val (.int q1), .val (.int f1), .val (.int (1 : Int32)), .val (.int e2), .val (.int f2), .unset, .unset, .unset, .unset] [(.int p6), (.int p4), (.ref b211)]))
              refine go (fun _ => XS.iconst X218.here hx rfl (hb hby at_347)) ?_
              show Go _ p e below s _ _ _ (T218.setTop (mkF m 348 #[.val (.int p1), .val (.int p2), .val (.int p3), .val (.int p4), .val (.int p5), .val (.int p6), .val (.ref b211), .val (.int q1), .val (.int f1), .val (.int (1 : Int32)), .val (.int e2), .val (.int f2), .unset, .unset, .unset, .unset] [(.int (4 : Int32)), (.int p6), (.int p4), (.ref b211)]))
              refine go (fun _ => XS.ishr X218.here hx rfl (hb hby at_348) rfl) ?_
              show Go _ p e below s _ _ _ (T218.setTop (mkF m 349 #[.val (.int p1), .val (.int p2), .val (.int p3), .val (.int p4), .val (.int p5), .val (.int p6), .val (.ref b211), .val (.int q1), .val (.int f1), .val (.int (1 : Int32)), .val (.int e2), .val (.int f2), .unset, .unset, .unset, .unset] [(.int (p6 >>> ((4 : Int32) &&& 31))), (.int p4), (.ref b211)]))
              refine go (fun _ => XS.iconst X218.here hx rfl (hb hby at_349)) ?_
              show Go _ p e below s _ _ _ (T218.setTop (mkF m 350 #[.val (.int p1), .val (.int p2), .val (.int p3), .val (.int p4), .val (.int p5), .val (.int p6), .val (.ref b211), .val (.int q1), .val (.int f1), .val (.int (1 : Int32)), .val (.int e2), .val (.int f2), .unset, .unset, .unset, .unset] [(.int (3 : Int32)), (.int (p6 >>> ((4 : Int32) &&& 31))), (.int p4), (.ref b211)]))
              refine go (fun _ => XS.iand X218.here hx rfl (hb hby at_350) rfl) ?_
              show Go _ p e below s _ _ _ (T218.setTop (mkF m 351 #[.val (.int p1), .val (.int p2), .val (.int p3), .val (.int p4), .val (.int p5), .val (.int p6), .val (.ref b211), .val (.int q1), .val (.int f1), .val (.int (1 : Int32)), .val (.int e2), .val (.int f2), .unset, .unset, .unset, .unset] [(.int ((p6 >>> ((4 : Int32) &&& 31)) &&& (3 : Int32))), (.int p4), (.ref b211)]))
              refine go (fun _ => XS.iload X218.here hx rfl (hb hby at_351) rfl) ?_
              show Go _ p e below s _ _ _ (T218.setTop (mkF m 353 #[.val (.int p1), .val (.int p2), .val (.int p3), .val (.int p4), .val (.int p5), .val (.int p6), .val (.ref b211), .val (.int q1), .val (.int f1), .val (.int (1 : Int32)), .val (.int e2), .val (.int f2), .unset, .unset, .unset, .unset] [(.int f1), (.int ((p6 >>> ((4 : Int32) &&& 31)) &&& (3 : Int32))), (.int p4), (.ref b211)]))
              refine go (fun _ => XS.iload X218.here hx rfl (hb hby at_353) rfl) ?_
              show Go _ p e below s _ _ _ (T218.setTop (mkF m 355 #[.val (.int p1), .val (.int p2), .val (.int p3), .val (.int p4), .val (.int p5), .val (.int p6), .val (.ref b211), .val (.int q1), .val (.int f1), .val (.int (1 : Int32)), .val (.int e2), .val (.int f2), .unset, .unset, .unset, .unset] [(.int f2), (.int f1), (.int ((p6 >>> ((4 : Int32) &&& 31)) &&& (3 : Int32))), (.int p4), (.ref b211)]))
              obtain ⟨sp2, hsp2, -⟩ := own_and3 (p6 >>> ((4 : Int32) &&& 31))
              obtain ⟨_, _, ⟨T219, L219, k219, n219⟩, -, X219, ⟨Lc219, hQ219, l219, y219, z219⟩, st219⟩ := Jvm.LawKit.callS X218 hx (y := (⟨"com/example/dosisbog/dosisbog/HeadEndWholePinLaw", "feed", "(Lcom/example/dosisbog/dosisbog/HttpRequest$HeadEnd;IIZZ)Z"⟩ : MethodName)) hown (mvT hZ (hw _ (List.mem_of_getElem? (i := 13) rfl))) (mvT hZ (hw _ (List.mem_of_getElem? (i := 14) rfl))) (mvT hZ (hw _ (List.mem_of_getElem? (i := 11) rfl))) (mvT hZ (hw _ (List.mem_of_getElem? (i := 15) rfl))) (by decide) (backOf (W := 0) (rm4 l Z a0 hw [] b211 p4 ((p6 >>> ((4 : Int32) &&& 31)) &&& (3 : Int32)) f1 f2 w1217 w2217 w3217 w4217 w5217 q1 f1 6 sp2 (T217.heap) n0 ZN217 c217_0 G_b211 u217_1 u217_2 u217_3 u217_4 u217_5 (by rw [hq1, hf1, ← he1]; exact u217_6) (by decide) hsp2 rfl (by rw [he2]; exact hf2)) hZ (hw _ (List.mem_of_getElem? (i := 15) rfl)) (hw _ (List.mem_of_getElem? (i := 11) rfl)) (by decide) (by decide)) (g := (mkF m 355 #[.val (.int p1), .val (.int p2), .val (.int p3), .val (.int p4), .val (.int p5), .val (.int p6), .val (.ref b211), .val (.int q1), .val (.int f1), .val (.int (1 : Int32)), .val (.int e2), .val (.int f2), .unset, .unset, .unset, .unset] [(.int f2), (.int f1), (.int ((p6 >>> ((4 : Int32) &&& 31)) &&& (3 : Int32))), (.int p4), (.ref b211)])) rfl (by rw [hml]; rfl) (argsL := [(.ref b211), (.int p4), (.int ((p6 >>> ((4 : Int32) &&& 31)) &&& (3 : Int32))), (.int f1), (.int f2)]) (rest := []) (lenOf pd_0_2 rfl) rfl (by show 2 * 0 + _ ≤ _; exact Nat.le_of_eq rfl) (hb hby at_355) (fun _ _ => ⟨rfl, e218, (by decide : 3 + 1 ≤ _), (by decide : 15 + 5 ≤ _)⟩)
              dsimp only [Pt.U, Pt.locs, Pt.cells, Pt.slots] at X219 l219 y219 z219 st219 hQ219
              subst l219 y219 z219
              obtain ⟨w1219, w2219, w3219, w4219, w5219, rfl, N219q, K219, u219_1, u219_2, u219_3, u219_4, u219_5, u219_6⟩ := hQ219
              have N219 := Fr.app N218 N219q
              have c219_0 := c217_0.keep K219
              have KK219 : Keep h0 T219.heap [] := KK217.trans K219 (allS (P := fun x => x ∈ [] ∨ h0.size ≤ x) (Or.inr SZ_b211) all0)
              have ZN219 : n0 ≤ T219.heap.size := Nat.le_trans ZN217 K219.1
              refine go st219 ?_
              show Go _ p e below s _ _ _ (T219.setTop (mkF m 358 #[.val (.int p1), .val (.int p2), .val (.int p3), .val (.int p4), .val (.int p5), .val (.int p6), .val (.ref b211), .val (.int q1), .val (.int f1), .val (.int (1 : Int32)), .val (.int e2), .val (.int f2), .unset, .unset, .unset, .unset] [(.int (1 : Int32))]))
              refine go (fun _ => XS.ifNo X219.here hx rfl (hb hby at_358) rfl ((if0 _ _).trans (feq (by decide : ¬ ((1 : Int32) = (0 : Int32)))).1)) ?_
              show Go _ p e below s _ _ _ (T219.setTop (mkF m 361 #[.val (.int p1), .val (.int p2), .val (.int p3), .val (.int p4), .val (.int p5), .val (.int p6), .val (.ref b211), .val (.int q1), .val (.int f1), .val (.int (1 : Int32)), .val (.int e2), .val (.int f2), .unset, .unset, .unset, .unset] []))
              refine go (fun _ => XS.iconst X219.here hx rfl (hb hby at_361)) ?_
              show Go _ p e below s _ _ _ (T219.setTop (mkF m 362 #[.val (.int p1), .val (.int p2), .val (.int p3), .val (.int p4), .val (.int p5), .val (.int p6), .val (.ref b211), .val (.int q1), .val (.int f1), .val (.int (1 : Int32)), .val (.int e2), .val (.int f2), .unset, .unset, .unset, .unset] [(.int (1 : Int32))]))
              refine go (fun _ => XS.goto X219.here hx rfl (pc0 := 362) (pc' := 366) rfl (hb hby at_362) (by decide) (by decide)) ?_
              show Go _ p e below s _ _ _ (T219.setTop (mkF m 366 #[.val (.int p1), .val (.int p2), .val (.int p3), .val (.int p4), .val (.int p5), .val (.int p6), .val (.ref b211), .val (.int q1), .val (.int f1), .val (.int (1 : Int32)), .val (.int e2), .val (.int f2), .unset, .unset, .unset, .unset] [(.int (1 : Int32))]))
              refine go (fun _ => XS.istore X219.here hx rfl (hb hby at_366) rfl (l' := #[.val (.int p1), .val (.int p2), .val (.int p3), .val (.int p4), .val (.int p5), .val (.int p6), .val (.ref b211), .val (.int q1), .val (.int f1), .val (.int (1 : Int32)), .val (.int e2), .val (.int f2), .unset, .unset, .unset, .unset]) rfl) ?_
              show Go _ p e below s _ _ _ (T219.setTop (mkF m 368 #[.val (.int p1), .val (.int p2), .val (.int p3), .val (.int p4), .val (.int p5), .val (.int p6), .val (.ref b211), .val (.int q1), .val (.int f1), .val (.int (1 : Int32)), .val (.int e2), .val (.int f2), .unset, .unset, .unset, .unset] []))
              refine go (fun _ => XS.iload X219.here hx rfl (hb hby at_368) rfl) ?_
              show Go _ p e below s _ _ _ (T219.setTop (mkF m 370 #[.val (.int p1), .val (.int p2), .val (.int p3), .val (.int p4), .val (.int p5), .val (.int p6), .val (.ref b211), .val (.int q1), .val (.int f1), .val (.int (1 : Int32)), .val (.int e2), .val (.int f2), .unset, .unset, .unset, .unset] [(.int f2)]))
              refine go (fun _ => XS.istore X219.here hx rfl (hb hby at_370) rfl (l' := #[.val (.int p1), .val (.int p2), .val (.int p3), .val (.int p4), .val (.int p5), .val (.int p6), .val (.ref b211), .val (.int q1), .val (.int f2), .val (.int (1 : Int32)), .val (.int e2), .val (.int f2), .unset, .unset, .unset, .unset]) rfl) ?_
              show Go _ p e below s _ _ _ (T219.setTop (mkF m 372 #[.val (.int p1), .val (.int p2), .val (.int p3), .val (.int p4), .val (.int p5), .val (.int p6), .val (.ref b211), .val (.int q1), .val (.int f2), .val (.int (1 : Int32)), .val (.int e2), .val (.int f2), .unset, .unset, .unset, .unset] []))
              have JQ2 : ∀ (q2 : Int32), (q2 = own_rq q1 e2) → Go FrameEnd p e below s room_1.cells room_1.slots (Q0 Z p1 p2 p3 p4 p5 p6 h0 n0) (T219.setTop (mkF m 387 #[.val (.int p1), .val (.int p2), .val (.int p3), .val (.int p4), .val (.int p5), .val (.int p6), .val (.ref b211), .val (.int q1), .val (.int f2), .val (.int (1 : Int32)), .val (.int e2), .val (.int f2), .unset, .unset, .unset, .unset] [(.int q2)])) := by
                intro q2 hq2
                show Go _ p e below s _ _ _ (T219.setTop (mkF m 387 #[.val (.int p1), .val (.int p2), .val (.int p3), .val (.int p4), .val (.int p5), .val (.int p6), .val (.ref b211), .val (.int q1), .val (.int f2), .val (.int (1 : Int32)), .val (.int e2), .val (.int f2), .unset, .unset, .unset, .unset] [(.int q2)]))
                refine go (fun _ => XS.istore X219.here hx rfl (hb hby at_387) rfl (l' := #[.val (.int p1), .val (.int p2), .val (.int p3), .val (.int p4), .val (.int p5), .val (.int p6), .val (.ref b211), .val (.int q2), .val (.int f2), .val (.int (1 : Int32)), .val (.int e2), .val (.int f2), .unset, .unset, .unset, .unset]) rfl) ?_
                show Go _ p e below s _ _ _ (T219.setTop (mkF m 389 #[.val (.int p1), .val (.int p2), .val (.int p3), .val (.int p4), .val (.int p5), .val (.int p6), .val (.ref b211), .val (.int q2), .val (.int f2), .val (.int (1 : Int32)), .val (.int e2), .val (.int f2), .unset, .unset, .unset, .unset] []))
                refine go (fun _ => XS.iload X219.here hx rfl (hb hby at_389) rfl) ?_
                show Go _ p e below s _ _ _ (T219.setTop (mkF m 391 #[.val (.int p1), .val (.int p2), .val (.int p3), .val (.int p4), .val (.int p5), .val (.int p6), .val (.ref b211), .val (.int q2), .val (.int f2), .val (.int (1 : Int32)), .val (.int e2), .val (.int f2), .unset, .unset, .unset, .unset] [(.int p5)]))
                obtain ⟨_, _, ⟨T220, L220, k220, n220⟩, -, X220, ⟨Lc220, hQ220, l220, y220, z220⟩, st220⟩ := Jvm.LawKit.callS X219 hx (y := (⟨"com/example/dosisbog/dosisbog/HeadEndWholePinLaw", "empty", "(I)Z"⟩ : MethodName)) hown (mvT hZ (hw _ (List.mem_of_getElem? (i := 9) rfl))) (mvT hZ (hw _ (List.mem_of_getElem? (i := 10) rfl))) (mvT hZ (hw _ (List.mem_of_getElem? (i := 11) rfl))) (mvT hZ (hw _ (List.mem_of_getElem? (i := 12) rfl))) (by decide) (backOf (W := 0) (rm3 l Z a0 hw [] p5 (T219.heap) n0 ZN219 ) hZ (hw _ (List.mem_of_getElem? (i := 12) rfl)) (hw _ (List.mem_of_getElem? (i := 11) rfl)) (by decide) (by decide)) (g := (mkF m 391 #[.val (.int p1), .val (.int p2), .val (.int p3), .val (.int p4), .val (.int p5), .val (.int p6), .val (.ref b211), .val (.int q2), .val (.int f2), .val (.int (1 : Int32)), .val (.int e2), .val (.int f2), .unset, .unset, .unset, .unset] [(.int p5)])) rfl (by rw [hml]; rfl) (argsL := [(.int p5)]) (rest := []) (lenOf pd_0_1 rfl) rfl (by show 2 * 0 + _ ≤ _; exact Nat.le_of_eq rfl) (hb hby at_391) (fun _ _ => ⟨rfl, rfl, (by decide : 4 + 0 ≤ _), (by decide : 20 + 0 ≤ _)⟩)
                dsimp only [Pt.U, Pt.locs, Pt.cells, Pt.slots] at X220 l220 y220 z220 st220 hQ220
                subst l220 y220 z220
                obtain ⟨rfl, N220q, e220⟩ := hQ220
                have N220 := Fr.app N219 N220q
                refine go st220 ?_
                show Go _ p e below s _ _ _ (T220.setTop (mkF m 394 #[.val (.int p1), .val (.int p2), .val (.int p3), .val (.int p4), .val (.int p5), .val (.int p6), .val (.ref b211), .val (.int q2), .val (.int f2), .val (.int (1 : Int32)), .val (.int e2), .val (.int f2), .unset, .unset, .unset, .unset] [(.int (own_emp (p5 &&& (3 : Int32)) ((p5 >>> ((2 : Int32) &&& 31)) &&& (255 : Int32))))]))
                refine go (fun _ => XS.istore X220.here hx rfl (hb hby at_394) rfl (l' := #[.val (.int p1), .val (.int p2), .val (.int p3), .val (.int p4), .val (.int p5), .val (.int p6), .val (.ref b211), .val (.int q2), .val (.int f2), .val (.int (1 : Int32)), .val (.int (own_emp (p5 &&& (3 : Int32)) ((p5 >>> ((2 : Int32) &&& 31)) &&& (255 : Int32)))), .val (.int f2), .unset, .unset, .unset, .unset]) rfl) ?_
                show Go _ p e below s _ _ _ (T220.setTop (mkF m 396 #[.val (.int p1), .val (.int p2), .val (.int p3), .val (.int p4), .val (.int p5), .val (.int p6), .val (.ref b211), .val (.int q2), .val (.int f2), .val (.int (1 : Int32)), .val (.int (own_emp (p5 &&& (3 : Int32)) ((p5 >>> ((2 : Int32) &&& 31)) &&& (255 : Int32)))), .val (.int f2), .unset, .unset, .unset, .unset] []))
                generalize he3 : (own_emp (p5 &&& (3 : Int32)) ((p5 >>> ((2 : Int32) &&& 31)) &&& (255 : Int32))) = e3
                show Go _ p e below s _ _ _ (T220.setTop (mkF m 396 #[.val (.int p1), .val (.int p2), .val (.int p3), .val (.int p4), .val (.int p5), .val (.int p6), .val (.ref b211), .val (.int q2), .val (.int f2), .val (.int (1 : Int32)), .val (.int e3), .val (.int f2), .unset, .unset, .unset, .unset] []))
                have JF3 : ∀ (f3 : Int32), (f3 = own_fd f2 e3 q2) → Go FrameEnd p e below s room_1.cells room_1.slots (Q0 Z p1 p2 p3 p4 p5 p6 h0 n0) (T220.setTop (mkF m 416 #[.val (.int p1), .val (.int p2), .val (.int p3), .val (.int p4), .val (.int p5), .val (.int p6), .val (.ref b211), .val (.int q2), .val (.int f2), .val (.int (1 : Int32)), .val (.int e3), .val (.int f2), .unset, .unset, .unset, .unset] [(.int f3)])) := by
                  intro f3 hf3
                  show Go _ p e below s _ _ _ (T220.setTop (mkF m 416 #[.val (.int p1), .val (.int p2), .val (.int p3), .val (.int p4), .val (.int p5), .val (.int p6), .val (.ref b211), .val (.int q2), .val (.int f2), .val (.int (1 : Int32)), .val (.int e3), .val (.int f2), .unset, .unset, .unset, .unset] [(.int f3)]))
                  refine go (fun _ => XS.istore X220.here hx rfl (hb hby at_416) rfl (l' := #[.val (.int p1), .val (.int p2), .val (.int p3), .val (.int p4), .val (.int p5), .val (.int p6), .val (.ref b211), .val (.int q2), .val (.int f2), .val (.int (1 : Int32)), .val (.int e3), .val (.int f3), .unset, .unset, .unset, .unset]) rfl) ?_
                  show Go _ p e below s _ _ _ (T220.setTop (mkF m 418 #[.val (.int p1), .val (.int p2), .val (.int p3), .val (.int p4), .val (.int p5), .val (.int p6), .val (.ref b211), .val (.int q2), .val (.int f2), .val (.int (1 : Int32)), .val (.int e3), .val (.int f3), .unset, .unset, .unset, .unset] []))
                  refine go (fun _ => XS.iload X220.here hx rfl (hb hby at_418) rfl) ?_
                  show Go _ p e below s _ _ _ (T220.setTop (mkF m 420 #[.val (.int p1), .val (.int p2), .val (.int p3), .val (.int p4), .val (.int p5), .val (.int p6), .val (.ref b211), .val (.int q2), .val (.int f2), .val (.int (1 : Int32)), .val (.int e3), .val (.int f3), .unset, .unset, .unset, .unset] [(.int (1 : Int32))]))
                  refine go (fun _ => XS.ifNo X220.here hx rfl (hb hby at_420) rfl ((if0 _ _).trans (feq (by decide : ¬ ((1 : Int32) = (0 : Int32)))).1)) ?_
                  show Go _ p e below s _ _ _ (T220.setTop (mkF m 423 #[.val (.int p1), .val (.int p2), .val (.int p3), .val (.int p4), .val (.int p5), .val (.int p6), .val (.ref b211), .val (.int q2), .val (.int f2), .val (.int (1 : Int32)), .val (.int e3), .val (.int f3), .unset, .unset, .unset, .unset] []))
                  refine go (fun _ => XS.aload X220.here hx rfl (hb hby at_423) rfl rfl) ?_
                  show Go _ p e below s _ _ _ (T220.setTop (mkF m 425 #[.val (.int p1), .val (.int p2), .val (.int p3), .val (.int p4), .val (.int p5), .val (.int p6), .val (.ref b211), .val (.int q2), .val (.int f2), .val (.int (1 : Int32)), .val (.int e3), .val (.int f3), .unset, .unset, .unset, .unset] [(.ref b211)]))
                  refine go (fun _ => XS.iload X220.here hx rfl (hb hby at_425) rfl) ?_
                  show Go _ p e below s _ _ _ (T220.setTop (mkF m 427 #[.val (.int p1), .val (.int p2), .val (.int p3), .val (.int p4), .val (.int p5), .val (.int p6), .val (.ref b211), .val (.int q2), .val (.int f2), .val (.int (1 : Int32)), .val (.int e3), .val (.int f3), .unset, .unset, .unset, .unset] [(.int p5), (.ref b211)]))
                  refine go (fun _ => XS.iload X220.here hx rfl (hb hby at_427) rfl) ?_
                  show Go _ p e below s _ _ _ (T220.setTop (mkF m 429 #[.val (.int p1), .val (.int p2), .val (.int p3), .val (.int p4), .val (.int p5), .val (.int p6), .val (.ref b211), .val (.int q2), .val (.int f2), .val (.int (1 : Int32)), .val (.int e3), .val (.int f3), .unset, .unset, .unset, .unset] [(.int p6), (.int p5), (.ref b211)]))
                  refine go (fun _ => XS.bipush X220.here hx rfl (hb hby at_429)) ?_
                  show Go _ p e below s _ _ _ (T220.setTop (mkF m 431 #[.val (.int p1), .val (.int p2), .val (.int p3), .val (.int p4), .val (.int p5), .val (.int p6), .val (.ref b211), .val (.int q2), .val (.int f2), .val (.int (1 : Int32)), .val (.int e3), .val (.int f3), .unset, .unset, .unset, .unset] [(.int (6 : Int32)), (.int p6), (.int p5), (.ref b211)]))
                  refine go (fun _ => XS.ishr X220.here hx rfl (hb hby at_431) rfl) ?_
                  show Go _ p e below s _ _ _ (T220.setTop (mkF m 432 #[.val (.int p1), .val (.int p2), .val (.int p3), .val (.int p4), .val (.int p5), .val (.int p6), .val (.ref b211), .val (.int q2), .val (.int f2), .val (.int (1 : Int32)), .val (.int e3), .val (.int f3), .unset, .unset, .unset, .unset] [(.int (p6 >>> ((6 : Int32) &&& 31))), (.int p5), (.ref b211)]))
                  refine go (fun _ => XS.iconst X220.here hx rfl (hb hby at_432)) ?_
                  show Go _ p e below s _ _ _ (T220.setTop (mkF m 433 #[.val (.int p1), .val (.int p2), .val (.int p3), .val (.int p4), .val (.int p5), .val (.int p6), .val (.ref b211), .val (.int q2), .val (.int f2), .val (.int (1 : Int32)), .val (.int e3), .val (.int f3), .unset, .unset, .unset, .unset] [(.int (3 : Int32)), (.int (p6 >>> ((6 : Int32) &&& 31))), (.int p5), (.ref b211)]))
                  refine go (fun _ => XS.iand X220.here hx rfl (hb hby at_433) rfl) ?_
                  show Go _ p e below s _ _ _ (T220.setTop (mkF m 434 #[.val (.int p1), .val (.int p2), .val (.int p3), .val (.int p4), .val (.int p5), .val (.int p6), .val (.ref b211), .val (.int q2), .val (.int f2), .val (.int (1 : Int32)), .val (.int e3), .val (.int f3), .unset, .unset, .unset, .unset] [(.int ((p6 >>> ((6 : Int32) &&& 31)) &&& (3 : Int32))), (.int p5), (.ref b211)]))
                  refine go (fun _ => XS.iload X220.here hx rfl (hb hby at_434) rfl) ?_
                  show Go _ p e below s _ _ _ (T220.setTop (mkF m 436 #[.val (.int p1), .val (.int p2), .val (.int p3), .val (.int p4), .val (.int p5), .val (.int p6), .val (.ref b211), .val (.int q2), .val (.int f2), .val (.int (1 : Int32)), .val (.int e3), .val (.int f3), .unset, .unset, .unset, .unset] [(.int f2), (.int ((p6 >>> ((6 : Int32) &&& 31)) &&& (3 : Int32))), (.int p5), (.ref b211)]))
                  refine go (fun _ => XS.iload X220.here hx rfl (hb hby at_436) rfl) ?_
                  show Go _ p e below s _ _ _ (T220.setTop (mkF m 438 #[.val (.int p1), .val (.int p2), .val (.int p3), .val (.int p4), .val (.int p5), .val (.int p6), .val (.ref b211), .val (.int q2), .val (.int f2), .val (.int (1 : Int32)), .val (.int e3), .val (.int f3), .unset, .unset, .unset, .unset] [(.int f3), (.int f2), (.int ((p6 >>> ((6 : Int32) &&& 31)) &&& (3 : Int32))), (.int p5), (.ref b211)]))
                  obtain ⟨sp3, hsp3, -⟩ := own_and3 (p6 >>> ((6 : Int32) &&& 31))
                  obtain ⟨_, _, ⟨T221, L221, k221, n221⟩, -, X221, ⟨Lc221, hQ221, l221, y221, z221⟩, st221⟩ := Jvm.LawKit.callS X220 hx (y := (⟨"com/example/dosisbog/dosisbog/HeadEndWholePinLaw", "feed", "(Lcom/example/dosisbog/dosisbog/HttpRequest$HeadEnd;IIZZ)Z"⟩ : MethodName)) hown (mvT hZ (hw _ (List.mem_of_getElem? (i := 13) rfl))) (mvT hZ (hw _ (List.mem_of_getElem? (i := 14) rfl))) (mvT hZ (hw _ (List.mem_of_getElem? (i := 11) rfl))) (mvT hZ (hw _ (List.mem_of_getElem? (i := 15) rfl))) (by decide) (backOf (W := 0) (rm4 l Z a0 hw [] b211 p5 ((p6 >>> ((6 : Int32) &&& 31)) &&& (3 : Int32)) f2 f3 w1219 w2219 w3219 w4219 w5219 q2 f2 9 sp3 (T219.heap) n0 ZN219 c219_0 G_b211 u219_1 u219_2 u219_3 u219_4 u219_5 (by rw [hq2, hf2, ← he2]; exact u219_6) (by decide) hsp3 rfl (by rw [he3]; exact hf3)) hZ (hw _ (List.mem_of_getElem? (i := 15) rfl)) (hw _ (List.mem_of_getElem? (i := 11) rfl)) (by decide) (by decide)) (g := (mkF m 438 #[.val (.int p1), .val (.int p2), .val (.int p3), .val (.int p4), .val (.int p5), .val (.int p6), .val (.ref b211), .val (.int q2), .val (.int f2), .val (.int (1 : Int32)), .val (.int e3), .val (.int f3), .unset, .unset, .unset, .unset] [(.int f3), (.int f2), (.int ((p6 >>> ((6 : Int32) &&& 31)) &&& (3 : Int32))), (.int p5), (.ref b211)])) rfl (by rw [hml]; rfl) (argsL := [(.ref b211), (.int p5), (.int ((p6 >>> ((6 : Int32) &&& 31)) &&& (3 : Int32))), (.int f2), (.int f3)]) (rest := []) (lenOf pd_0_2 rfl) rfl (by show 2 * 0 + _ ≤ _; exact Nat.le_of_eq rfl) (hb hby at_438) (fun _ _ => ⟨rfl, e220, (by decide : 4 + 1 ≤ _), (by decide : 20 + 5 ≤ _)⟩)
                  dsimp only [Pt.U, Pt.locs, Pt.cells, Pt.slots] at X221 l221 y221 z221 st221 hQ221
                  subst l221 y221 z221
                  obtain ⟨w1221, w2221, w3221, w4221, w5221, rfl, N221q, K221, u221_1, u221_2, u221_3, u221_4, u221_5, u221_6⟩ := hQ221
                  have N221 := Fr.app N220 N221q
                  have c221_0 := c219_0.keep K221
                  have KK221 : Keep h0 T221.heap [] := KK219.trans K221 (allS (P := fun x => x ∈ [] ∨ h0.size ≤ x) (Or.inr SZ_b211) all0)
                  have ZN221 : n0 ≤ T221.heap.size := Nat.le_trans ZN219 K221.1
                  refine go st221 ?_
                  show Go _ p e below s _ _ _ (T221.setTop (mkF m 441 #[.val (.int p1), .val (.int p2), .val (.int p3), .val (.int p4), .val (.int p5), .val (.int p6), .val (.ref b211), .val (.int q2), .val (.int f2), .val (.int (1 : Int32)), .val (.int e3), .val (.int f3), .unset, .unset, .unset, .unset] [(.int (1 : Int32))]))
                  refine go (fun _ => XS.ifNo X221.here hx rfl (hb hby at_441) rfl ((if0 _ _).trans (feq (by decide : ¬ ((1 : Int32) = (0 : Int32)))).1)) ?_
                  show Go _ p e below s _ _ _ (T221.setTop (mkF m 444 #[.val (.int p1), .val (.int p2), .val (.int p3), .val (.int p4), .val (.int p5), .val (.int p6), .val (.ref b211), .val (.int q2), .val (.int f2), .val (.int (1 : Int32)), .val (.int e3), .val (.int f3), .unset, .unset, .unset, .unset] []))
                  refine go (fun _ => XS.iconst X221.here hx rfl (hb hby at_444)) ?_
                  show Go _ p e below s _ _ _ (T221.setTop (mkF m 445 #[.val (.int p1), .val (.int p2), .val (.int p3), .val (.int p4), .val (.int p5), .val (.int p6), .val (.ref b211), .val (.int q2), .val (.int f2), .val (.int (1 : Int32)), .val (.int e3), .val (.int f3), .unset, .unset, .unset, .unset] [(.int (1 : Int32))]))
                  refine go (fun _ => XS.goto X221.here hx rfl (pc0 := 445) (pc' := 449) rfl (hb hby at_445) (by decide) (by decide)) ?_
                  show Go _ p e below s _ _ _ (T221.setTop (mkF m 449 #[.val (.int p1), .val (.int p2), .val (.int p3), .val (.int p4), .val (.int p5), .val (.int p6), .val (.ref b211), .val (.int q2), .val (.int f2), .val (.int (1 : Int32)), .val (.int e3), .val (.int f3), .unset, .unset, .unset, .unset] [(.int (1 : Int32))]))
                  refine go (fun _ => XS.istore X221.here hx rfl (hb hby at_449) rfl (l' := #[.val (.int p1), .val (.int p2), .val (.int p3), .val (.int p4), .val (.int p5), .val (.int p6), .val (.ref b211), .val (.int q2), .val (.int f2), .val (.int (1 : Int32)), .val (.int e3), .val (.int f3), .unset, .unset, .unset, .unset]) rfl) ?_
                  show Go _ p e below s _ _ _ (T221.setTop (mkF m 451 #[.val (.int p1), .val (.int p2), .val (.int p3), .val (.int p4), .val (.int p5), .val (.int p6), .val (.ref b211), .val (.int q2), .val (.int f2), .val (.int (1 : Int32)), .val (.int e3), .val (.int f3), .unset, .unset, .unset, .unset] []))
                  refine go (fun _ => XS.iload X221.here hx rfl (hb hby at_451) rfl) ?_
                  show Go _ p e below s _ _ _ (T221.setTop (mkF m 453 #[.val (.int p1), .val (.int p2), .val (.int p3), .val (.int p4), .val (.int p5), .val (.int p6), .val (.ref b211), .val (.int q2), .val (.int f2), .val (.int (1 : Int32)), .val (.int e3), .val (.int f3), .unset, .unset, .unset, .unset] [(.int (1 : Int32))]))
                  refine goRet X221 hx Bd.notSynchronized Bd.returns rfl (Or.inl ⟨rfl, Or.inr (Or.inl rfl), _, rfl⟩) (hb hby at_453) (by decide) (by decide) (by refine ⟨rfl, N221⟩)
                refine go (fun _ => XS.iload X220.here hx rfl (hb hby at_396) rfl) ?_
                show Go _ p e below s _ _ _ (T220.setTop (mkF m 398 #[.val (.int p1), .val (.int p2), .val (.int p3), .val (.int p4), .val (.int p5), .val (.int p6), .val (.ref b211), .val (.int q2), .val (.int f2), .val (.int (1 : Int32)), .val (.int e3), .val (.int f2), .unset, .unset, .unset, .unset] [(.int f2)]))
                by_cases hc398_222 : f2 = (0 : Int32)
                · refine go (fun _ => XS.ifNo X220.here hx rfl (hb hby at_398) rfl ((if0 _ _).trans (teq hc398_222).2)) ?_
                  show Go _ p e below s _ _ _ (T220.setTop (mkF m 401 #[.val (.int p1), .val (.int p2), .val (.int p3), .val (.int p4), .val (.int p5), .val (.int p6), .val (.ref b211), .val (.int q2), .val (.int f2), .val (.int (1 : Int32)), .val (.int e3), .val (.int f2), .unset, .unset, .unset, .unset] []))
                  refine go (fun _ => XS.iload X220.here hx rfl (hb hby at_401) rfl) ?_
                  show Go _ p e below s _ _ _ (T220.setTop (mkF m 403 #[.val (.int p1), .val (.int p2), .val (.int p3), .val (.int p4), .val (.int p5), .val (.int p6), .val (.ref b211), .val (.int q2), .val (.int f2), .val (.int (1 : Int32)), .val (.int e3), .val (.int f2), .unset, .unset, .unset, .unset] [(.int e3)]))
                  by_cases hc403_223 : e3 = (0 : Int32)
                  · refine go (fun _ => XS.ifYes X220.here hx rfl (pc0 := 403) (pc' := 415) rfl (hb hby at_403) rfl ((if0 _ _).trans (teq hc403_223).1) (by decide) (by decide)) ?_
                    show Go _ p e below s _ _ _ (T220.setTop (mkF m 415 #[.val (.int p1), .val (.int p2), .val (.int p3), .val (.int p4), .val (.int p5), .val (.int p6), .val (.ref b211), .val (.int q2), .val (.int f2), .val (.int (1 : Int32)), .val (.int e3), .val (.int f2), .unset, .unset, .unset, .unset] []))
                    refine go (fun _ => XS.iconst X220.here hx rfl (hb hby at_415)) ?_
                    show Go _ p e below s _ _ _ (T220.setTop (mkF m 416 #[.val (.int p1), .val (.int p2), .val (.int p3), .val (.int p4), .val (.int p5), .val (.int p6), .val (.ref b211), .val (.int q2), .val (.int f2), .val (.int (1 : Int32)), .val (.int e3), .val (.int f2), .unset, .unset, .unset, .unset] [(.int (0 : Int32))]))
                    exact JF3 _ (by unfold own_fd; simp [hc398_222, hc403_223])
                  · refine go (fun _ => XS.ifNo X220.here hx rfl (hb hby at_403) rfl ((if0 _ _).trans (feq hc403_223).1)) ?_
                    show Go _ p e below s _ _ _ (T220.setTop (mkF m 406 #[.val (.int p1), .val (.int p2), .val (.int p3), .val (.int p4), .val (.int p5), .val (.int p6), .val (.ref b211), .val (.int q2), .val (.int f2), .val (.int (1 : Int32)), .val (.int e3), .val (.int f2), .unset, .unset, .unset, .unset] []))
                    refine go (fun _ => XS.iload X220.here hx rfl (hb hby at_406) rfl) ?_
                    show Go _ p e below s _ _ _ (T220.setTop (mkF m 408 #[.val (.int p1), .val (.int p2), .val (.int p3), .val (.int p4), .val (.int p5), .val (.int p6), .val (.ref b211), .val (.int q2), .val (.int f2), .val (.int (1 : Int32)), .val (.int e3), .val (.int f2), .unset, .unset, .unset, .unset] [(.int q2)]))
                    by_cases hc408_224 : q2 = (0 : Int32)
                    · refine go (fun _ => XS.ifYes X220.here hx rfl (pc0 := 408) (pc' := 415) rfl (hb hby at_408) rfl ((if0 _ _).trans (teq hc408_224).1) (by decide) (by decide)) ?_
                      show Go _ p e below s _ _ _ (T220.setTop (mkF m 415 #[.val (.int p1), .val (.int p2), .val (.int p3), .val (.int p4), .val (.int p5), .val (.int p6), .val (.ref b211), .val (.int q2), .val (.int f2), .val (.int (1 : Int32)), .val (.int e3), .val (.int f2), .unset, .unset, .unset, .unset] []))
                      refine go (fun _ => XS.iconst X220.here hx rfl (hb hby at_415)) ?_
                      show Go _ p e below s _ _ _ (T220.setTop (mkF m 416 #[.val (.int p1), .val (.int p2), .val (.int p3), .val (.int p4), .val (.int p5), .val (.int p6), .val (.ref b211), .val (.int q2), .val (.int f2), .val (.int (1 : Int32)), .val (.int e3), .val (.int f2), .unset, .unset, .unset, .unset] [(.int (0 : Int32))]))
                      exact JF3 _ (by unfold own_fd; simp [hc398_222, hc403_223, hc408_224])
                    · refine go (fun _ => XS.ifNo X220.here hx rfl (hb hby at_408) rfl ((if0 _ _).trans (feq hc408_224).1)) ?_
                      show Go _ p e below s _ _ _ (T220.setTop (mkF m 411 #[.val (.int p1), .val (.int p2), .val (.int p3), .val (.int p4), .val (.int p5), .val (.int p6), .val (.ref b211), .val (.int q2), .val (.int f2), .val (.int (1 : Int32)), .val (.int e3), .val (.int f2), .unset, .unset, .unset, .unset] []))
                      refine go (fun _ => XS.iconst X220.here hx rfl (hb hby at_411)) ?_
                      show Go _ p e below s _ _ _ (T220.setTop (mkF m 412 #[.val (.int p1), .val (.int p2), .val (.int p3), .val (.int p4), .val (.int p5), .val (.int p6), .val (.ref b211), .val (.int q2), .val (.int f2), .val (.int (1 : Int32)), .val (.int e3), .val (.int f2), .unset, .unset, .unset, .unset] [(.int (1 : Int32))]))
                      refine go (fun _ => XS.goto X220.here hx rfl (pc0 := 412) (pc' := 416) rfl (hb hby at_412) (by decide) (by decide)) ?_
                      show Go _ p e below s _ _ _ (T220.setTop (mkF m 416 #[.val (.int p1), .val (.int p2), .val (.int p3), .val (.int p4), .val (.int p5), .val (.int p6), .val (.ref b211), .val (.int q2), .val (.int f2), .val (.int (1 : Int32)), .val (.int e3), .val (.int f2), .unset, .unset, .unset, .unset] [(.int (1 : Int32))]))
                      exact JF3 _ (by unfold own_fd; simp [hc398_222, hc403_223, hc408_224])
                · refine go (fun _ => XS.ifYes X220.here hx rfl (pc0 := 398) (pc' := 411) rfl (hb hby at_398) rfl ((if0 _ _).trans (feq hc398_222).2) (by decide) (by decide)) ?_
                  show Go _ p e below s _ _ _ (T220.setTop (mkF m 411 #[.val (.int p1), .val (.int p2), .val (.int p3), .val (.int p4), .val (.int p5), .val (.int p6), .val (.ref b211), .val (.int q2), .val (.int f2), .val (.int (1 : Int32)), .val (.int e3), .val (.int f2), .unset, .unset, .unset, .unset] []))
                  refine go (fun _ => XS.iconst X220.here hx rfl (hb hby at_411)) ?_
                  show Go _ p e below s _ _ _ (T220.setTop (mkF m 412 #[.val (.int p1), .val (.int p2), .val (.int p3), .val (.int p4), .val (.int p5), .val (.int p6), .val (.ref b211), .val (.int q2), .val (.int f2), .val (.int (1 : Int32)), .val (.int e3), .val (.int f2), .unset, .unset, .unset, .unset] [(.int (1 : Int32))]))
                  refine go (fun _ => XS.goto X220.here hx rfl (pc0 := 412) (pc' := 416) rfl (hb hby at_412) (by decide) (by decide)) ?_
                  show Go _ p e below s _ _ _ (T220.setTop (mkF m 416 #[.val (.int p1), .val (.int p2), .val (.int p3), .val (.int p4), .val (.int p5), .val (.int p6), .val (.ref b211), .val (.int q2), .val (.int f2), .val (.int (1 : Int32)), .val (.int e3), .val (.int f2), .unset, .unset, .unset, .unset] [(.int (1 : Int32))]))
                  exact JF3 _ (by unfold own_fd; simp [hc398_222])
              refine go (fun _ => XS.iload X219.here hx rfl (hb hby at_372) rfl) ?_
              show Go _ p e below s _ _ _ (T219.setTop (mkF m 374 #[.val (.int p1), .val (.int p2), .val (.int p3), .val (.int p4), .val (.int p5), .val (.int p6), .val (.ref b211), .val (.int q1), .val (.int f2), .val (.int (1 : Int32)), .val (.int e2), .val (.int f2), .unset, .unset, .unset, .unset] [(.int q1)]))
              by_cases hc374_225 : q1 = (0 : Int32)
              · refine go (fun _ => XS.ifNo X219.here hx rfl (hb hby at_374) rfl ((if0 _ _).trans (teq hc374_225).2)) ?_
                show Go _ p e below s _ _ _ (T219.setTop (mkF m 377 #[.val (.int p1), .val (.int p2), .val (.int p3), .val (.int p4), .val (.int p5), .val (.int p6), .val (.ref b211), .val (.int q1), .val (.int f2), .val (.int (1 : Int32)), .val (.int e2), .val (.int f2), .unset, .unset, .unset, .unset] []))
                refine go (fun _ => XS.iload X219.here hx rfl (hb hby at_377) rfl) ?_
                show Go _ p e below s _ _ _ (T219.setTop (mkF m 379 #[.val (.int p1), .val (.int p2), .val (.int p3), .val (.int p4), .val (.int p5), .val (.int p6), .val (.ref b211), .val (.int q1), .val (.int f2), .val (.int (1 : Int32)), .val (.int e2), .val (.int f2), .unset, .unset, .unset, .unset] [(.int e2)]))
                by_cases hc379_226 : e2 = (0 : Int32)
                · refine go (fun _ => XS.ifNo X219.here hx rfl (hb hby at_379) rfl ((if0 _ _).trans (teq hc379_226).2)) ?_
                  show Go _ p e below s _ _ _ (T219.setTop (mkF m 382 #[.val (.int p1), .val (.int p2), .val (.int p3), .val (.int p4), .val (.int p5), .val (.int p6), .val (.ref b211), .val (.int q1), .val (.int f2), .val (.int (1 : Int32)), .val (.int e2), .val (.int f2), .unset, .unset, .unset, .unset] []))
                  refine go (fun _ => XS.iconst X219.here hx rfl (hb hby at_382)) ?_
                  show Go _ p e below s _ _ _ (T219.setTop (mkF m 383 #[.val (.int p1), .val (.int p2), .val (.int p3), .val (.int p4), .val (.int p5), .val (.int p6), .val (.ref b211), .val (.int q1), .val (.int f2), .val (.int (1 : Int32)), .val (.int e2), .val (.int f2), .unset, .unset, .unset, .unset] [(.int (1 : Int32))]))
                  refine go (fun _ => XS.goto X219.here hx rfl (pc0 := 383) (pc' := 387) rfl (hb hby at_383) (by decide) (by decide)) ?_
                  show Go _ p e below s _ _ _ (T219.setTop (mkF m 387 #[.val (.int p1), .val (.int p2), .val (.int p3), .val (.int p4), .val (.int p5), .val (.int p6), .val (.ref b211), .val (.int q1), .val (.int f2), .val (.int (1 : Int32)), .val (.int e2), .val (.int f2), .unset, .unset, .unset, .unset] [(.int (1 : Int32))]))
                  exact JQ2 _ (by unfold own_rq; simp [hc374_225, hc379_226])
                · refine go (fun _ => XS.ifYes X219.here hx rfl (pc0 := 379) (pc' := 386) rfl (hb hby at_379) rfl ((if0 _ _).trans (feq hc379_226).2) (by decide) (by decide)) ?_
                  show Go _ p e below s _ _ _ (T219.setTop (mkF m 386 #[.val (.int p1), .val (.int p2), .val (.int p3), .val (.int p4), .val (.int p5), .val (.int p6), .val (.ref b211), .val (.int q1), .val (.int f2), .val (.int (1 : Int32)), .val (.int e2), .val (.int f2), .unset, .unset, .unset, .unset] []))
                  refine go (fun _ => XS.iconst X219.here hx rfl (hb hby at_386)) ?_
                  show Go _ p e below s _ _ _ (T219.setTop (mkF m 387 #[.val (.int p1), .val (.int p2), .val (.int p3), .val (.int p4), .val (.int p5), .val (.int p6), .val (.ref b211), .val (.int q1), .val (.int f2), .val (.int (1 : Int32)), .val (.int e2), .val (.int f2), .unset, .unset, .unset, .unset] [(.int (0 : Int32))]))
                  exact JQ2 _ (by unfold own_rq; simp [hc374_225, hc379_226])
              · refine go (fun _ => XS.ifYes X219.here hx rfl (pc0 := 374) (pc' := 382) rfl (hb hby at_374) rfl ((if0 _ _).trans (feq hc374_225).2) (by decide) (by decide)) ?_
                show Go _ p e below s _ _ _ (T219.setTop (mkF m 382 #[.val (.int p1), .val (.int p2), .val (.int p3), .val (.int p4), .val (.int p5), .val (.int p6), .val (.ref b211), .val (.int q1), .val (.int f2), .val (.int (1 : Int32)), .val (.int e2), .val (.int f2), .unset, .unset, .unset, .unset] []))
                refine go (fun _ => XS.iconst X219.here hx rfl (hb hby at_382)) ?_
                show Go _ p e below s _ _ _ (T219.setTop (mkF m 383 #[.val (.int p1), .val (.int p2), .val (.int p3), .val (.int p4), .val (.int p5), .val (.int p6), .val (.ref b211), .val (.int q1), .val (.int f2), .val (.int (1 : Int32)), .val (.int e2), .val (.int f2), .unset, .unset, .unset, .unset] [(.int (1 : Int32))]))
                refine go (fun _ => XS.goto X219.here hx rfl (pc0 := 383) (pc' := 387) rfl (hb hby at_383) (by decide) (by decide)) ?_
                show Go _ p e below s _ _ _ (T219.setTop (mkF m 387 #[.val (.int p1), .val (.int p2), .val (.int p3), .val (.int p4), .val (.int p5), .val (.int p6), .val (.ref b211), .val (.int q1), .val (.int f2), .val (.int (1 : Int32)), .val (.int e2), .val (.int f2), .unset, .unset, .unset, .unset] [(.int (1 : Int32))]))
                exact JQ2 _ (by unfold own_rq; simp [hc374_225])
            refine go (fun _ => XS.iload X218.here hx rfl (hb hby at_315) rfl) ?_
            show Go _ p e below s _ _ _ (T218.setTop (mkF m 317 #[.val (.int p1), .val (.int p2), .val (.int p3), .val (.int p4), .val (.int p5), .val (.int p6), .val (.ref b211), .val (.int q1), .val (.int f1), .val (.int (1 : Int32)), .val (.int e2), .val (.int f1), .unset, .unset, .unset, .unset] [(.int f1)]))
            by_cases hc317_227 : f1 = (0 : Int32)
            · refine go (fun _ => XS.ifNo X218.here hx rfl (hb hby at_317) rfl ((if0 _ _).trans (teq hc317_227).2)) ?_
              show Go _ p e below s _ _ _ (T218.setTop (mkF m 320 #[.val (.int p1), .val (.int p2), .val (.int p3), .val (.int p4), .val (.int p5), .val (.int p6), .val (.ref b211), .val (.int q1), .val (.int f1), .val (.int (1 : Int32)), .val (.int e2), .val (.int f1), .unset, .unset, .unset, .unset] []))
              refine go (fun _ => XS.iload X218.here hx rfl (hb hby at_320) rfl) ?_
              show Go _ p e below s _ _ _ (T218.setTop (mkF m 322 #[.val (.int p1), .val (.int p2), .val (.int p3), .val (.int p4), .val (.int p5), .val (.int p6), .val (.ref b211), .val (.int q1), .val (.int f1), .val (.int (1 : Int32)), .val (.int e2), .val (.int f1), .unset, .unset, .unset, .unset] [(.int e2)]))
              by_cases hc322_228 : e2 = (0 : Int32)
              · refine go (fun _ => XS.ifYes X218.here hx rfl (pc0 := 322) (pc' := 334) rfl (hb hby at_322) rfl ((if0 _ _).trans (teq hc322_228).1) (by decide) (by decide)) ?_
                show Go _ p e below s _ _ _ (T218.setTop (mkF m 334 #[.val (.int p1), .val (.int p2), .val (.int p3), .val (.int p4), .val (.int p5), .val (.int p6), .val (.ref b211), .val (.int q1), .val (.int f1), .val (.int (1 : Int32)), .val (.int e2), .val (.int f1), .unset, .unset, .unset, .unset] []))
                refine go (fun _ => XS.iconst X218.here hx rfl (hb hby at_334)) ?_
                show Go _ p e below s _ _ _ (T218.setTop (mkF m 335 #[.val (.int p1), .val (.int p2), .val (.int p3), .val (.int p4), .val (.int p5), .val (.int p6), .val (.ref b211), .val (.int q1), .val (.int f1), .val (.int (1 : Int32)), .val (.int e2), .val (.int f1), .unset, .unset, .unset, .unset] [(.int (0 : Int32))]))
                exact JF2 _ (by unfold own_fd; simp [hc317_227, hc322_228])
              · refine go (fun _ => XS.ifNo X218.here hx rfl (hb hby at_322) rfl ((if0 _ _).trans (feq hc322_228).1)) ?_
                show Go _ p e below s _ _ _ (T218.setTop (mkF m 325 #[.val (.int p1), .val (.int p2), .val (.int p3), .val (.int p4), .val (.int p5), .val (.int p6), .val (.ref b211), .val (.int q1), .val (.int f1), .val (.int (1 : Int32)), .val (.int e2), .val (.int f1), .unset, .unset, .unset, .unset] []))
                refine go (fun _ => XS.iload X218.here hx rfl (hb hby at_325) rfl) ?_
                show Go _ p e below s _ _ _ (T218.setTop (mkF m 327 #[.val (.int p1), .val (.int p2), .val (.int p3), .val (.int p4), .val (.int p5), .val (.int p6), .val (.ref b211), .val (.int q1), .val (.int f1), .val (.int (1 : Int32)), .val (.int e2), .val (.int f1), .unset, .unset, .unset, .unset] [(.int q1)]))
                by_cases hc327_229 : q1 = (0 : Int32)
                · refine go (fun _ => XS.ifYes X218.here hx rfl (pc0 := 327) (pc' := 334) rfl (hb hby at_327) rfl ((if0 _ _).trans (teq hc327_229).1) (by decide) (by decide)) ?_
                  show Go _ p e below s _ _ _ (T218.setTop (mkF m 334 #[.val (.int p1), .val (.int p2), .val (.int p3), .val (.int p4), .val (.int p5), .val (.int p6), .val (.ref b211), .val (.int q1), .val (.int f1), .val (.int (1 : Int32)), .val (.int e2), .val (.int f1), .unset, .unset, .unset, .unset] []))
                  refine go (fun _ => XS.iconst X218.here hx rfl (hb hby at_334)) ?_
                  show Go _ p e below s _ _ _ (T218.setTop (mkF m 335 #[.val (.int p1), .val (.int p2), .val (.int p3), .val (.int p4), .val (.int p5), .val (.int p6), .val (.ref b211), .val (.int q1), .val (.int f1), .val (.int (1 : Int32)), .val (.int e2), .val (.int f1), .unset, .unset, .unset, .unset] [(.int (0 : Int32))]))
                  exact JF2 _ (by unfold own_fd; simp [hc317_227, hc322_228, hc327_229])
                · refine go (fun _ => XS.ifNo X218.here hx rfl (hb hby at_327) rfl ((if0 _ _).trans (feq hc327_229).1)) ?_
                  show Go _ p e below s _ _ _ (T218.setTop (mkF m 330 #[.val (.int p1), .val (.int p2), .val (.int p3), .val (.int p4), .val (.int p5), .val (.int p6), .val (.ref b211), .val (.int q1), .val (.int f1), .val (.int (1 : Int32)), .val (.int e2), .val (.int f1), .unset, .unset, .unset, .unset] []))
                  refine go (fun _ => XS.iconst X218.here hx rfl (hb hby at_330)) ?_
                  show Go _ p e below s _ _ _ (T218.setTop (mkF m 331 #[.val (.int p1), .val (.int p2), .val (.int p3), .val (.int p4), .val (.int p5), .val (.int p6), .val (.ref b211), .val (.int q1), .val (.int f1), .val (.int (1 : Int32)), .val (.int e2), .val (.int f1), .unset, .unset, .unset, .unset] [(.int (1 : Int32))]))
                  refine go (fun _ => XS.goto X218.here hx rfl (pc0 := 331) (pc' := 335) rfl (hb hby at_331) (by decide) (by decide)) ?_
                  show Go _ p e below s _ _ _ (T218.setTop (mkF m 335 #[.val (.int p1), .val (.int p2), .val (.int p3), .val (.int p4), .val (.int p5), .val (.int p6), .val (.ref b211), .val (.int q1), .val (.int f1), .val (.int (1 : Int32)), .val (.int e2), .val (.int f1), .unset, .unset, .unset, .unset] [(.int (1 : Int32))]))
                  exact JF2 _ (by unfold own_fd; simp [hc317_227, hc322_228, hc327_229])
            · refine go (fun _ => XS.ifYes X218.here hx rfl (pc0 := 317) (pc' := 330) rfl (hb hby at_317) rfl ((if0 _ _).trans (feq hc317_227).2) (by decide) (by decide)) ?_
              show Go _ p e below s _ _ _ (T218.setTop (mkF m 330 #[.val (.int p1), .val (.int p2), .val (.int p3), .val (.int p4), .val (.int p5), .val (.int p6), .val (.ref b211), .val (.int q1), .val (.int f1), .val (.int (1 : Int32)), .val (.int e2), .val (.int f1), .unset, .unset, .unset, .unset] []))
              refine go (fun _ => XS.iconst X218.here hx rfl (hb hby at_330)) ?_
              show Go _ p e below s _ _ _ (T218.setTop (mkF m 331 #[.val (.int p1), .val (.int p2), .val (.int p3), .val (.int p4), .val (.int p5), .val (.int p6), .val (.ref b211), .val (.int q1), .val (.int f1), .val (.int (1 : Int32)), .val (.int e2), .val (.int f1), .unset, .unset, .unset, .unset] [(.int (1 : Int32))]))
              refine go (fun _ => XS.goto X218.here hx rfl (pc0 := 331) (pc' := 335) rfl (hb hby at_331) (by decide) (by decide)) ?_
              show Go _ p e below s _ _ _ (T218.setTop (mkF m 335 #[.val (.int p1), .val (.int p2), .val (.int p3), .val (.int p4), .val (.int p5), .val (.int p6), .val (.ref b211), .val (.int q1), .val (.int f1), .val (.int (1 : Int32)), .val (.int e2), .val (.int f1), .unset, .unset, .unset, .unset] [(.int (1 : Int32))]))
              exact JF2 _ (by unfold own_fd; simp [hc317_227])
          refine go (fun _ => XS.iload X217.here hx rfl (hb hby at_292) rfl) ?_
          show Go _ p e below s _ _ _ (T217.setTop (mkF m 294 #[.val (.int p1), .val (.int p2), .val (.int p3), .val (.int p4), .val (.int p5), .val (.int p6), .val (.ref b211), .val (.int q0), .val (.int f1), .val (.int (1 : Int32)), .val (.int e1), .val (.int f1), .unset, .unset, .unset, .unset] [(.int q0)]))
          by_cases hc294_230 : q0 = (0 : Int32)
          · refine go (fun _ => XS.ifNo X217.here hx rfl (hb hby at_294) rfl ((if0 _ _).trans (teq hc294_230).2)) ?_
            show Go _ p e below s _ _ _ (T217.setTop (mkF m 297 #[.val (.int p1), .val (.int p2), .val (.int p3), .val (.int p4), .val (.int p5), .val (.int p6), .val (.ref b211), .val (.int q0), .val (.int f1), .val (.int (1 : Int32)), .val (.int e1), .val (.int f1), .unset, .unset, .unset, .unset] []))
            refine go (fun _ => XS.iload X217.here hx rfl (hb hby at_297) rfl) ?_
            show Go _ p e below s _ _ _ (T217.setTop (mkF m 299 #[.val (.int p1), .val (.int p2), .val (.int p3), .val (.int p4), .val (.int p5), .val (.int p6), .val (.ref b211), .val (.int q0), .val (.int f1), .val (.int (1 : Int32)), .val (.int e1), .val (.int f1), .unset, .unset, .unset, .unset] [(.int e1)]))
            by_cases hc299_231 : e1 = (0 : Int32)
            · refine go (fun _ => XS.ifNo X217.here hx rfl (hb hby at_299) rfl ((if0 _ _).trans (teq hc299_231).2)) ?_
              show Go _ p e below s _ _ _ (T217.setTop (mkF m 302 #[.val (.int p1), .val (.int p2), .val (.int p3), .val (.int p4), .val (.int p5), .val (.int p6), .val (.ref b211), .val (.int q0), .val (.int f1), .val (.int (1 : Int32)), .val (.int e1), .val (.int f1), .unset, .unset, .unset, .unset] []))
              refine go (fun _ => XS.iconst X217.here hx rfl (hb hby at_302)) ?_
              show Go _ p e below s _ _ _ (T217.setTop (mkF m 303 #[.val (.int p1), .val (.int p2), .val (.int p3), .val (.int p4), .val (.int p5), .val (.int p6), .val (.ref b211), .val (.int q0), .val (.int f1), .val (.int (1 : Int32)), .val (.int e1), .val (.int f1), .unset, .unset, .unset, .unset] [(.int (1 : Int32))]))
              refine go (fun _ => XS.goto X217.here hx rfl (pc0 := 303) (pc' := 307) rfl (hb hby at_303) (by decide) (by decide)) ?_
              show Go _ p e below s _ _ _ (T217.setTop (mkF m 307 #[.val (.int p1), .val (.int p2), .val (.int p3), .val (.int p4), .val (.int p5), .val (.int p6), .val (.ref b211), .val (.int q0), .val (.int f1), .val (.int (1 : Int32)), .val (.int e1), .val (.int f1), .unset, .unset, .unset, .unset] [(.int (1 : Int32))]))
              exact JQ1 _ (by unfold own_rq; simp [hc294_230, hc299_231])
            · refine go (fun _ => XS.ifYes X217.here hx rfl (pc0 := 299) (pc' := 306) rfl (hb hby at_299) rfl ((if0 _ _).trans (feq hc299_231).2) (by decide) (by decide)) ?_
              show Go _ p e below s _ _ _ (T217.setTop (mkF m 306 #[.val (.int p1), .val (.int p2), .val (.int p3), .val (.int p4), .val (.int p5), .val (.int p6), .val (.ref b211), .val (.int q0), .val (.int f1), .val (.int (1 : Int32)), .val (.int e1), .val (.int f1), .unset, .unset, .unset, .unset] []))
              refine go (fun _ => XS.iconst X217.here hx rfl (hb hby at_306)) ?_
              show Go _ p e below s _ _ _ (T217.setTop (mkF m 307 #[.val (.int p1), .val (.int p2), .val (.int p3), .val (.int p4), .val (.int p5), .val (.int p6), .val (.ref b211), .val (.int q0), .val (.int f1), .val (.int (1 : Int32)), .val (.int e1), .val (.int f1), .unset, .unset, .unset, .unset] [(.int (0 : Int32))]))
              exact JQ1 _ (by unfold own_rq; simp [hc294_230, hc299_231])
          · refine go (fun _ => XS.ifYes X217.here hx rfl (pc0 := 294) (pc' := 302) rfl (hb hby at_294) rfl ((if0 _ _).trans (feq hc294_230).2) (by decide) (by decide)) ?_
            show Go _ p e below s _ _ _ (T217.setTop (mkF m 302 #[.val (.int p1), .val (.int p2), .val (.int p3), .val (.int p4), .val (.int p5), .val (.int p6), .val (.ref b211), .val (.int q0), .val (.int f1), .val (.int (1 : Int32)), .val (.int e1), .val (.int f1), .unset, .unset, .unset, .unset] []))
            refine go (fun _ => XS.iconst X217.here hx rfl (hb hby at_302)) ?_
            show Go _ p e below s _ _ _ (T217.setTop (mkF m 303 #[.val (.int p1), .val (.int p2), .val (.int p3), .val (.int p4), .val (.int p5), .val (.int p6), .val (.ref b211), .val (.int q0), .val (.int f1), .val (.int (1 : Int32)), .val (.int e1), .val (.int f1), .unset, .unset, .unset, .unset] [(.int (1 : Int32))]))
            refine go (fun _ => XS.goto X217.here hx rfl (pc0 := 303) (pc' := 307) rfl (hb hby at_303) (by decide) (by decide)) ?_
            show Go _ p e below s _ _ _ (T217.setTop (mkF m 307 #[.val (.int p1), .val (.int p2), .val (.int p3), .val (.int p4), .val (.int p5), .val (.int p6), .val (.ref b211), .val (.int q0), .val (.int f1), .val (.int (1 : Int32)), .val (.int e1), .val (.int f1), .unset, .unset, .unset, .unset] [(.int (1 : Int32))]))
            exact JQ1 _ (by unfold own_rq; simp [hc294_230])
        refine go (fun _ => XS.iload X216.here hx rfl (hb hby at_235) rfl) ?_
        show Go _ p e below s _ _ _ (T216.setTop (mkF m 237 #[.val (.int p1), .val (.int p2), .val (.int p3), .val (.int p4), .val (.int p5), .val (.int p6), .val (.ref b211), .val (.int q0), .val (.int f0), .val (.int (1 : Int32)), .val (.int e1), .val (.int f0), .unset, .unset, .unset, .unset] [(.int f0)]))
        by_cases hc237_232 : f0 = (0 : Int32)
        · refine go (fun _ => XS.ifNo X216.here hx rfl (hb hby at_237) rfl ((if0 _ _).trans (teq hc237_232).2)) ?_
          show Go _ p e below s _ _ _ (T216.setTop (mkF m 240 #[.val (.int p1), .val (.int p2), .val (.int p3), .val (.int p4), .val (.int p5), .val (.int p6), .val (.ref b211), .val (.int q0), .val (.int f0), .val (.int (1 : Int32)), .val (.int e1), .val (.int f0), .unset, .unset, .unset, .unset] []))
          refine go (fun _ => XS.iload X216.here hx rfl (hb hby at_240) rfl) ?_
          show Go _ p e below s _ _ _ (T216.setTop (mkF m 242 #[.val (.int p1), .val (.int p2), .val (.int p3), .val (.int p4), .val (.int p5), .val (.int p6), .val (.ref b211), .val (.int q0), .val (.int f0), .val (.int (1 : Int32)), .val (.int e1), .val (.int f0), .unset, .unset, .unset, .unset] [(.int e1)]))
          by_cases hc242_233 : e1 = (0 : Int32)
          · refine go (fun _ => XS.ifYes X216.here hx rfl (pc0 := 242) (pc' := 254) rfl (hb hby at_242) rfl ((if0 _ _).trans (teq hc242_233).1) (by decide) (by decide)) ?_
            show Go _ p e below s _ _ _ (T216.setTop (mkF m 254 #[.val (.int p1), .val (.int p2), .val (.int p3), .val (.int p4), .val (.int p5), .val (.int p6), .val (.ref b211), .val (.int q0), .val (.int f0), .val (.int (1 : Int32)), .val (.int e1), .val (.int f0), .unset, .unset, .unset, .unset] []))
            refine go (fun _ => XS.iconst X216.here hx rfl (hb hby at_254)) ?_
            show Go _ p e below s _ _ _ (T216.setTop (mkF m 255 #[.val (.int p1), .val (.int p2), .val (.int p3), .val (.int p4), .val (.int p5), .val (.int p6), .val (.ref b211), .val (.int q0), .val (.int f0), .val (.int (1 : Int32)), .val (.int e1), .val (.int f0), .unset, .unset, .unset, .unset] [(.int (0 : Int32))]))
            exact JF1 _ (by unfold own_fd; simp [hc237_232, hc242_233])
          · refine go (fun _ => XS.ifNo X216.here hx rfl (hb hby at_242) rfl ((if0 _ _).trans (feq hc242_233).1)) ?_
            show Go _ p e below s _ _ _ (T216.setTop (mkF m 245 #[.val (.int p1), .val (.int p2), .val (.int p3), .val (.int p4), .val (.int p5), .val (.int p6), .val (.ref b211), .val (.int q0), .val (.int f0), .val (.int (1 : Int32)), .val (.int e1), .val (.int f0), .unset, .unset, .unset, .unset] []))
            refine go (fun _ => XS.iload X216.here hx rfl (hb hby at_245) rfl) ?_
            show Go _ p e below s _ _ _ (T216.setTop (mkF m 247 #[.val (.int p1), .val (.int p2), .val (.int p3), .val (.int p4), .val (.int p5), .val (.int p6), .val (.ref b211), .val (.int q0), .val (.int f0), .val (.int (1 : Int32)), .val (.int e1), .val (.int f0), .unset, .unset, .unset, .unset] [(.int q0)]))
            by_cases hc247_234 : q0 = (0 : Int32)
            · refine go (fun _ => XS.ifYes X216.here hx rfl (pc0 := 247) (pc' := 254) rfl (hb hby at_247) rfl ((if0 _ _).trans (teq hc247_234).1) (by decide) (by decide)) ?_
              show Go _ p e below s _ _ _ (T216.setTop (mkF m 254 #[.val (.int p1), .val (.int p2), .val (.int p3), .val (.int p4), .val (.int p5), .val (.int p6), .val (.ref b211), .val (.int q0), .val (.int f0), .val (.int (1 : Int32)), .val (.int e1), .val (.int f0), .unset, .unset, .unset, .unset] []))
              refine go (fun _ => XS.iconst X216.here hx rfl (hb hby at_254)) ?_
              show Go _ p e below s _ _ _ (T216.setTop (mkF m 255 #[.val (.int p1), .val (.int p2), .val (.int p3), .val (.int p4), .val (.int p5), .val (.int p6), .val (.ref b211), .val (.int q0), .val (.int f0), .val (.int (1 : Int32)), .val (.int e1), .val (.int f0), .unset, .unset, .unset, .unset] [(.int (0 : Int32))]))
              exact JF1 _ (by unfold own_fd; simp [hc237_232, hc242_233, hc247_234])
            · refine go (fun _ => XS.ifNo X216.here hx rfl (hb hby at_247) rfl ((if0 _ _).trans (feq hc247_234).1)) ?_
              show Go _ p e below s _ _ _ (T216.setTop (mkF m 250 #[.val (.int p1), .val (.int p2), .val (.int p3), .val (.int p4), .val (.int p5), .val (.int p6), .val (.ref b211), .val (.int q0), .val (.int f0), .val (.int (1 : Int32)), .val (.int e1), .val (.int f0), .unset, .unset, .unset, .unset] []))
              refine go (fun _ => XS.iconst X216.here hx rfl (hb hby at_250)) ?_
              show Go _ p e below s _ _ _ (T216.setTop (mkF m 251 #[.val (.int p1), .val (.int p2), .val (.int p3), .val (.int p4), .val (.int p5), .val (.int p6), .val (.ref b211), .val (.int q0), .val (.int f0), .val (.int (1 : Int32)), .val (.int e1), .val (.int f0), .unset, .unset, .unset, .unset] [(.int (1 : Int32))]))
              refine go (fun _ => XS.goto X216.here hx rfl (pc0 := 251) (pc' := 255) rfl (hb hby at_251) (by decide) (by decide)) ?_
              show Go _ p e below s _ _ _ (T216.setTop (mkF m 255 #[.val (.int p1), .val (.int p2), .val (.int p3), .val (.int p4), .val (.int p5), .val (.int p6), .val (.ref b211), .val (.int q0), .val (.int f0), .val (.int (1 : Int32)), .val (.int e1), .val (.int f0), .unset, .unset, .unset, .unset] [(.int (1 : Int32))]))
              exact JF1 _ (by unfold own_fd; simp [hc237_232, hc242_233, hc247_234])
        · refine go (fun _ => XS.ifYes X216.here hx rfl (pc0 := 237) (pc' := 250) rfl (hb hby at_237) rfl ((if0 _ _).trans (feq hc237_232).2) (by decide) (by decide)) ?_
          show Go _ p e below s _ _ _ (T216.setTop (mkF m 250 #[.val (.int p1), .val (.int p2), .val (.int p3), .val (.int p4), .val (.int p5), .val (.int p6), .val (.ref b211), .val (.int q0), .val (.int f0), .val (.int (1 : Int32)), .val (.int e1), .val (.int f0), .unset, .unset, .unset, .unset] []))
          refine go (fun _ => XS.iconst X216.here hx rfl (hb hby at_250)) ?_
          show Go _ p e below s _ _ _ (T216.setTop (mkF m 251 #[.val (.int p1), .val (.int p2), .val (.int p3), .val (.int p4), .val (.int p5), .val (.int p6), .val (.ref b211), .val (.int q0), .val (.int f0), .val (.int (1 : Int32)), .val (.int e1), .val (.int f0), .unset, .unset, .unset, .unset] [(.int (1 : Int32))]))
          refine go (fun _ => XS.goto X216.here hx rfl (pc0 := 251) (pc' := 255) rfl (hb hby at_251) (by decide) (by decide)) ?_
          show Go _ p e below s _ _ _ (T216.setTop (mkF m 255 #[.val (.int p1), .val (.int p2), .val (.int p3), .val (.int p4), .val (.int p5), .val (.int p6), .val (.ref b211), .val (.int q0), .val (.int f0), .val (.int (1 : Int32)), .val (.int e1), .val (.int f0), .unset, .unset, .unset, .unset] [(.int (1 : Int32))]))
          exact JF1 _ (by unfold own_fd; simp [hc237_232])
      refine go (fun _ => XS.iload X215.here hx rfl (hb hby at_212) rfl) ?_
      show Go _ p e below s _ _ _ (T215.setTop (mkF m 214 #[.val (.int p1), .val (.int p2), .val (.int p3), .val (.int p4), .val (.int p5), .val (.int p6), .val (.ref b211), .val (.int (0 : Int32)), .val (.int f0), .val (.int (1 : Int32)), .val (.int e0), .val (.int f0), .unset, .unset, .unset, .unset] [(.int (0 : Int32))]))
      refine go (fun _ => XS.ifNo X215.here hx rfl (hb hby at_214) rfl ((if0 _ _).trans (teq (rfl : (0 : Int32) = (0 : Int32))).2)) ?_
      show Go _ p e below s _ _ _ (T215.setTop (mkF m 217 #[.val (.int p1), .val (.int p2), .val (.int p3), .val (.int p4), .val (.int p5), .val (.int p6), .val (.ref b211), .val (.int (0 : Int32)), .val (.int f0), .val (.int (1 : Int32)), .val (.int e0), .val (.int f0), .unset, .unset, .unset, .unset] []))
      refine go (fun _ => XS.iload X215.here hx rfl (hb hby at_217) rfl) ?_
      show Go _ p e below s _ _ _ (T215.setTop (mkF m 219 #[.val (.int p1), .val (.int p2), .val (.int p3), .val (.int p4), .val (.int p5), .val (.int p6), .val (.ref b211), .val (.int (0 : Int32)), .val (.int f0), .val (.int (1 : Int32)), .val (.int e0), .val (.int f0), .unset, .unset, .unset, .unset] [(.int e0)]))
      by_cases hc219_235 : e0 = (0 : Int32)
      · refine go (fun _ => XS.ifNo X215.here hx rfl (hb hby at_219) rfl ((if0 _ _).trans (teq hc219_235).2)) ?_
        show Go _ p e below s _ _ _ (T215.setTop (mkF m 222 #[.val (.int p1), .val (.int p2), .val (.int p3), .val (.int p4), .val (.int p5), .val (.int p6), .val (.ref b211), .val (.int (0 : Int32)), .val (.int f0), .val (.int (1 : Int32)), .val (.int e0), .val (.int f0), .unset, .unset, .unset, .unset] []))
        refine go (fun _ => XS.iconst X215.here hx rfl (hb hby at_222)) ?_
        show Go _ p e below s _ _ _ (T215.setTop (mkF m 223 #[.val (.int p1), .val (.int p2), .val (.int p3), .val (.int p4), .val (.int p5), .val (.int p6), .val (.ref b211), .val (.int (0 : Int32)), .val (.int f0), .val (.int (1 : Int32)), .val (.int e0), .val (.int f0), .unset, .unset, .unset, .unset] [(.int (1 : Int32))]))
        refine go (fun _ => XS.goto X215.here hx rfl (pc0 := 223) (pc' := 227) rfl (hb hby at_223) (by decide) (by decide)) ?_
        show Go _ p e below s _ _ _ (T215.setTop (mkF m 227 #[.val (.int p1), .val (.int p2), .val (.int p3), .val (.int p4), .val (.int p5), .val (.int p6), .val (.ref b211), .val (.int (0 : Int32)), .val (.int f0), .val (.int (1 : Int32)), .val (.int e0), .val (.int f0), .unset, .unset, .unset, .unset] [(.int (1 : Int32))]))
        exact JQ0 _ (by unfold own_rq; simp [hc219_235])
      · refine go (fun _ => XS.ifYes X215.here hx rfl (pc0 := 219) (pc' := 226) rfl (hb hby at_219) rfl ((if0 _ _).trans (feq hc219_235).2) (by decide) (by decide)) ?_
        show Go _ p e below s _ _ _ (T215.setTop (mkF m 226 #[.val (.int p1), .val (.int p2), .val (.int p3), .val (.int p4), .val (.int p5), .val (.int p6), .val (.ref b211), .val (.int (0 : Int32)), .val (.int f0), .val (.int (1 : Int32)), .val (.int e0), .val (.int f0), .unset, .unset, .unset, .unset] []))
        refine go (fun _ => XS.iconst X215.here hx rfl (hb hby at_226)) ?_
        show Go _ p e below s _ _ _ (T215.setTop (mkF m 227 #[.val (.int p1), .val (.int p2), .val (.int p3), .val (.int p4), .val (.int p5), .val (.int p6), .val (.ref b211), .val (.int (0 : Int32)), .val (.int f0), .val (.int (1 : Int32)), .val (.int e0), .val (.int f0), .unset, .unset, .unset, .unset] [(.int (0 : Int32))]))
        exact JQ0 _ (by unfold own_rq; simp [hc219_235])
    refine go (fun _ => XS.iload X214.here hx rfl (hb hby at_157) rfl) ?_
    show Go _ p e below s _ _ _ (T214.setTop (mkF m 159 #[.val (.int p1), .val (.int p2), .val (.int p3), .val (.int p4), .val (.int p5), .val (.int p6), .val (.ref b211), .val (.int (0 : Int32)), .val (.int (0 : Int32)), .val (.int (1 : Int32)), .val (.int e0), .unset, .unset, .unset, .unset, .unset] [(.int (0 : Int32))]))
    refine go (fun _ => XS.ifNo X214.here hx rfl (hb hby at_159) rfl ((if0 _ _).trans (teq (rfl : (0 : Int32) = (0 : Int32))).2)) ?_
    show Go _ p e below s _ _ _ (T214.setTop (mkF m 162 #[.val (.int p1), .val (.int p2), .val (.int p3), .val (.int p4), .val (.int p5), .val (.int p6), .val (.ref b211), .val (.int (0 : Int32)), .val (.int (0 : Int32)), .val (.int (1 : Int32)), .val (.int e0), .unset, .unset, .unset, .unset, .unset] []))
    refine go (fun _ => XS.iload X214.here hx rfl (hb hby at_162) rfl) ?_
    show Go _ p e below s _ _ _ (T214.setTop (mkF m 164 #[.val (.int p1), .val (.int p2), .val (.int p3), .val (.int p4), .val (.int p5), .val (.int p6), .val (.ref b211), .val (.int (0 : Int32)), .val (.int (0 : Int32)), .val (.int (1 : Int32)), .val (.int e0), .unset, .unset, .unset, .unset, .unset] [(.int e0)]))
    by_cases hc164_236 : e0 = (0 : Int32)
    · refine go (fun _ => XS.ifYes X214.here hx rfl (pc0 := 164) (pc' := 176) rfl (hb hby at_164) rfl ((if0 _ _).trans (teq hc164_236).1) (by decide) (by decide)) ?_
      show Go _ p e below s _ _ _ (T214.setTop (mkF m 176 #[.val (.int p1), .val (.int p2), .val (.int p3), .val (.int p4), .val (.int p5), .val (.int p6), .val (.ref b211), .val (.int (0 : Int32)), .val (.int (0 : Int32)), .val (.int (1 : Int32)), .val (.int e0), .unset, .unset, .unset, .unset, .unset] []))
      refine go (fun _ => XS.iconst X214.here hx rfl (hb hby at_176)) ?_
      show Go _ p e below s _ _ _ (T214.setTop (mkF m 177 #[.val (.int p1), .val (.int p2), .val (.int p3), .val (.int p4), .val (.int p5), .val (.int p6), .val (.ref b211), .val (.int (0 : Int32)), .val (.int (0 : Int32)), .val (.int (1 : Int32)), .val (.int e0), .unset, .unset, .unset, .unset, .unset] [(.int (0 : Int32))]))
      exact JF0 _ (by unfold own_fd; simp [hc164_236])
    · refine go (fun _ => XS.ifNo X214.here hx rfl (hb hby at_164) rfl ((if0 _ _).trans (feq hc164_236).1)) ?_
      show Go _ p e below s _ _ _ (T214.setTop (mkF m 167 #[.val (.int p1), .val (.int p2), .val (.int p3), .val (.int p4), .val (.int p5), .val (.int p6), .val (.ref b211), .val (.int (0 : Int32)), .val (.int (0 : Int32)), .val (.int (1 : Int32)), .val (.int e0), .unset, .unset, .unset, .unset, .unset] []))
      refine go (fun _ => XS.iload X214.here hx rfl (hb hby at_167) rfl) ?_
      show Go _ p e below s _ _ _ (T214.setTop (mkF m 169 #[.val (.int p1), .val (.int p2), .val (.int p3), .val (.int p4), .val (.int p5), .val (.int p6), .val (.ref b211), .val (.int (0 : Int32)), .val (.int (0 : Int32)), .val (.int (1 : Int32)), .val (.int e0), .unset, .unset, .unset, .unset, .unset] [(.int (0 : Int32))]))
      refine go (fun _ => XS.ifYes X214.here hx rfl (pc0 := 169) (pc' := 176) rfl (hb hby at_169) rfl ((if0 _ _).trans (teq (rfl : (0 : Int32) = (0 : Int32))).1) (by decide) (by decide)) ?_
      show Go _ p e below s _ _ _ (T214.setTop (mkF m 176 #[.val (.int p1), .val (.int p2), .val (.int p3), .val (.int p4), .val (.int p5), .val (.int p6), .val (.ref b211), .val (.int (0 : Int32)), .val (.int (0 : Int32)), .val (.int (1 : Int32)), .val (.int e0), .unset, .unset, .unset, .unset, .unset] []))
      refine go (fun _ => XS.iconst X214.here hx rfl (hb hby at_176)) ?_
      show Go _ p e below s _ _ _ (T214.setTop (mkF m 177 #[.val (.int p1), .val (.int p2), .val (.int p3), .val (.int p4), .val (.int p5), .val (.int p6), .val (.ref b211), .val (.int (0 : Int32)), .val (.int (0 : Int32)), .val (.int (1 : Int32)), .val (.int e0), .unset, .unset, .unset, .unset, .unset] [(.int (0 : Int32))]))
      exact JF0 _ (by unfold own_fd; simp [hc164_236])
  · refine go (fun _ => XS.ifNo X212.here hx rfl (hb hby at_12) rfl ((if0 _ _).trans (feq hc12_213).1)) ?_
    show Go _ p e below s _ _ _ (T212.setTop (mkF m 15 #[.val (.int p1), .val (.int p2), .val (.int p3), .val (.int p4), .val (.int p5), .val (.int p6), .val (.ref b211), .unset, .unset, .unset, .unset, .unset, .unset, .unset, .unset, .unset] []))
    refine go (X212.ldcInt hx hown (mvT hZ (hw _ (List.mem_of_getElem? (i := 37) rfl))) (g := (mkF m 15 #[.val (.int p1), .val (.int p2), .val (.int p3), .val (.int p4), .val (.int p5), .val (.int p6), .val (.ref b211), .unset, .unset, .unset, .unset, .unset, .unset, .unset, .unset, .unset] [])) rfl (hb hby at_15)) ?_
    show Go _ p e below s _ _ _ (T212.setTop (mkF m 17 #[.val (.int p1), .val (.int p2), .val (.int p3), .val (.int p4), .val (.int p5), .val (.int p6), .val (.ref b211), .unset, .unset, .unset, .unset, .unset, .unset, .unset, .unset, .unset] [(.int (65537 : Int32))]))
    refine go (fun _ => XS.istore X212.here hx rfl (hb hby at_17) rfl (l' := #[.val (.int p1), .val (.int p2), .val (.int p3), .val (.int p4), .val (.int p5), .val (.int p6), .val (.ref b211), .val (.int (65537 : Int32)), .unset, .unset, .unset, .unset, .unset, .unset, .unset, .unset]) rfl) ?_
    show Go _ p e below s _ _ _ (T212.setTop (mkF m 19 #[.val (.int p1), .val (.int p2), .val (.int p3), .val (.int p4), .val (.int p5), .val (.int p6), .val (.ref b211), .val (.int (65537 : Int32)), .unset, .unset, .unset, .unset, .unset, .unset, .unset, .unset] []))
    refine go (fun _ => XS.bipush X212.here hx rfl (hb hby at_19)) ?_
    show Go _ p e below s _ _ _ (T212.setTop (mkF m 21 #[.val (.int p1), .val (.int p2), .val (.int p3), .val (.int p4), .val (.int p5), .val (.int p6), .val (.ref b211), .val (.int (65537 : Int32)), .unset, .unset, .unset, .unset, .unset, .unset, .unset, .unset] [(.int (10 : Int32))]))
    refine go (fun _ => XS.istore X212.here hx rfl (hb hby at_21) rfl (l' := #[.val (.int p1), .val (.int p2), .val (.int p3), .val (.int p4), .val (.int p5), .val (.int p6), .val (.ref b211), .val (.int (65537 : Int32)), .val (.int (10 : Int32)), .unset, .unset, .unset, .unset, .unset, .unset, .unset]) rfl) ?_
    show Go _ p e below s _ _ _ (T212.setTop (mkF m 23 #[.val (.int p1), .val (.int p2), .val (.int p3), .val (.int p4), .val (.int p5), .val (.int p6), .val (.ref b211), .val (.int (65537 : Int32)), .val (.int (10 : Int32)), .unset, .unset, .unset, .unset, .unset, .unset, .unset] []))
    refine go (fun _ => XS.iconst X212.here hx rfl (hb hby at_23)) ?_
    show Go _ p e below s _ _ _ (T212.setTop (mkF m 24 #[.val (.int p1), .val (.int p2), .val (.int p3), .val (.int p4), .val (.int p5), .val (.int p6), .val (.ref b211), .val (.int (65537 : Int32)), .val (.int (10 : Int32)), .unset, .unset, .unset, .unset, .unset, .unset, .unset] [(.int (3 : Int32))]))
    obtain ⟨T237, h237, k237, X237, e237, E237, A237, AE237, st237⟩ := newPE X212 hx hZ (hw _ (List.mem_of_getElem? (i := 16) rfl)) e212 (g := (mkF m 24 #[.val (.int p1), .val (.int p2), .val (.int p3), .val (.int p4), .val (.int p5), .val (.int p6), .val (.ref b211), .val (.int (65537 : Int32)), .val (.int (10 : Int32)), .unset, .unset, .unset, .unset, .unset, .unset, .unset] [(.int (3 : Int32))])) rfl (hb hby at_24) rfl (by decide) (cap := 3) (by decide) (by decide) (by decide) (by decide) (ad := "[B") (by first | rfl | decide)
    obtain ⟨b237, g237⟩ : ∃ z, z = h211.size := ⟨_, rfl⟩
    rw [← g237] at A237 AE237 st237
    have lt237_b211_b237 : b211 < b237 := Nat.lt_of_lt_of_le A211.lt (Nat.le_of_eq g237.symm)
    have G_b237 : n0 ≤ b237 := Nat.le_trans ZN211 (Nat.le_of_eq g237.symm)
    have SZ_b237 : h0.size ≤ b237 := Nat.le_trans KK211.1 (Nat.le_of_eq g237.symm)
    have c237_0 := A211.ext E237
    have c237_1 := F211_27.ext E237
    have c237_2 := F211_29.ext E237
    have c237_3 := F211_31.ext E237
    have c237_4 := F211_33.ext E237
    have c237_5 := F211_36.ext E237
    have KK237 : Keep h0 h237 [] := KK211.ext E237
    have ZN237 : n0 ≤ h237.size := Nat.le_trans ZN211 E237.1
    have V237 : Arv Z h237 b237 k237 .byte (3 : Int32) [(.int (0 : Int32)), (.int (0 : Int32)), (.int (0 : Int32))] (.int (0 : Int32)) := (Arv.new A237 (by decide)).pad (pad_rep [] (.int (0 : Int32)) 3)
    refine go st237 ?_
    show Go _ p e below s _ _ _ (T237.setTop (mkF m 26 #[.val (.int p1), .val (.int p2), .val (.int p3), .val (.int p4), .val (.int p5), .val (.int p6), .val (.ref b211), .val (.int (65537 : Int32)), .val (.int (10 : Int32)), .unset, .unset, .unset, .unset, .unset, .unset, .unset] [(.ref b237)]))
    refine go (fun _ => XS.dup X237.here hx rfl (hb hby at_26) rfl rfl) ?_
    show Go _ p e below s _ _ _ (T237.setTop (mkF m 27 #[.val (.int p1), .val (.int p2), .val (.int p3), .val (.int p4), .val (.int p5), .val (.int p6), .val (.ref b211), .val (.int (65537 : Int32)), .val (.int (10 : Int32)), .unset, .unset, .unset, .unset, .unset, .unset, .unset] [(.ref b237), (.ref b237)]))
    refine go (fun _ => XS.iconst X237.here hx rfl (hb hby at_27)) ?_
    show Go _ p e below s _ _ _ (T237.setTop (mkF m 28 #[.val (.int p1), .val (.int p2), .val (.int p3), .val (.int p4), .val (.int p5), .val (.int p6), .val (.ref b211), .val (.int (65537 : Int32)), .val (.int (10 : Int32)), .unset, .unset, .unset, .unset, .unset, .unset, .unset] [(.int (0 : Int32)), (.ref b237), (.ref b237)]))
    refine go (fun _ => XS.iload X237.here hx rfl (hb hby at_28) rfl) ?_
    show Go _ p e below s _ _ _ (T237.setTop (mkF m 30 #[.val (.int p1), .val (.int p2), .val (.int p3), .val (.int p4), .val (.int p5), .val (.int p6), .val (.ref b211), .val (.int (65537 : Int32)), .val (.int (10 : Int32)), .unset, .unset, .unset, .unset, .unset, .unset, .unset] [(.int (10 : Int32)), (.int (0 : Int32)), (.ref b237), (.ref b237)]))
    obtain ⟨cl238, Ar238, q238, Sz238, Nz238, Hs238, Gs238⟩ := id V237
    have hin238 : ¬ ((0 : Int32) < 0 ∨ cl238.slots.size ≤ ((0 : Int32)).toNatClampNeg) := inb_of Sz238 ⟨by decide, by decide⟩
    obtain ⟨T238, h238, X238, e238, W238, st238⟩ := stB X237 hx hZ e237 Ar238 (j := (0 : Int32)) hin238 (g := (mkF m 30 #[.val (.int p1), .val (.int p2), .val (.int p3), .val (.int p4), .val (.int p5), .val (.int p6), .val (.ref b211), .val (.int (65537 : Int32)), .val (.int (10 : Int32)), .unset, .unset, .unset, .unset, .unset, .unset, .unset] [(.int (10 : Int32)), (.int (0 : Int32)), (.ref b237), (.ref b237)])) rfl rfl (hb hby at_30)
    have V238 := Arv.set Ar238 q238 Sz238 Nz238 Hs238 Gs238 (fits_nar_byte _) W238 0 rfl (Nat.le_of_ble_eq_true rfl)
    have VV238 : Arv Z h238 b237 k237 .byte (3 : Int32) [(.int (nar .byte (10 : Int32))), (.int (0 : Int32)), (.int (0 : Int32))] (.int (0 : Int32)) := V238
    have c238_0 := c237_0.wr W238
    have c238_1 := c237_1.other W238 (Or.inl (Nat.ne_of_lt lt237_b211_b237))
    have c238_2 := c237_2.other W238 (Or.inl (Nat.ne_of_lt lt237_b211_b237))
    have c238_3 := c237_3.other W238 (Or.inl (Nat.ne_of_lt lt237_b211_b237))
    have c238_4 := c237_4.other W238 (Or.inl (Nat.ne_of_lt lt237_b211_b237))
    have c238_5 := c237_5.other W238 (Or.inl (Nat.ne_of_lt lt237_b211_b237))
    have c238_6 := AE237.wr W238
    have KK238 : Keep h0 h238 [] := KK237.wr W238 (Or.inr SZ_b237)
    have ZN238 : n0 ≤ h238.size := Nat.le_trans ZN237 (Keep.of_wr W238).1
    have NN238 := Fr.snoc X238 N212 G_b237
    refine go st238 ?_
    show Go _ p e below s _ _ _ (T238.setTop (mkF m 31 #[.val (.int p1), .val (.int p2), .val (.int p3), .val (.int p4), .val (.int p5), .val (.int p6), .val (.ref b211), .val (.int (65537 : Int32)), .val (.int (10 : Int32)), .unset, .unset, .unset, .unset, .unset, .unset, .unset] [(.ref b237)]))
    refine go (fun _ => XS.dup X238.here hx rfl (hb hby at_31) rfl rfl) ?_
    show Go _ p e below s _ _ _ (T238.setTop (mkF m 32 #[.val (.int p1), .val (.int p2), .val (.int p3), .val (.int p4), .val (.int p5), .val (.int p6), .val (.ref b211), .val (.int (65537 : Int32)), .val (.int (10 : Int32)), .unset, .unset, .unset, .unset, .unset, .unset, .unset] [(.ref b237), (.ref b237)]))
    refine go (fun _ => XS.iconst X238.here hx rfl (hb hby at_32)) ?_
    show Go _ p e below s _ _ _ (T238.setTop (mkF m 33 #[.val (.int p1), .val (.int p2), .val (.int p3), .val (.int p4), .val (.int p5), .val (.int p6), .val (.ref b211), .val (.int (65537 : Int32)), .val (.int (10 : Int32)), .unset, .unset, .unset, .unset, .unset, .unset, .unset] [(.int (1 : Int32)), (.ref b237), (.ref b237)]))
    refine go (fun _ => XS.iload X238.here hx rfl (hb hby at_33) rfl) ?_
    show Go _ p e below s _ _ _ (T238.setTop (mkF m 35 #[.val (.int p1), .val (.int p2), .val (.int p3), .val (.int p4), .val (.int p5), .val (.int p6), .val (.ref b211), .val (.int (65537 : Int32)), .val (.int (10 : Int32)), .unset, .unset, .unset, .unset, .unset, .unset, .unset] [(.int (10 : Int32)), (.int (1 : Int32)), (.ref b237), (.ref b237)]))
    obtain ⟨cl239, Ar239, q239, Sz239, Nz239, Hs239, Gs239⟩ := id VV238
    have hin239 : ¬ ((1 : Int32) < 0 ∨ cl239.slots.size ≤ ((1 : Int32)).toNatClampNeg) := inb_of Sz239 ⟨by decide, by decide⟩
    obtain ⟨T239, h239, X239, e239, W239, st239⟩ := stB X238 hx hZ e238 Ar239 (j := (1 : Int32)) hin239 (g := (mkF m 35 #[.val (.int p1), .val (.int p2), .val (.int p3), .val (.int p4), .val (.int p5), .val (.int p6), .val (.ref b211), .val (.int (65537 : Int32)), .val (.int (10 : Int32)), .unset, .unset, .unset, .unset, .unset, .unset, .unset] [(.int (10 : Int32)), (.int (1 : Int32)), (.ref b237), (.ref b237)])) rfl rfl (hb hby at_35)
    have V239 := Arv.set Ar239 q239 Sz239 Nz239 Hs239 Gs239 (fits_nar_byte _) W239 1 rfl (Nat.le_of_ble_eq_true rfl)
    have VV239 : Arv Z h239 b237 k237 .byte (3 : Int32) [(.int (nar .byte (10 : Int32))), (.int (nar .byte (10 : Int32))), (.int (0 : Int32))] (.int (0 : Int32)) := V239
    have c239_0 := c238_0.wr W239
    have c239_1 := c238_1.other W239 (Or.inl (Nat.ne_of_lt lt237_b211_b237))
    have c239_2 := c238_2.other W239 (Or.inl (Nat.ne_of_lt lt237_b211_b237))
    have c239_3 := c238_3.other W239 (Or.inl (Nat.ne_of_lt lt237_b211_b237))
    have c239_4 := c238_4.other W239 (Or.inl (Nat.ne_of_lt lt237_b211_b237))
    have c239_5 := c238_5.other W239 (Or.inl (Nat.ne_of_lt lt237_b211_b237))
    have c239_6 := c238_6.wr W239
    have KK239 : Keep h0 h239 [] := KK238.wr W239 (Or.inr SZ_b237)
    have ZN239 : n0 ≤ h239.size := Nat.le_trans ZN238 (Keep.of_wr W239).1
    have NN239 := Fr.snoc X239 NN238 G_b237
    refine go st239 ?_
    show Go _ p e below s _ _ _ (T239.setTop (mkF m 36 #[.val (.int p1), .val (.int p2), .val (.int p3), .val (.int p4), .val (.int p5), .val (.int p6), .val (.ref b211), .val (.int (65537 : Int32)), .val (.int (10 : Int32)), .unset, .unset, .unset, .unset, .unset, .unset, .unset] [(.ref b237)]))
    refine go (fun _ => XS.dup X239.here hx rfl (hb hby at_36) rfl rfl) ?_
    show Go _ p e below s _ _ _ (T239.setTop (mkF m 37 #[.val (.int p1), .val (.int p2), .val (.int p3), .val (.int p4), .val (.int p5), .val (.int p6), .val (.ref b211), .val (.int (65537 : Int32)), .val (.int (10 : Int32)), .unset, .unset, .unset, .unset, .unset, .unset, .unset] [(.ref b237), (.ref b237)]))
    refine go (fun _ => XS.iconst X239.here hx rfl (hb hby at_37)) ?_
    show Go _ p e below s _ _ _ (T239.setTop (mkF m 38 #[.val (.int p1), .val (.int p2), .val (.int p3), .val (.int p4), .val (.int p5), .val (.int p6), .val (.ref b211), .val (.int (65537 : Int32)), .val (.int (10 : Int32)), .unset, .unset, .unset, .unset, .unset, .unset, .unset] [(.int (2 : Int32)), (.ref b237), (.ref b237)]))
    refine go (fun _ => XS.iload X239.here hx rfl (hb hby at_38) rfl) ?_
    show Go _ p e below s _ _ _ (T239.setTop (mkF m 40 #[.val (.int p1), .val (.int p2), .val (.int p3), .val (.int p4), .val (.int p5), .val (.int p6), .val (.ref b211), .val (.int (65537 : Int32)), .val (.int (10 : Int32)), .unset, .unset, .unset, .unset, .unset, .unset, .unset] [(.int (10 : Int32)), (.int (2 : Int32)), (.ref b237), (.ref b237)]))
    obtain ⟨cl240, Ar240, q240, Sz240, Nz240, Hs240, Gs240⟩ := id VV239
    have hin240 : ¬ ((2 : Int32) < 0 ∨ cl240.slots.size ≤ ((2 : Int32)).toNatClampNeg) := inb_of Sz240 ⟨by decide, by decide⟩
    obtain ⟨T240, h240, X240, e240, W240, st240⟩ := stB X239 hx hZ e239 Ar240 (j := (2 : Int32)) hin240 (g := (mkF m 40 #[.val (.int p1), .val (.int p2), .val (.int p3), .val (.int p4), .val (.int p5), .val (.int p6), .val (.ref b211), .val (.int (65537 : Int32)), .val (.int (10 : Int32)), .unset, .unset, .unset, .unset, .unset, .unset, .unset] [(.int (10 : Int32)), (.int (2 : Int32)), (.ref b237), (.ref b237)])) rfl rfl (hb hby at_40)
    have V240 := Arv.set Ar240 q240 Sz240 Nz240 Hs240 Gs240 (fits_nar_byte _) W240 2 rfl (Nat.le_of_ble_eq_true rfl)
    have VV240 : Arv Z h240 b237 k237 .byte (3 : Int32) [(.int (nar .byte (10 : Int32))), (.int (nar .byte (10 : Int32))), (.int (nar .byte (10 : Int32)))] (.int (0 : Int32)) := V240
    have c240_0 := c239_0.wr W240
    have c240_1 := c239_1.other W240 (Or.inl (Nat.ne_of_lt lt237_b211_b237))
    have c240_2 := c239_2.other W240 (Or.inl (Nat.ne_of_lt lt237_b211_b237))
    have c240_3 := c239_3.other W240 (Or.inl (Nat.ne_of_lt lt237_b211_b237))
    have c240_4 := c239_4.other W240 (Or.inl (Nat.ne_of_lt lt237_b211_b237))
    have c240_5 := c239_5.other W240 (Or.inl (Nat.ne_of_lt lt237_b211_b237))
    have c240_6 := c239_6.wr W240
    have KK240 : Keep h0 h240 [] := KK239.wr W240 (Or.inr SZ_b237)
    have ZN240 : n0 ≤ h240.size := Nat.le_trans ZN239 (Keep.of_wr W240).1
    have NN240 := Fr.snoc X240 NN239 G_b237
    refine go st240 ?_
    show Go _ p e below s _ _ _ (T240.setTop (mkF m 41 #[.val (.int p1), .val (.int p2), .val (.int p3), .val (.int p4), .val (.int p5), .val (.int p6), .val (.ref b211), .val (.int (65537 : Int32)), .val (.int (10 : Int32)), .unset, .unset, .unset, .unset, .unset, .unset, .unset] [(.ref b237)]))
    refine go (fun _ => XS.astore X240.here hx rfl (hb hby at_41) rfl rfl (l' := #[.val (.int p1), .val (.int p2), .val (.int p3), .val (.int p4), .val (.int p5), .val (.int p6), .val (.ref b211), .val (.int (65537 : Int32)), .val (.int (10 : Int32)), .val (.ref b237), .unset, .unset, .unset, .unset, .unset, .unset]) rfl) ?_
    show Go _ p e below s _ _ _ (T240.setTop (mkF m 43 #[.val (.int p1), .val (.int p2), .val (.int p3), .val (.int p4), .val (.int p5), .val (.int p6), .val (.ref b211), .val (.int (65537 : Int32)), .val (.int (10 : Int32)), .val (.ref b237), .unset, .unset, .unset, .unset, .unset, .unset] []))
    refine go (fun _ => XS.iload X240.here hx rfl (hb hby at_43) rfl) ?_
    show Go _ p e below s _ _ _ (T240.setTop (mkF m 45 #[.val (.int p1), .val (.int p2), .val (.int p3), .val (.int p4), .val (.int p5), .val (.int p6), .val (.ref b211), .val (.int (65537 : Int32)), .val (.int (10 : Int32)), .val (.ref b237), .unset, .unset, .unset, .unset, .unset, .unset] [(.int (65537 : Int32))]))
    refine go (fun _ => XS.iconst X240.here hx rfl (hb hby at_45)) ?_
    show Go _ p e below s _ _ _ (T240.setTop (mkF m 46 #[.val (.int p1), .val (.int p2), .val (.int p3), .val (.int p4), .val (.int p5), .val (.int p6), .val (.ref b211), .val (.int (65537 : Int32)), .val (.int (10 : Int32)), .val (.ref b237), .unset, .unset, .unset, .unset, .unset, .unset] [(.int (1 : Int32)), (.int (65537 : Int32))]))
    refine go (fun _ => XS.iadd X240.here hx rfl (hb hby at_46) rfl) ?_
    show Go _ p e below s _ _ _ (T240.setTop (mkF m 47 #[.val (.int p1), .val (.int p2), .val (.int p3), .val (.int p4), .val (.int p5), .val (.int p6), .val (.ref b211), .val (.int (65537 : Int32)), .val (.int (10 : Int32)), .val (.ref b237), .unset, .unset, .unset, .unset, .unset, .unset] [(.int (65538 : Int32))]))
    obtain ⟨T241, h241, k241, X241, e241, E241, A241, AE241, st241⟩ := newPE X240 hx hZ (hw _ (List.mem_of_getElem? (i := 16) rfl)) e240 (g := (mkF m 47 #[.val (.int p1), .val (.int p2), .val (.int p3), .val (.int p4), .val (.int p5), .val (.int p6), .val (.ref b211), .val (.int (65537 : Int32)), .val (.int (10 : Int32)), .val (.ref b237), .unset, .unset, .unset, .unset, .unset, .unset] [(.int (65538 : Int32))])) rfl (hb hby at_47) rfl (by decide) (cap := 65538) (by decide) (by decide) (by decide) (by decide) (ad := "[B") (by first | rfl | decide)
    obtain ⟨b241, g241⟩ : ∃ z, z = h240.size := ⟨_, rfl⟩
    rw [← g241] at A241 AE241 st241
    have lt241_b211_b241 : b211 < b241 := Nat.lt_of_lt_of_le c240_0.lt (Nat.le_of_eq g241.symm)
    have lt241_b237_b241 : b237 < b241 := Nat.lt_of_lt_of_le c240_6.lt (Nat.le_of_eq g241.symm)
    have G_b241 : n0 ≤ b241 := Nat.le_trans ZN240 (Nat.le_of_eq g241.symm)
    have SZ_b241 : h0.size ≤ b241 := Nat.le_trans KK240.1 (Nat.le_of_eq g241.symm)
    have c241_0 := c240_0.ext E241
    have c241_1 := c240_1.ext E241
    have c241_2 := c240_2.ext E241
    have c241_3 := c240_3.ext E241
    have c241_4 := c240_4.ext E241
    have c241_5 := c240_5.ext E241
    have c241_6 := c240_6.ext E241
    have c241_7 := VV240.ext E241
    have KK241 : Keep h0 h241 [] := KK240.ext E241
    have ZN241 : n0 ≤ h241.size := Nat.le_trans ZN240 E241.1
    have V241 : Arv Z h241 b241 k241 .byte (65538 : Int32) [] (.int (0 : Int32)) := Arv.new A241 (by decide)
    refine go st241 ?_
    show Go _ p e below s _ _ _ (T241.setTop (mkF m 49 #[.val (.int p1), .val (.int p2), .val (.int p3), .val (.int p4), .val (.int p5), .val (.int p6), .val (.ref b211), .val (.int (65537 : Int32)), .val (.int (10 : Int32)), .val (.ref b237), .unset, .unset, .unset, .unset, .unset, .unset] [(.ref b241)]))
    refine go (fun _ => XS.astore X241.here hx rfl (hb hby at_49) rfl rfl (l' := #[.val (.int p1), .val (.int p2), .val (.int p3), .val (.int p4), .val (.int p5), .val (.int p6), .val (.ref b211), .val (.int (65537 : Int32)), .val (.int (10 : Int32)), .val (.ref b237), .val (.ref b241), .unset, .unset, .unset, .unset, .unset]) rfl) ?_
    show Go _ p e below s _ _ _ (T241.setTop (mkF m 51 #[.val (.int p1), .val (.int p2), .val (.int p3), .val (.int p4), .val (.int p5), .val (.int p6), .val (.ref b211), .val (.int (65537 : Int32)), .val (.int (10 : Int32)), .val (.ref b237), .val (.ref b241), .unset, .unset, .unset, .unset, .unset] []))
    refine go (fun _ => XS.iloadN X241.here hx rfl (hb hby at_51) rfl) ?_
    show Go _ p e below s _ _ _ (T241.setTop (mkF m 52 #[.val (.int p1), .val (.int p2), .val (.int p3), .val (.int p4), .val (.int p5), .val (.int p6), .val (.ref b211), .val (.int (65537 : Int32)), .val (.int (10 : Int32)), .val (.ref b237), .val (.ref b241), .unset, .unset, .unset, .unset, .unset] [(.int p3)]))
    refine go (fun _ => XS.iconst X241.here hx rfl (hb hby at_52)) ?_
    show Go _ p e below s _ _ _ (T241.setTop (mkF m 53 #[.val (.int p1), .val (.int p2), .val (.int p3), .val (.int p4), .val (.int p5), .val (.int p6), .val (.ref b211), .val (.int (65537 : Int32)), .val (.int (10 : Int32)), .val (.ref b237), .val (.ref b241), .unset, .unset, .unset, .unset, .unset] [(.int (3 : Int32)), (.int p3)]))
    refine go (fun _ => XS.iand X241.here hx rfl (hb hby at_53) rfl) ?_
    show Go _ p e below s _ _ _ (T241.setTop (mkF m 54 #[.val (.int p1), .val (.int p2), .val (.int p3), .val (.int p4), .val (.int p5), .val (.int p6), .val (.ref b211), .val (.int (65537 : Int32)), .val (.int (10 : Int32)), .val (.ref b237), .val (.ref b241), .unset, .unset, .unset, .unset, .unset] [(.int (p3 &&& (3 : Int32)))]))
    refine go (fun _ => XS.istore X241.here hx rfl (hb hby at_54) rfl (l' := #[.val (.int p1), .val (.int p2), .val (.int p3), .val (.int p4), .val (.int p5), .val (.int p6), .val (.ref b211), .val (.int (65537 : Int32)), .val (.int (10 : Int32)), .val (.ref b237), .val (.ref b241), .val (.int (p3 &&& (3 : Int32))), .unset, .unset, .unset, .unset]) rfl) ?_
    show Go _ p e below s _ _ _ (T241.setTop (mkF m 56 #[.val (.int p1), .val (.int p2), .val (.int p3), .val (.int p4), .val (.int p5), .val (.int p6), .val (.ref b211), .val (.int (65537 : Int32)), .val (.int (10 : Int32)), .val (.ref b237), .val (.ref b241), .val (.int (p3 &&& (3 : Int32))), .unset, .unset, .unset, .unset] []))
    obtain ⟨kN, hkk, hkl⟩ := own_and3 p3
    generalize (p3 &&& (3 : Int32)) = kv at hkk ⊢
    show Go _ p e below s _ _ _ (T241.setTop (mkF m 56 #[.val (.int p1), .val (.int p2), .val (.int p3), .val (.int p4), .val (.int p5), .val (.int p6), .val (.ref b211), .val (.int (65537 : Int32)), .val (.int (10 : Int32)), .val (.ref b237), .val (.ref b241), .val (.int kv), .unset, .unset, .unset, .unset] []))
    refine go (fun _ => XS.iloadN X241.here hx rfl (hb hby at_56) rfl) ?_
    show Go _ p e below s _ _ _ (T241.setTop (mkF m 57 #[.val (.int p1), .val (.int p2), .val (.int p3), .val (.int p4), .val (.int p5), .val (.int p6), .val (.ref b211), .val (.int (65537 : Int32)), .val (.int (10 : Int32)), .val (.ref b237), .val (.ref b241), .val (.int kv), .unset, .unset, .unset, .unset] [(.int p2)]))
    refine go (X241.ldcInt hx hown (mvT hZ (hw _ (List.mem_of_getElem? (i := 38) rfl))) (g := (mkF m 57 #[.val (.int p1), .val (.int p2), .val (.int p3), .val (.int p4), .val (.int p5), .val (.int p6), .val (.ref b211), .val (.int (65537 : Int32)), .val (.int (10 : Int32)), .val (.ref b237), .val (.ref b241), .val (.int kv), .unset, .unset, .unset, .unset] [(.int p2)])) rfl (hb hby at_57)) ?_
    show Go _ p e below s _ _ _ (T241.setTop (mkF m 59 #[.val (.int p1), .val (.int p2), .val (.int p3), .val (.int p4), .val (.int p5), .val (.int p6), .val (.ref b211), .val (.int (65537 : Int32)), .val (.int (10 : Int32)), .val (.ref b237), .val (.ref b241), .val (.int kv), .unset, .unset, .unset, .unset] [(.int (2147483647 : Int32)), (.int p2)]))
    refine go (fun _ => XS.iand X241.here hx rfl (hb hby at_59) rfl) ?_
    show Go _ p e below s _ _ _ (T241.setTop (mkF m 60 #[.val (.int p1), .val (.int p2), .val (.int p3), .val (.int p4), .val (.int p5), .val (.int p6), .val (.ref b211), .val (.int (65537 : Int32)), .val (.int (10 : Int32)), .val (.ref b237), .val (.ref b241), .val (.int kv), .unset, .unset, .unset, .unset] [(.int (p2 &&& (2147483647 : Int32)))]))
    refine go (fun _ => XS.iload X241.here hx rfl (hb hby at_60) rfl) ?_
    show Go _ p e below s _ _ _ (T241.setTop (mkF m 62 #[.val (.int p1), .val (.int p2), .val (.int p3), .val (.int p4), .val (.int p5), .val (.int p6), .val (.ref b211), .val (.int (65537 : Int32)), .val (.int (10 : Int32)), .val (.ref b237), .val (.ref b241), .val (.int kv), .unset, .unset, .unset, .unset] [(.int (65537 : Int32)), (.int (p2 &&& (2147483647 : Int32)))]))
    refine go (fun _ => XS.iconst X241.here hx rfl (hb hby at_62)) ?_
    show Go _ p e below s _ _ _ (T241.setTop (mkF m 63 #[.val (.int p1), .val (.int p2), .val (.int p3), .val (.int p4), .val (.int p5), .val (.int p6), .val (.ref b211), .val (.int (65537 : Int32)), .val (.int (10 : Int32)), .val (.ref b237), .val (.ref b241), .val (.int kv), .unset, .unset, .unset, .unset] [(.int (2 : Int32)), (.int (65537 : Int32)), (.int (p2 &&& (2147483647 : Int32)))]))
    refine go (fun _ => XS.iadd X241.here hx rfl (hb hby at_63) rfl) ?_
    show Go _ p e below s _ _ _ (T241.setTop (mkF m 64 #[.val (.int p1), .val (.int p2), .val (.int p3), .val (.int p4), .val (.int p5), .val (.int p6), .val (.ref b211), .val (.int (65537 : Int32)), .val (.int (10 : Int32)), .val (.ref b237), .val (.ref b241), .val (.int kv), .unset, .unset, .unset, .unset] [(.int (65539 : Int32)), (.int (p2 &&& (2147483647 : Int32)))]))
    refine go (fun _ => iremM X241 hx rfl (hb hby at_64) rfl (by decide)) ?_
    show Go _ p e below s _ _ _ (T241.setTop (mkF m 65 #[.val (.int p1), .val (.int p2), .val (.int p3), .val (.int p4), .val (.int p5), .val (.int p6), .val (.ref b211), .val (.int (65537 : Int32)), .val (.int (10 : Int32)), .val (.ref b237), .val (.ref b241), .val (.int kv), .unset, .unset, .unset, .unset] [(.int ((p2 &&& (2147483647 : Int32)) % (65539 : Int32)))]))
    refine go (fun _ => XS.istore X241.here hx rfl (hb hby at_65) rfl (l' := #[.val (.int p1), .val (.int p2), .val (.int p3), .val (.int p4), .val (.int p5), .val (.int p6), .val (.ref b211), .val (.int (65537 : Int32)), .val (.int (10 : Int32)), .val (.ref b237), .val (.ref b241), .val (.int kv), .val (.int ((p2 &&& (2147483647 : Int32)) % (65539 : Int32))), .unset, .unset, .unset]) rfl) ?_
    show Go _ p e below s _ _ _ (T241.setTop (mkF m 67 #[.val (.int p1), .val (.int p2), .val (.int p3), .val (.int p4), .val (.int p5), .val (.int p6), .val (.ref b211), .val (.int (65537 : Int32)), .val (.int (10 : Int32)), .val (.ref b237), .val (.ref b241), .val (.int kv), .val (.int ((p2 &&& (2147483647 : Int32)) % (65539 : Int32))), .unset, .unset, .unset] []))
    obtain ⟨mN, hmm, hmo⟩ := own_mod p2 65539 65539 (by decide) (by decide)
    generalize ((p2 &&& (2147483647 : Int32)) % (65539 : Int32)) = mv at hmm ⊢
    show Go _ p e below s _ _ _ (T241.setTop (mkF m 67 #[.val (.int p1), .val (.int p2), .val (.int p3), .val (.int p4), .val (.int p5), .val (.int p6), .val (.ref b211), .val (.int (65537 : Int32)), .val (.int (10 : Int32)), .val (.ref b237), .val (.ref b241), .val (.int kv), .val (.int mv), .unset, .unset, .unset] []))
    refine go (fun _ => XS.aload X241.here hx rfl (hb hby at_67) rfl rfl) ?_
    show Go _ p e below s _ _ _ (T241.setTop (mkF m 69 #[.val (.int p1), .val (.int p2), .val (.int p3), .val (.int p4), .val (.int p5), .val (.int p6), .val (.ref b211), .val (.int (65537 : Int32)), .val (.int (10 : Int32)), .val (.ref b237), .val (.ref b241), .val (.int kv), .val (.int mv), .unset, .unset, .unset] [(.ref b211)]))
    refine go (fun _ => XS.aload X241.here hx rfl (hb hby at_69) rfl rfl) ?_
    show Go _ p e below s _ _ _ (T241.setTop (mkF m 71 #[.val (.int p1), .val (.int p2), .val (.int p3), .val (.int p4), .val (.int p5), .val (.int p6), .val (.ref b211), .val (.int (65537 : Int32)), .val (.int (10 : Int32)), .val (.ref b237), .val (.ref b241), .val (.int kv), .val (.int mv), .unset, .unset, .unset] [(.ref b237), (.ref b211)]))
    refine go (fun _ => XS.iconst X241.here hx rfl (hb hby at_71)) ?_
    show Go _ p e below s _ _ _ (T241.setTop (mkF m 72 #[.val (.int p1), .val (.int p2), .val (.int p3), .val (.int p4), .val (.int p5), .val (.int p6), .val (.ref b211), .val (.int (65537 : Int32)), .val (.int (10 : Int32)), .val (.ref b237), .val (.ref b241), .val (.int kv), .val (.int mv), .unset, .unset, .unset] [(.int (0 : Int32)), (.ref b237), (.ref b211)]))
    refine go (fun _ => XS.iload X241.here hx rfl (hb hby at_72) rfl) ?_
    show Go _ p e below s _ _ _ (T241.setTop (mkF m 74 #[.val (.int p1), .val (.int p2), .val (.int p3), .val (.int p4), .val (.int p5), .val (.int p6), .val (.ref b211), .val (.int (65537 : Int32)), .val (.int (10 : Int32)), .val (.ref b237), .val (.ref b241), .val (.int kv), .val (.int mv), .unset, .unset, .unset] [(.int kv), (.int (0 : Int32)), (.ref b237), (.ref b211)]))
    obtain ⟨cq242, kq242, q242a, q242b, q242c⟩ := isOf hZ e241 c241_0
    obtain ⟨_, _, ⟨T242, L242, k242, n242⟩, -, X242, ⟨Lc242, hQ242, l242, y242, z242⟩, st242⟩ := X241.virtualBack hx (y := (⟨"com/example/dosisbog/dosisbog/HttpRequest$HeadEnd", "whole", "([BII)Z"⟩ : MethodName)) (z := (⟨"com/example/dosisbog/dosisbog/HttpRequest$HeadEnd", "whole", "([BII)Z"⟩ : MethodName)) hown (mvT hZ (hw _ (List.mem_of_getElem? (i := 21) rfl))) (mvT hZ (hw _ (List.mem_of_getElem? (i := 22) rfl))) (notFace_of_selects (args := #[]) (mvT hZ (hw _ (List.mem_of_getElem? (i := 24) rfl)))) (mvT hZ (hw _ (List.mem_of_getElem? (i := 24) rfl))) (mvT hZ (hw _ (List.mem_of_getElem? (i := 23) rfl))) (by decide) (backOf (W := 0) (rm6 l Z a0 hw [] b211 b237 (0 : Int32) kv k237 (3 : Int32) [(.int (nar .byte (10 : Int32))), (.int (nar .byte (10 : Int32))), (.int (nar .byte (10 : Int32)))] (.int (0 : Int32)) (fun j => [(nar .byte (10 : Int32)), (nar .byte (10 : Int32)), (nar .byte (10 : Int32))].getD j 0) kN 0 (0 : Int32) (0 : Int32) (0 : Int32) (0 : Int32) (0 : Int32) h241 n0 ZN241 c241_0 G_b211 c241_7 (Nat.ne_of_lt lt237_b211_b237) c241_2 c241_3 c241_4 c241_5 c241_1 (by decide) (by omega) (by have : (3 : Int32).toInt = 3 := (by decide); omega) (own_getD [(nar .byte (10 : Int32)), (nar .byte (10 : Int32)), (nar .byte (10 : Int32))])) hZ (hw _ (List.mem_of_getElem? (i := 25) rfl)) (hw _ (List.mem_of_getElem? (i := 2) rfl)) (by decide) (by decide)) q242a q242c (g := (mkF m 74 #[.val (.int p1), .val (.int p2), .val (.int p3), .val (.int p4), .val (.int p5), .val (.int p6), .val (.ref b211), .val (.int (65537 : Int32)), .val (.int (10 : Int32)), .val (.ref b237), .val (.ref b241), .val (.int kv), .val (.int mv), .unset, .unset, .unset] [(.int kv), (.int (0 : Int32)), (.ref b237), (.ref b211)])) rfl (by rw [hml]; rfl) (Steps.refl _) (argsL := [(.ref b237), (.int (0 : Int32)), (.int kv)]) (rest := []) (lenOf pd_0_3 rfl) rfl (by show 2 * 0 + _ ≤ _; exact Nat.le_of_eq rfl) (hb hby at_74) (fun _ _ => ⟨rfl, e241, (by decide : 3 + 0 ≤ _), (by decide : 65546 + 0 ≤ _)⟩)
    dsimp only [Pt.U, Pt.locs, Pt.cells, Pt.slots] at X242 l242 y242 z242 st242 hQ242
    subst l242 y242 z242
    obtain ⟨w1242, w2242, w3242, w4242, w5242, rfl, N242q, K242, u242_1, u242_2, u242_3, u242_4, u242_5, u242_6⟩ := hQ242
    have N242 := Fr.app NN240 N242q
    have c242_0 := c241_0.keep K242
    have c242_1 := c241_6.keep K242
    have c242_2 := c241_7.keep K242 (ninS (Ne.symm (Nat.ne_of_lt lt237_b211_b237)) nin0)
    have c242_3 := AE241.keep K242
    have c242_4 := V241.keep K242 (ninS (Ne.symm (Nat.ne_of_lt lt241_b211_b241)) nin0)
    have KK242 : Keep h0 T242.heap [] := KK241.trans K242 (allS (P := fun x => x ∈ [] ∨ h0.size ≤ x) (Or.inr SZ_b211) all0)
    have ZN242 : n0 ≤ T242.heap.size := Nat.le_trans ZN241 K242.1
    refine goT st242 ?_
    show Go _ p e below s _ _ _ (T242.setTop (mkF m 77 #[.val (.int p1), .val (.int p2), .val (.int p3), .val (.int p4), .val (.int p5), .val (.int p6), .val (.ref b211), .val (.int (65537 : Int32)), .val (.int (10 : Int32)), .val (.ref b237), .val (.ref b241), .val (.int kv), .val (.int mv), .unset, .unset, .unset] [(.int (nar .boolean w5242))]))
    refine go (fun _ => XS.istore X242.here hx rfl (hb hby at_77) rfl (l' := #[.val (.int p1), .val (.int p2), .val (.int p3), .val (.int p4), .val (.int p5), .val (.int p6), .val (.ref b211), .val (.int (65537 : Int32)), .val (.int (10 : Int32)), .val (.ref b237), .val (.ref b241), .val (.int kv), .val (.int mv), .val (.int (nar .boolean w5242)), .unset, .unset]) rfl) ?_
    show Go _ p e below s _ _ _ (T242.setTop (mkF m 79 #[.val (.int p1), .val (.int p2), .val (.int p3), .val (.int p4), .val (.int p5), .val (.int p6), .val (.ref b211), .val (.int (65537 : Int32)), .val (.int (10 : Int32)), .val (.ref b237), .val (.ref b241), .val (.int kv), .val (.int mv), .val (.int (nar .boolean w5242)), .unset, .unset] []))
    refine go (fun _ => XS.aload X242.here hx rfl (hb hby at_79) rfl rfl) ?_
    show Go _ p e below s _ _ _ (T242.setTop (mkF m 81 #[.val (.int p1), .val (.int p2), .val (.int p3), .val (.int p4), .val (.int p5), .val (.int p6), .val (.ref b211), .val (.int (65537 : Int32)), .val (.int (10 : Int32)), .val (.ref b237), .val (.ref b241), .val (.int kv), .val (.int mv), .val (.int (nar .boolean w5242)), .unset, .unset] [(.ref b211)]))
    refine go (fun _ => XS.aload X242.here hx rfl (hb hby at_81) rfl rfl) ?_
    show Go _ p e below s _ _ _ (T242.setTop (mkF m 83 #[.val (.int p1), .val (.int p2), .val (.int p3), .val (.int p4), .val (.int p5), .val (.int p6), .val (.ref b211), .val (.int (65537 : Int32)), .val (.int (10 : Int32)), .val (.ref b237), .val (.ref b241), .val (.int kv), .val (.int mv), .val (.int (nar .boolean w5242)), .unset, .unset] [(.ref b241), (.ref b211)]))
    refine go (fun _ => XS.iconst X242.here hx rfl (hb hby at_83)) ?_
    show Go _ p e below s _ _ _ (T242.setTop (mkF m 84 #[.val (.int p1), .val (.int p2), .val (.int p3), .val (.int p4), .val (.int p5), .val (.int p6), .val (.ref b211), .val (.int (65537 : Int32)), .val (.int (10 : Int32)), .val (.ref b237), .val (.ref b241), .val (.int kv), .val (.int mv), .val (.int (nar .boolean w5242)), .unset, .unset] [(.int (0 : Int32)), (.ref b241), (.ref b211)]))
    refine go (fun _ => XS.iload X242.here hx rfl (hb hby at_84) rfl) ?_
    show Go _ p e below s _ _ _ (T242.setTop (mkF m 86 #[.val (.int p1), .val (.int p2), .val (.int p3), .val (.int p4), .val (.int p5), .val (.int p6), .val (.ref b211), .val (.int (65537 : Int32)), .val (.int (10 : Int32)), .val (.ref b237), .val (.ref b241), .val (.int kv), .val (.int mv), .val (.int (nar .boolean w5242)), .unset, .unset] [(.int mv), (.int (0 : Int32)), (.ref b241), (.ref b211)]))
    obtain ⟨cq243, kq243, q243a, q243b, q243c⟩ := isOf hZ rfl c242_0
    obtain ⟨_, _, ⟨T243, L243, k243, n243⟩, -, X243, ⟨Lc243, hQ243, l243, y243, z243⟩, st243⟩ := X242.virtualBack hx (y := (⟨"com/example/dosisbog/dosisbog/HttpRequest$HeadEnd", "whole", "([BII)Z"⟩ : MethodName)) (z := (⟨"com/example/dosisbog/dosisbog/HttpRequest$HeadEnd", "whole", "([BII)Z"⟩ : MethodName)) hown (mvT hZ (hw _ (List.mem_of_getElem? (i := 21) rfl))) (mvT hZ (hw _ (List.mem_of_getElem? (i := 22) rfl))) (notFace_of_selects (args := #[]) (mvT hZ (hw _ (List.mem_of_getElem? (i := 24) rfl)))) (mvT hZ (hw _ (List.mem_of_getElem? (i := 24) rfl))) (mvT hZ (hw _ (List.mem_of_getElem? (i := 23) rfl))) (by decide) (backOf (W := 0) (rm6 l Z a0 hw [] b211 b241 (0 : Int32) mv k241 (65538 : Int32) [] (.int (0 : Int32)) (fun _ => 0) mN 0 w1242 w2242 w3242 w4242 w5242 (T242.heap) n0 ZN242 c242_0 G_b211 c242_4 (Nat.ne_of_lt lt241_b211_b241) u242_1 u242_2 u242_3 u242_4 u242_5 (by decide) (by omega) (by have : (65538 : Int32).toInt = 65538 := (by decide); omega) (fun _ => rfl)) hZ (hw _ (List.mem_of_getElem? (i := 25) rfl)) (hw _ (List.mem_of_getElem? (i := 2) rfl)) (by decide) (by decide)) q243a q243c (g := (mkF m 86 #[.val (.int p1), .val (.int p2), .val (.int p3), .val (.int p4), .val (.int p5), .val (.int p6), .val (.ref b211), .val (.int (65537 : Int32)), .val (.int (10 : Int32)), .val (.ref b237), .val (.ref b241), .val (.int kv), .val (.int mv), .val (.int (nar .boolean w5242)), .unset, .unset] [(.int mv), (.int (0 : Int32)), (.ref b241), (.ref b211)])) rfl (by rw [hml]; rfl) (Steps.refl _) (argsL := [(.ref b241), (.int (0 : Int32)), (.int mv)]) (rest := []) (lenOf pd_0_3 rfl) rfl (by show 2 * 0 + _ ≤ _; exact Nat.le_of_eq rfl) (hb hby at_86) (fun _ _ => ⟨rfl, rfl, (by decide : 3 + 0 ≤ _), (by decide : 65546 + 0 ≤ _)⟩)
    dsimp only [Pt.U, Pt.locs, Pt.cells, Pt.slots] at X243 l243 y243 z243 st243 hQ243
    subst l243 y243 z243
    obtain ⟨w1243, w2243, w3243, w4243, w5243, rfl, N243q, K243, u243_1, u243_2, u243_3, u243_4, u243_5, u243_6⟩ := hQ243
    have N243 := Fr.app N242 N243q
    have c243_0 := c242_0.keep K243
    have c243_1 := c242_1.keep K243
    have c243_2 := c242_2.keep K243 (ninS (Ne.symm (Nat.ne_of_lt lt237_b211_b237)) nin0)
    have c243_3 := c242_3.keep K243
    have c243_4 := c242_4.keep K243 (ninS (Ne.symm (Nat.ne_of_lt lt241_b211_b241)) nin0)
    have KK243 : Keep h0 T243.heap [] := KK242.trans K243 (allS (P := fun x => x ∈ [] ∨ h0.size ≤ x) (Or.inr SZ_b211) all0)
    have ZN243 : n0 ≤ T243.heap.size := Nat.le_trans ZN242 K243.1
    refine goT st243 ?_
    show Go _ p e below s _ _ _ (T243.setTop (mkF m 89 #[.val (.int p1), .val (.int p2), .val (.int p3), .val (.int p4), .val (.int p5), .val (.int p6), .val (.ref b211), .val (.int (65537 : Int32)), .val (.int (10 : Int32)), .val (.ref b237), .val (.ref b241), .val (.int kv), .val (.int mv), .val (.int (nar .boolean w5242)), .unset, .unset] [(.int (nar .boolean w5243))]))
    refine go (fun _ => XS.istore X243.here hx rfl (hb hby at_89) rfl (l' := #[.val (.int p1), .val (.int p2), .val (.int p3), .val (.int p4), .val (.int p5), .val (.int p6), .val (.ref b211), .val (.int (65537 : Int32)), .val (.int (10 : Int32)), .val (.ref b237), .val (.ref b241), .val (.int kv), .val (.int mv), .val (.int (nar .boolean w5242)), .val (.int (nar .boolean w5243)), .unset]) rfl) ?_
    show Go _ p e below s _ _ _ (T243.setTop (mkF m 91 #[.val (.int p1), .val (.int p2), .val (.int p3), .val (.int p4), .val (.int p5), .val (.int p6), .val (.ref b211), .val (.int (65537 : Int32)), .val (.int (10 : Int32)), .val (.ref b237), .val (.ref b241), .val (.int kv), .val (.int mv), .val (.int (nar .boolean w5242)), .val (.int (nar .boolean w5243)), .unset] []))
    refine go (fun _ => XS.aload X243.here hx rfl (hb hby at_91) rfl rfl) ?_
    show Go _ p e below s _ _ _ (T243.setTop (mkF m 93 #[.val (.int p1), .val (.int p2), .val (.int p3), .val (.int p4), .val (.int p5), .val (.int p6), .val (.ref b211), .val (.int (65537 : Int32)), .val (.int (10 : Int32)), .val (.ref b237), .val (.ref b241), .val (.int kv), .val (.int mv), .val (.int (nar .boolean w5242)), .val (.int (nar .boolean w5243)), .unset] [(.ref b211)]))
    refine go (fun _ => XS.aload X243.here hx rfl (hb hby at_93) rfl rfl) ?_
    show Go _ p e below s _ _ _ (T243.setTop (mkF m 95 #[.val (.int p1), .val (.int p2), .val (.int p3), .val (.int p4), .val (.int p5), .val (.int p6), .val (.ref b211), .val (.int (65537 : Int32)), .val (.int (10 : Int32)), .val (.ref b237), .val (.ref b241), .val (.int kv), .val (.int mv), .val (.int (nar .boolean w5242)), .val (.int (nar .boolean w5243)), .unset] [(.ref b241), (.ref b211)]))
    refine go (fun _ => XS.iload X243.here hx rfl (hb hby at_95) rfl) ?_
    show Go _ p e below s _ _ _ (T243.setTop (mkF m 97 #[.val (.int p1), .val (.int p2), .val (.int p3), .val (.int p4), .val (.int p5), .val (.int p6), .val (.ref b211), .val (.int (65537 : Int32)), .val (.int (10 : Int32)), .val (.ref b237), .val (.ref b241), .val (.int kv), .val (.int mv), .val (.int (nar .boolean w5242)), .val (.int (nar .boolean w5243)), .unset] [(.int mv), (.ref b241), (.ref b211)]))
    refine go (fun _ => XS.iload X243.here hx rfl (hb hby at_97) rfl) ?_
    show Go _ p e below s _ _ _ (T243.setTop (mkF m 99 #[.val (.int p1), .val (.int p2), .val (.int p3), .val (.int p4), .val (.int p5), .val (.int p6), .val (.ref b211), .val (.int (65537 : Int32)), .val (.int (10 : Int32)), .val (.ref b237), .val (.ref b241), .val (.int kv), .val (.int mv), .val (.int (nar .boolean w5242)), .val (.int (nar .boolean w5243)), .unset] [(.int (65537 : Int32)), (.int mv), (.ref b241), (.ref b211)]))
    refine go (fun _ => XS.iconst X243.here hx rfl (hb hby at_99)) ?_
    show Go _ p e below s _ _ _ (T243.setTop (mkF m 100 #[.val (.int p1), .val (.int p2), .val (.int p3), .val (.int p4), .val (.int p5), .val (.int p6), .val (.ref b211), .val (.int (65537 : Int32)), .val (.int (10 : Int32)), .val (.ref b237), .val (.ref b241), .val (.int kv), .val (.int mv), .val (.int (nar .boolean w5242)), .val (.int (nar .boolean w5243)), .unset] [(.int (1 : Int32)), (.int (65537 : Int32)), (.int mv), (.ref b241), (.ref b211)]))
    refine go (fun _ => XS.iadd X243.here hx rfl (hb hby at_100) rfl) ?_
    show Go _ p e below s _ _ _ (T243.setTop (mkF m 101 #[.val (.int p1), .val (.int p2), .val (.int p3), .val (.int p4), .val (.int p5), .val (.int p6), .val (.ref b211), .val (.int (65537 : Int32)), .val (.int (10 : Int32)), .val (.ref b237), .val (.ref b241), .val (.int kv), .val (.int mv), .val (.int (nar .boolean w5242)), .val (.int (nar .boolean w5243)), .unset] [(.int (65538 : Int32)), (.int mv), (.ref b241), (.ref b211)]))
    obtain ⟨cq244, kq244, q244a, q244b, q244c⟩ := isOf hZ rfl c243_0
    obtain ⟨_, _, ⟨T244, L244, k244, n244⟩, -, X244, ⟨Lc244, hQ244, l244, y244, z244⟩, st244⟩ := X243.virtualBack hx (y := (⟨"com/example/dosisbog/dosisbog/HttpRequest$HeadEnd", "whole", "([BII)Z"⟩ : MethodName)) (z := (⟨"com/example/dosisbog/dosisbog/HttpRequest$HeadEnd", "whole", "([BII)Z"⟩ : MethodName)) hown (mvT hZ (hw _ (List.mem_of_getElem? (i := 21) rfl))) (mvT hZ (hw _ (List.mem_of_getElem? (i := 22) rfl))) (notFace_of_selects (args := #[]) (mvT hZ (hw _ (List.mem_of_getElem? (i := 24) rfl)))) (mvT hZ (hw _ (List.mem_of_getElem? (i := 24) rfl))) (mvT hZ (hw _ (List.mem_of_getElem? (i := 23) rfl))) (by decide) (backOf (W := 0) (rm6 l Z a0 hw [] b211 b241 mv (65538 : Int32) k241 (65538 : Int32) [] (.int (0 : Int32)) (fun _ => 0) (65538 - mN) mN w1243 w2243 w3243 w4243 w5243 (T243.heap) n0 ZN243 c243_0 G_b211 c243_4 (Nat.ne_of_lt lt241_b211_b241) u243_1 u243_2 u243_3 u243_4 u243_5 hmm (by have : (65538 : Int32).toInt = 65538 := (by decide); omega) (by have : (65538 : Int32).toInt = 65538 := (by decide); omega) (fun _ => rfl)) hZ (hw _ (List.mem_of_getElem? (i := 25) rfl)) (hw _ (List.mem_of_getElem? (i := 2) rfl)) (by decide) (by decide)) q244a q244c (g := (mkF m 101 #[.val (.int p1), .val (.int p2), .val (.int p3), .val (.int p4), .val (.int p5), .val (.int p6), .val (.ref b211), .val (.int (65537 : Int32)), .val (.int (10 : Int32)), .val (.ref b237), .val (.ref b241), .val (.int kv), .val (.int mv), .val (.int (nar .boolean w5242)), .val (.int (nar .boolean w5243)), .unset] [(.int (65538 : Int32)), (.int mv), (.ref b241), (.ref b211)])) rfl (by rw [hml]; rfl) (Steps.refl _) (argsL := [(.ref b241), (.int mv), (.int (65538 : Int32))]) (rest := []) (lenOf pd_0_3 rfl) rfl (by show 2 * 0 + _ ≤ _; exact Nat.le_of_eq rfl) (hb hby at_101) (fun _ _ => ⟨rfl, rfl, (by decide : 3 + 0 ≤ _), (by decide : 65546 + 0 ≤ _)⟩)
    dsimp only [Pt.U, Pt.locs, Pt.cells, Pt.slots] at X244 l244 y244 z244 st244 hQ244
    subst l244 y244 z244
    obtain ⟨w1244, w2244, w3244, w4244, w5244, rfl, N244q, K244, u244_1, u244_2, u244_3, u244_4, u244_5, u244_6⟩ := hQ244
    have N244 := Fr.app N243 N244q
    have c244_0 := c243_0.keep K244
    have c244_1 := c243_1.keep K244
    have c244_2 := c243_2.keep K244 (ninS (Ne.symm (Nat.ne_of_lt lt237_b211_b237)) nin0)
    have c244_3 := c243_3.keep K244
    have c244_4 := c243_4.keep K244 (ninS (Ne.symm (Nat.ne_of_lt lt241_b211_b241)) nin0)
    have KK244 : Keep h0 T244.heap [] := KK243.trans K244 (allS (P := fun x => x ∈ [] ∨ h0.size ≤ x) (Or.inr SZ_b211) all0)
    have ZN244 : n0 ≤ T244.heap.size := Nat.le_trans ZN243 K244.1
    refine goT st244 ?_
    show Go _ p e below s _ _ _ (T244.setTop (mkF m 104 #[.val (.int p1), .val (.int p2), .val (.int p3), .val (.int p4), .val (.int p5), .val (.int p6), .val (.ref b211), .val (.int (65537 : Int32)), .val (.int (10 : Int32)), .val (.ref b237), .val (.ref b241), .val (.int kv), .val (.int mv), .val (.int (nar .boolean w5242)), .val (.int (nar .boolean w5243)), .unset] [(.int (nar .boolean w5244))]))
    refine go (fun _ => XS.istore X244.here hx rfl (hb hby at_104) rfl (l' := #[.val (.int p1), .val (.int p2), .val (.int p3), .val (.int p4), .val (.int p5), .val (.int p6), .val (.ref b211), .val (.int (65537 : Int32)), .val (.int (10 : Int32)), .val (.ref b237), .val (.ref b241), .val (.int kv), .val (.int mv), .val (.int (nar .boolean w5242)), .val (.int (nar .boolean w5243)), .val (.int (nar .boolean w5244))]) rfl) ?_
    show Go _ p e below s _ _ _ (T244.setTop (mkF m 106 #[.val (.int p1), .val (.int p2), .val (.int p3), .val (.int p4), .val (.int p5), .val (.int p6), .val (.ref b211), .val (.int (65537 : Int32)), .val (.int (10 : Int32)), .val (.ref b237), .val (.ref b241), .val (.int kv), .val (.int mv), .val (.int (nar .boolean w5242)), .val (.int (nar .boolean w5243)), .val (.int (nar .boolean w5244))] []))
    obtain ⟨m1, m2, m3, m4⟩ := own_m1 hkl hmo u242_6 u243_6 u244_6
    refine go (fun _ => XS.iload X244.here hx rfl (hb hby at_106) rfl) ?_
    show Go _ p e below s _ _ _ (T244.setTop (mkF m 108 #[.val (.int p1), .val (.int p2), .val (.int p3), .val (.int p4), .val (.int p5), .val (.int p6), .val (.ref b211), .val (.int (65537 : Int32)), .val (.int (10 : Int32)), .val (.ref b237), .val (.ref b241), .val (.int kv), .val (.int mv), .val (.int (nar .boolean w5242)), .val (.int (nar .boolean w5243)), .val (.int (nar .boolean w5244))] [(.int (nar .boolean w5242))]))
    refine go (fun _ => XS.ifNo X244.here hx rfl (hb hby at_108) rfl ((if0 _ _).trans (teq (by rw [m1]; rfl)).2)) ?_
    show Go _ p e below s _ _ _ (T244.setTop (mkF m 111 #[.val (.int p1), .val (.int p2), .val (.int p3), .val (.int p4), .val (.int p5), .val (.int p6), .val (.ref b211), .val (.int (65537 : Int32)), .val (.int (10 : Int32)), .val (.ref b237), .val (.ref b241), .val (.int kv), .val (.int mv), .val (.int (nar .boolean w5242)), .val (.int (nar .boolean w5243)), .val (.int (nar .boolean w5244))] []))
    refine go (fun _ => XS.iload X244.here hx rfl (hb hby at_111) rfl) ?_
    show Go _ p e below s _ _ _ (T244.setTop (mkF m 113 #[.val (.int p1), .val (.int p2), .val (.int p3), .val (.int p4), .val (.int p5), .val (.int p6), .val (.ref b211), .val (.int (65537 : Int32)), .val (.int (10 : Int32)), .val (.ref b237), .val (.ref b241), .val (.int kv), .val (.int mv), .val (.int (nar .boolean w5242)), .val (.int (nar .boolean w5243)), .val (.int (nar .boolean w5244))] [(.int (nar .boolean w5243))]))
    refine go (fun _ => XS.iload X244.here hx rfl (hb hby at_113) rfl) ?_
    show Go _ p e below s _ _ _ (T244.setTop (mkF m 115 #[.val (.int p1), .val (.int p2), .val (.int p3), .val (.int p4), .val (.int p5), .val (.int p6), .val (.ref b211), .val (.int (65537 : Int32)), .val (.int (10 : Int32)), .val (.ref b237), .val (.ref b241), .val (.int kv), .val (.int mv), .val (.int (nar .boolean w5242)), .val (.int (nar .boolean w5243)), .val (.int (nar .boolean w5244))] [(.int kv), (.int (nar .boolean w5243))]))
    refine go (fun _ => XS.iload X244.here hx rfl (hb hby at_115) rfl) ?_
    show Go _ p e below s _ _ _ (T244.setTop (mkF m 117 #[.val (.int p1), .val (.int p2), .val (.int p3), .val (.int p4), .val (.int p5), .val (.int p6), .val (.ref b211), .val (.int (65537 : Int32)), .val (.int (10 : Int32)), .val (.ref b237), .val (.ref b241), .val (.int kv), .val (.int mv), .val (.int (nar .boolean w5242)), .val (.int (nar .boolean w5243)), .val (.int (nar .boolean w5244))] [(.int mv), (.int kv), (.int (nar .boolean w5243))]))
    refine go (fun _ => XS.iadd X244.here hx rfl (hb hby at_117) rfl) ?_
    show Go _ p e below s _ _ _ (T244.setTop (mkF m 118 #[.val (.int p1), .val (.int p2), .val (.int p3), .val (.int p4), .val (.int p5), .val (.int p6), .val (.ref b211), .val (.int (65537 : Int32)), .val (.int (10 : Int32)), .val (.ref b237), .val (.ref b241), .val (.int kv), .val (.int mv), .val (.int (nar .boolean w5242)), .val (.int (nar .boolean w5243)), .val (.int (nar .boolean w5244))] [(.int (kv + mv)), (.int (nar .boolean w5243))]))
    refine go (fun _ => XS.iload X244.here hx rfl (hb hby at_118) rfl) ?_
    show Go _ p e below s _ _ _ (T244.setTop (mkF m 120 #[.val (.int p1), .val (.int p2), .val (.int p3), .val (.int p4), .val (.int p5), .val (.int p6), .val (.ref b211), .val (.int (65537 : Int32)), .val (.int (10 : Int32)), .val (.ref b237), .val (.ref b241), .val (.int kv), .val (.int mv), .val (.int (nar .boolean w5242)), .val (.int (nar .boolean w5243)), .val (.int (nar .boolean w5244))] [(.int (65537 : Int32)), (.int (kv + mv)), (.int (nar .boolean w5243))]))
    by_cases hc120_245 : (kv + mv) < (65537 : Int32)
    · refine go (fun _ => XS.icmpYes X244.here hx rfl (pc0 := 120) (pc' := 127) rfl (hb hby at_120) rfl (tlt hc120_245).1 (by decide) (by decide)) ?_
      show Go _ p e below s _ _ _ (T244.setTop (mkF m 127 #[.val (.int p1), .val (.int p2), .val (.int p3), .val (.int p4), .val (.int p5), .val (.int p6), .val (.ref b211), .val (.int (65537 : Int32)), .val (.int (10 : Int32)), .val (.ref b237), .val (.ref b241), .val (.int kv), .val (.int mv), .val (.int (nar .boolean w5242)), .val (.int (nar .boolean w5243)), .val (.int (nar .boolean w5244))] [(.int (nar .boolean w5243))]))
      refine go (fun _ => XS.iconst X244.here hx rfl (hb hby at_127)) ?_
      show Go _ p e below s _ _ _ (T244.setTop (mkF m 128 #[.val (.int p1), .val (.int p2), .val (.int p3), .val (.int p4), .val (.int p5), .val (.int p6), .val (.ref b211), .val (.int (65537 : Int32)), .val (.int (10 : Int32)), .val (.ref b237), .val (.ref b241), .val (.int kv), .val (.int mv), .val (.int (nar .boolean w5242)), .val (.int (nar .boolean w5243)), .val (.int (nar .boolean w5244))] [(.int (0 : Int32)), (.int (nar .boolean w5243))]))
      refine go (fun _ => XS.icmpNo X244.here hx rfl (hb hby at_128) rfl (teq (by rw [m2 ((own_kmlt hkk hmm hkl hmo).mp hc120_245)]; rfl)).2) ?_
      show Go _ p e below s _ _ _ (T244.setTop (mkF m 131 #[.val (.int p1), .val (.int p2), .val (.int p3), .val (.int p4), .val (.int p5), .val (.int p6), .val (.ref b211), .val (.int (65537 : Int32)), .val (.int (10 : Int32)), .val (.ref b237), .val (.ref b241), .val (.int kv), .val (.int mv), .val (.int (nar .boolean w5242)), .val (.int (nar .boolean w5243)), .val (.int (nar .boolean w5244))] []))
      refine go (fun _ => XS.iload X244.here hx rfl (hb hby at_131) rfl) ?_
      show Go _ p e below s _ _ _ (T244.setTop (mkF m 133 #[.val (.int p1), .val (.int p2), .val (.int p3), .val (.int p4), .val (.int p5), .val (.int p6), .val (.ref b211), .val (.int (65537 : Int32)), .val (.int (10 : Int32)), .val (.ref b237), .val (.ref b241), .val (.int kv), .val (.int mv), .val (.int (nar .boolean w5242)), .val (.int (nar .boolean w5243)), .val (.int (nar .boolean w5244))] [(.int (nar .boolean w5244))]))
      refine go (fun _ => XS.ifNo X244.here hx rfl (hb hby at_133) rfl ((if0 _ _).trans (feq (by rw [m4]; decide)).1)) ?_
      show Go _ p e below s _ _ _ (T244.setTop (mkF m 136 #[.val (.int p1), .val (.int p2), .val (.int p3), .val (.int p4), .val (.int p5), .val (.int p6), .val (.ref b211), .val (.int (65537 : Int32)), .val (.int (10 : Int32)), .val (.ref b237), .val (.ref b241), .val (.int kv), .val (.int mv), .val (.int (nar .boolean w5242)), .val (.int (nar .boolean w5243)), .val (.int (nar .boolean w5244))] []))
      refine go (fun _ => XS.iconst X244.here hx rfl (hb hby at_136)) ?_
      show Go _ p e below s _ _ _ (T244.setTop (mkF m 137 #[.val (.int p1), .val (.int p2), .val (.int p3), .val (.int p4), .val (.int p5), .val (.int p6), .val (.ref b211), .val (.int (65537 : Int32)), .val (.int (10 : Int32)), .val (.ref b237), .val (.ref b241), .val (.int kv), .val (.int mv), .val (.int (nar .boolean w5242)), .val (.int (nar .boolean w5243)), .val (.int (nar .boolean w5244))] [(.int (1 : Int32))]))
      refine go (fun _ => XS.goto X244.here hx rfl (pc0 := 137) (pc' := 141) rfl (hb hby at_137) (by decide) (by decide)) ?_
      show Go _ p e below s _ _ _ (T244.setTop (mkF m 141 #[.val (.int p1), .val (.int p2), .val (.int p3), .val (.int p4), .val (.int p5), .val (.int p6), .val (.ref b211), .val (.int (65537 : Int32)), .val (.int (10 : Int32)), .val (.ref b237), .val (.ref b241), .val (.int kv), .val (.int mv), .val (.int (nar .boolean w5242)), .val (.int (nar .boolean w5243)), .val (.int (nar .boolean w5244))] [(.int (1 : Int32))]))
      refine goRet X244 hx Bd.notSynchronized Bd.returns rfl (Or.inl ⟨rfl, Or.inr (Or.inl rfl), _, rfl⟩) (hb hby at_141) (by decide) (by decide) (by refine ⟨rfl, N244⟩)
    · refine go (fun _ => XS.icmpNo X244.here hx rfl (hb hby at_120) rfl (flt hc120_245).1) ?_
      show Go _ p e below s _ _ _ (T244.setTop (mkF m 123 #[.val (.int p1), .val (.int p2), .val (.int p3), .val (.int p4), .val (.int p5), .val (.int p6), .val (.ref b211), .val (.int (65537 : Int32)), .val (.int (10 : Int32)), .val (.ref b237), .val (.ref b241), .val (.int kv), .val (.int mv), .val (.int (nar .boolean w5242)), .val (.int (nar .boolean w5243)), .val (.int (nar .boolean w5244))] [(.int (nar .boolean w5243))]))
      refine go (fun _ => XS.iconst X244.here hx rfl (hb hby at_123)) ?_
      show Go _ p e below s _ _ _ (T244.setTop (mkF m 124 #[.val (.int p1), .val (.int p2), .val (.int p3), .val (.int p4), .val (.int p5), .val (.int p6), .val (.ref b211), .val (.int (65537 : Int32)), .val (.int (10 : Int32)), .val (.ref b237), .val (.ref b241), .val (.int kv), .val (.int mv), .val (.int (nar .boolean w5242)), .val (.int (nar .boolean w5243)), .val (.int (nar .boolean w5244))] [(.int (1 : Int32)), (.int (nar .boolean w5243))]))
      refine go (fun _ => XS.goto X244.here hx rfl (pc0 := 124) (pc' := 128) rfl (hb hby at_124) (by decide) (by decide)) ?_
      show Go _ p e below s _ _ _ (T244.setTop (mkF m 128 #[.val (.int p1), .val (.int p2), .val (.int p3), .val (.int p4), .val (.int p5), .val (.int p6), .val (.ref b211), .val (.int (65537 : Int32)), .val (.int (10 : Int32)), .val (.ref b237), .val (.ref b241), .val (.int kv), .val (.int mv), .val (.int (nar .boolean w5242)), .val (.int (nar .boolean w5243)), .val (.int (nar .boolean w5244))] [(.int (1 : Int32)), (.int (nar .boolean w5243))]))
      refine go (fun _ => XS.icmpNo X244.here hx rfl (hb hby at_128) rfl (teq (by rw [m3 (Nat.le_of_not_lt fun u => hc120_245 ((own_kmlt hkk hmm hkl hmo).mpr u))]; rfl)).2) ?_
      show Go _ p e below s _ _ _ (T244.setTop (mkF m 131 #[.val (.int p1), .val (.int p2), .val (.int p3), .val (.int p4), .val (.int p5), .val (.int p6), .val (.ref b211), .val (.int (65537 : Int32)), .val (.int (10 : Int32)), .val (.ref b237), .val (.ref b241), .val (.int kv), .val (.int mv), .val (.int (nar .boolean w5242)), .val (.int (nar .boolean w5243)), .val (.int (nar .boolean w5244))] []))
      refine go (fun _ => XS.iload X244.here hx rfl (hb hby at_131) rfl) ?_
      show Go _ p e below s _ _ _ (T244.setTop (mkF m 133 #[.val (.int p1), .val (.int p2), .val (.int p3), .val (.int p4), .val (.int p5), .val (.int p6), .val (.ref b211), .val (.int (65537 : Int32)), .val (.int (10 : Int32)), .val (.ref b237), .val (.ref b241), .val (.int kv), .val (.int mv), .val (.int (nar .boolean w5242)), .val (.int (nar .boolean w5243)), .val (.int (nar .boolean w5244))] [(.int (nar .boolean w5244))]))
      refine go (fun _ => XS.ifNo X244.here hx rfl (hb hby at_133) rfl ((if0 _ _).trans (feq (by rw [m4]; decide)).1)) ?_
      show Go _ p e below s _ _ _ (T244.setTop (mkF m 136 #[.val (.int p1), .val (.int p2), .val (.int p3), .val (.int p4), .val (.int p5), .val (.int p6), .val (.ref b211), .val (.int (65537 : Int32)), .val (.int (10 : Int32)), .val (.ref b237), .val (.ref b241), .val (.int kv), .val (.int mv), .val (.int (nar .boolean w5242)), .val (.int (nar .boolean w5243)), .val (.int (nar .boolean w5244))] []))
      refine go (fun _ => XS.iconst X244.here hx rfl (hb hby at_136)) ?_
      show Go _ p e below s _ _ _ (T244.setTop (mkF m 137 #[.val (.int p1), .val (.int p2), .val (.int p3), .val (.int p4), .val (.int p5), .val (.int p6), .val (.ref b211), .val (.int (65537 : Int32)), .val (.int (10 : Int32)), .val (.ref b237), .val (.ref b241), .val (.int kv), .val (.int mv), .val (.int (nar .boolean w5242)), .val (.int (nar .boolean w5243)), .val (.int (nar .boolean w5244))] [(.int (1 : Int32))]))
      refine go (fun _ => XS.goto X244.here hx rfl (pc0 := 137) (pc' := 141) rfl (hb hby at_137) (by decide) (by decide)) ?_
      show Go _ p e below s _ _ _ (T244.setTop (mkF m 141 #[.val (.int p1), .val (.int p2), .val (.int p3), .val (.int p4), .val (.int p5), .val (.int p6), .val (.ref b211), .val (.int (65537 : Int32)), .val (.int (10 : Int32)), .val (.ref b237), .val (.ref b241), .val (.int kv), .val (.int mv), .val (.int (nar .boolean w5242)), .val (.int (nar .boolean w5243)), .val (.int (nar .boolean w5244))] [(.int (1 : Int32))]))
      refine goRet X244 hx Bd.notSynchronized Bd.returns rfl (Or.inl ⟨rfl, Or.inr (Or.inl rfl), _, rfl⟩) (hb hby at_141) (by decide) (by decide) (by refine ⟨rfl, N244⟩)
set_option maxRecDepth 65536 in
set_option maxHeartbeats 40000000 in
theorem comes_1 {Post : Tables → Env → Array Value → State → Outcome → State → Prop} (hpost : ∀ tb e args s v u, (limb_1_1.after args s (.returned v) u = true ∧ limb_1_2.after args s (.returned v) u = true ∧ True) → FrameEnd s (.returned v) u (Jvm.fieldLocs frame_1_writes args s ++ Jvm.arrayLocs frame_1_arrays args s ++ Jvm.staticLocs frame_1_statics s) 24 131200 → Post tb e args s (.returned v) u) :
    ArmFor flags0 classFile x code maxLocals ret World_1 tables_1 room_1 Calls_1 rest_1 Pre_1 Post := by
  intro l hfl _ _ p e ha hc hk s m args below hf hA hF happ hP
  obtain ⟨hcalls, hrest, hpre⟩ := hP
  obtain ⟨-, -, -, hnamed, -, -, -, hat⟩ := (Spec.applies_iff hf).mp happ
  obtain ⟨hg, hn⟩ := and_e (Cond.before_iff.mp (show (Jvm.Cond.and given_1 narrow_1).before args s = true from hpre))
  obtain ⟨q0, r0⟩ := and_e hg
  obtain ⟨q1, r1⟩ := and_e r0
  obtain ⟨q2, r2⟩ := and_e r1
  obtain ⟨q3, r3⟩ := and_e r2
  obtain ⟨q4, r4⟩ := and_e r3
  obtain ⟨q5, r5⟩ := and_e r4
  obtain ⟨w0, w1, w2, w3, w4, w5, rfl⟩ : ∃ w0 w1 w2 w3 w4 w5 : Value, args = #[w0, w1, w2, w3, w4, w5] := by
    have hs : args.size = 6 := by simpa [Cond.value, given_1] using q0
    obtain ⟨L⟩ := args
    match L, hs with
    | [w0, w1, w2, w3, w4, w5], _ => exact ⟨w0, w1, w2, w3, w4, w5, rfl⟩
  have hw := fun d (hd : d ∈ tables_1) => atoms_spec (ws := Jvm.Cond.code x code maxLocals ret :: tables_1) hat d (List.mem_cons_of_mem _ hd)
  have hfit : Fit s := fun {y c} hc i hi => by
    obtain ⟨ha, rfl⟩ := Array.getElem?_eq_some_iff.mp hc
    have q := List.all_eq_true.mp ((Array.all_eq_true_iff_forall_mem.mp hF) _ (Array.getElem_mem ha)) i (List.mem_range.mpr hi)
    simpa [Array.getElem?_eq_getElem hi] using q
  obtain ⟨i0, ei0⟩ := is_v q1
  obtain rfl : w0 = (.int i0) := Option.some.inj ei0
  obtain ⟨i1, ei1⟩ := is_v q2
  obtain rfl : w1 = (.int i1) := Option.some.inj ei1
  obtain ⟨i2, ei2⟩ := is_v q3
  obtain rfl : w2 = (.int i2) := Option.some.inj ei2
  obtain ⟨i3, ei3⟩ := is_v q4
  obtain rfl : w3 = (.int i3) := Option.some.inj ei3
  obtain ⟨i4, ei4⟩ := is_v q5
  obtain rfl : w4 = (.int i4) := Option.some.inj ei4
  obtain ⟨i5, ei5⟩ := is_v r5
  obtain rfl : w5 = (.int i5) := Option.some.inj ei5
  obtain ⟨n, o, h1, h2, h3, _, L, rfl, ⟨rfl, N⟩, hq⟩ := rm0 l s _ hw tables_1 i0 i1 i2 i3 i4 i5  s.heap s.heap.size (Nat.le_refl _)  p e ha hc hk s m _ below hf ((Spec.applies_iff_loose hf).mp happ).1 ⟨rfl, State.Warmed39.refl s, rfl⟩ trivial
  refine ⟨n, _, h1, h2, h3, hpost _ _ _ _ _ _ ⟨Cond.after_iff.mpr rfl, Cond.after_iff.mpr (eq_i res_at (Term.int_eval (1)) rfl), trivial⟩ ⟨hq.1, hq.2.1, (hq.2.2.sift fun y hy => Or.inr (N y hy)).mono (by decide) (by decide)⟩⟩
theorem main_1_1 : Claimed_1_1 := comes_1 fun _ _ _ _ _ _ h hF => ⟨h.1, hF⟩
theorem main_1_2 : Claimed_1_2 := comes_1 fun _ _ _ _ _ _ h hF => ⟨h.2.1, hF⟩
end Jvm.Pilot.@@N@@
namespace Jvm.Pilot.@@N@@
open Jvm Jvm.ClassFile Sem Op Lib Jvm.Free Jvm.Stand Jvm.Pilot.@@N@@.Jvm.D
/-! MADE BY PROGRAM (witnessworld.py) out of the Statement's table words and the real class files: 10 classes; the members and pool entries that the words name. The judged class is class 1, her method 1. -/
namespace start1
open Jvm.ClassFile
def u (s : String) : CpInfo := .utf8 (stringToUtf16 s)
/-- a pool by its gaps: so many unusable entries, then the entry; so many at the end -/
def gap : Nat → List CpInfo → List CpInfo
  | 0, r => r
  | n + 1, r => .unusable :: gap n r
def poolList (es : List (Nat × CpInfo)) (last : Nat) : List CpInfo := es.foldr (fun e r => gap e.1 (e.2 :: r)) (gap last [])
def pool (es : List (Nat × CpInfo)) (last : Nat) : Array CpInfo := ⟨poolList es last⟩
def fileOf (pool : Array CpInfo) (this : Nat) (attrs : Array Attribute := #[]) (ms : Array MethodInfo := #[]) (fl : Nat := 33) (sup : Nat := 0) (ifs : Array Nat := #[]) (fds : Array FieldInfo := #[]) : ClassFile where
  minorVersion := 0
  majorVersion := 65
  constantPool := pool
  accessFlags := fl
  thisClass := this
  superClass := sup
  interfaces := ifs
  fields := fds
  methods := ms
  attributes := attrs
def plain (name : String) (sup : Option ClassId) : Class where
  name := name
  kind := .ordinary
  loader := none
  accessFlags := 33
  super := sup
  interfaces := #[]
  cf := none
  fields := #[]
  methods := #[]
  instanceTypes := #[]
  staticTypes := #[]
  resolved := #[]
  callSites := []
  init := .initialized
  statics := none
  mirror := none

def pool0 : Array CpInfo := pool [(5, u "<init>"), (0, u "()V"), (1, .class_ 10), (1, u "java/lang/Object")] 113

def k0c0 : Code := { maxStack := 0, maxLocals := 1, code := object_method_1_code, exceptionTable := #[], attributes := #[] }
def k0m0 : Method := { name := "<init>", desc := "()V", sig := { parameters := [], returnType := none }, accessFlags := 1, code := some k0c0 }
/-- java/lang/Object -/
def k0 : Class := { plain "java/lang/Object" none with
  accessFlags := 33
  interfaces := #[]
  cf := some (fileOf pool0 8 #[] #[{ accessFlags := 1, nameIndex := 5, descriptorIndex := 6, attributes := #[] }] 33 0 #[] #[])
  fields := #[]
  methods := #[k0m0]
  instanceTypes := #[]
  staticTypes := #[]
  resolved := Array.replicate 124 none
  statics := none }

def pool1 : Array CpInfo := pool [(2, .class_ 4), (0, .nameAndType 5 6), (0, u "java/lang/Object"), (0, u "<init>"), (0, u "()V"), (0, .class_ 8), (0, u "com/example/dosisbog/dosisbog/HttpRequest$HeadEnd"), (0, .methodref 7 3), (0, .integer 65537), (0, .integer 2147483647), (0, .methodref 7 13), (0, .nameAndType 14 15), (0, u "whole"), (0, u "([BII)Z"), (0, .methodref 17 18), (0, .class_ 19), (0, .nameAndType 20 21), (0, u "com/example/dosisbog/dosisbog/HeadEndWholePinLaw"), (0, u "empty"), (0, u "(I)Z"), (0, .methodref 17 23), (0, .nameAndType 24 25), (0, u "feed"), (0, u "(Lcom/example/dosisbog/dosisbog/HttpRequest$HeadEnd;IIZZ)Z"), (0, .methodref 27 28), (0, .class_ 29), (0, .nameAndType 30 31), (0, u "java/lang/Math"), (0, u "min"), (0, u "(II)I"), (2, u "law"), (0, u "(IIIIII)Z")] 9

def k1m0 : Method := { name := "<init>", desc := "()V", sig := { parameters := [], returnType := none }, accessFlags := 1, code := none }
def k1c1 : Code := { maxStack := 5, maxLocals := 16, code := code, exceptionTable := #[], attributes := #[] }
def k1m1 : Method := { name := "law", desc := "(IIIIII)Z", sig := { parameters := [.int, .int, .int, .int, .int, .int], returnType := some .boolean }, accessFlags := 9, code := some k1c1 }
def k1c2 : Code := { maxStack := 2, maxLocals := 3, code := method_3_code, exceptionTable := #[], attributes := #[] }
def k1m2 : Method := { name := "empty", desc := "(I)Z", sig := { parameters := [.int], returnType := some .boolean }, accessFlags := 10, code := some k1c2 }
def k1c3 : Code := { maxStack := 5, maxLocals := 17, code := method_4_code, exceptionTable := #[], attributes := #[] }
def k1m3 : Method := { name := "feed", desc := "(Lcom/example/dosisbog/dosisbog/HttpRequest$HeadEnd;IIZZ)Z", sig := { parameters := [(.object "com/example/dosisbog/dosisbog/HttpRequest$HeadEnd"), .int, .int, .boolean, .boolean], returnType := some .boolean }, accessFlags := 10, code := some k1c3 }
/-- com/example/dosisbog/dosisbog/HeadEndWholePinLaw -/
def k1 : Class := { plain "com/example/dosisbog/dosisbog/HeadEndWholePinLaw" (some 0) with
  accessFlags := 49
  interfaces := #[]
  cf := some (fileOf pool1 17 #[] #[{ accessFlags := 1, nameIndex := 5, descriptorIndex := 6, attributes := #[] }, { accessFlags := 9, nameIndex := 34, descriptorIndex := 35, attributes := #[] }, { accessFlags := 10, nameIndex := 20, descriptorIndex := 21, attributes := #[] }, { accessFlags := 10, nameIndex := 24, descriptorIndex := 25, attributes := #[] }] 49 2 #[] #[])
  fields := #[]
  methods := #[k1m0, k1m1, k1m2, k1m3]
  instanceTypes := #[]
  staticTypes := #[]
  resolved := Array.replicate 45 none
  statics := none }

def pool2 : Array CpInfo := pool [(1, .class_ 2), (0, u "com/example/dosisbog/dosisbog/HttpRequest"), (0, .methodref 4 5), (0, .class_ 6), (0, .nameAndType 7 8), (0, u "java/lang/Object"), (0, u "<init>"), (0, u "()V"), (0, .fieldref 10 11), (0, .class_ 12), (0, .nameAndType 13 14), (0, u "com/example/dosisbog/dosisbog/HttpRequest$HeadEnd"), (0, u "looked"), (0, u "I"), (0, .fieldref 10 16), (0, .nameAndType 17 14), (0, u "inLine"), (0, .fieldref 10 19), (0, .nameAndType 20 21), (0, u "carriageReturn"), (0, u "Z"), (0, .fieldref 10 23), (0, .nameAndType 24 21), (0, u "requestLine"), (0, .fieldref 10 26), (0, .nameAndType 27 21), (0, u "found"), (0, .integer 65537), (0, u "MOST"), (4, u "whole"), (0, u "([BII)Z")] 8

def k2c0 : Code := { maxStack := 1, maxLocals := 1, code := prog_37_method_1_code, exceptionTable := #[], attributes := #[] }
def k2m0 : Method := { name := "<init>", desc := "()V", sig := { parameters := [], returnType := none }, accessFlags := 0, code := some k2c0 }
def k2c1 : Code := { maxStack := 4, maxLocals := 6, code := prog_37_method_3_code, exceptionTable := #[], attributes := #[] }
def k2m1 : Method := { name := "whole", desc := "([BII)Z", sig := { parameters := [(.array .byte), .int, .int], returnType := some .boolean }, accessFlags := 0, code := some k2c1 }
/-- com/example/dosisbog/dosisbog/HttpRequest$HeadEnd -/
def k2 : Class := { plain "com/example/dosisbog/dosisbog/HttpRequest$HeadEnd" (some 0) with
  accessFlags := 48
  interfaces := #[]
  cf := some (fileOf pool2 10 #[.nestHost 1] #[{ accessFlags := 0, nameIndex := 7, descriptorIndex := 8, attributes := #[] }, { accessFlags := 0, nameIndex := 34, descriptorIndex := 35, attributes := #[] }] 48 4 #[] #[{ accessFlags := 24, nameIndex := 29, descriptorIndex := 14, attributes := #[] }, { accessFlags := 2, nameIndex := 13, descriptorIndex := 14, attributes := #[] }, { accessFlags := 2, nameIndex := 17, descriptorIndex := 14, attributes := #[] }, { accessFlags := 2, nameIndex := 20, descriptorIndex := 21, attributes := #[] }, { accessFlags := 2, nameIndex := 24, descriptorIndex := 21, attributes := #[] }, { accessFlags := 2, nameIndex := 27, descriptorIndex := 21, attributes := #[] }])
  fields := #[{ name := "MOST", type := .int, accessFlags := 24, slot := 0, constantValue := 0 }, { name := "looked", type := .int, accessFlags := 2, slot := 0, constantValue := 0 }, { name := "inLine", type := .int, accessFlags := 2, slot := 1, constantValue := 0 }, { name := "carriageReturn", type := .boolean, accessFlags := 2, slot := 2, constantValue := 0 }, { name := "requestLine", type := .boolean, accessFlags := 2, slot := 3, constantValue := 0 }, { name := "found", type := .boolean, accessFlags := 2, slot := 4, constantValue := 0 }]
  methods := #[k2m0, k2m1]
  instanceTypes := #[.int, .int, .boolean, .boolean, .boolean]
  staticTypes := #[.int]
  resolved := Array.replicate 44 none
  statics := none }

def pool3 : Array CpInfo := pool [(1, .class_ 2), (0, u "java/lang/Math"), (1, .class_ 6), (1, u "java/lang/Object"), (0, u "<init>"), (0, u "()V"), (89, .class_ 100), (1, u "java/lang/Math$RandomNumberGeneratorHolder"), (71, u "negativeZeroFloatBits"), (0, u "J"), (2, u "negativeZeroDoubleBits"), (24, u "min"), (43, u "$assertionsDisabled"), (0, u "Z"), (88, u "(II)I"), (2, u "twoToTheDoubleScaleDown"), (0, u "D"), (4, u "twoToTheDoubleScaleUp"), (9, u "E"), (3, u "PI"), (2, u "TAU"), (2, u "DEGREES_TO_RADIANS"), (0, u "RADIANS_TO_DEGREES")] 94

def k3m0 : Method := { name := "<init>", desc := "()V", sig := { parameters := [], returnType := none }, accessFlags := 2, code := none }
def k3c1 : Code := { maxStack := 2, maxLocals := 2, code := jdk_29_method_69_code, exceptionTable := #[], attributes := #[] }
def k3m1 : Method := { name := "min", desc := "(II)I", sig := { parameters := [.int, .int], returnType := some .int }, accessFlags := 9, code := some k3c1 }
/-- java/lang/Math -/
def k3 : Class := { plain "java/lang/Math" (some 0) with
  accessFlags := 49
  interfaces := #[]
  cf := some (fileOf pool3 1 #[.nestMembers #[98]] #[{ accessFlags := 2, nameIndex := 7, descriptorIndex := 8, attributes := #[] }, { accessFlags := 9, nameIndex := 201, descriptorIndex := 335, attributes := #[] }] 49 4 #[] #[{ accessFlags := 25, nameIndex := 354, descriptorIndex := 339, attributes := #[] }, { accessFlags := 25, nameIndex := 358, descriptorIndex := 339, attributes := #[] }, { accessFlags := 25, nameIndex := 361, descriptorIndex := 339, attributes := #[] }, { accessFlags := 26, nameIndex := 364, descriptorIndex := 339, attributes := #[] }, { accessFlags := 26, nameIndex := 365, descriptorIndex := 339, attributes := #[] }, { accessFlags := 26, nameIndex := 172, descriptorIndex := 173, attributes := #[] }, { accessFlags := 26, nameIndex := 176, descriptorIndex := 173, attributes := #[] }, { accessFlags := 8, nameIndex := 344, descriptorIndex := 339, attributes := #[] }, { accessFlags := 8, nameIndex := 338, descriptorIndex := 339, attributes := #[] }, { accessFlags := 4120, nameIndex := 245, descriptorIndex := 246, attributes := #[] }])
  fields := #[{ name := "E", type := .double, accessFlags := 25, slot := 0, constantValue := 0 }, { name := "PI", type := .double, accessFlags := 25, slot := 1, constantValue := 0 }, { name := "TAU", type := .double, accessFlags := 25, slot := 2, constantValue := 0 }, { name := "DEGREES_TO_RADIANS", type := .double, accessFlags := 26, slot := 3, constantValue := 0 }, { name := "RADIANS_TO_DEGREES", type := .double, accessFlags := 26, slot := 4, constantValue := 0 }, { name := "negativeZeroFloatBits", type := .long, accessFlags := 26, slot := 5, constantValue := 0 }, { name := "negativeZeroDoubleBits", type := .long, accessFlags := 26, slot := 6, constantValue := 0 }, { name := "twoToTheDoubleScaleUp", type := .double, accessFlags := 8, slot := 7, constantValue := 0 }, { name := "twoToTheDoubleScaleDown", type := .double, accessFlags := 8, slot := 8, constantValue := 0 }, { name := "$assertionsDisabled", type := .boolean, accessFlags := 4120, slot := 9, constantValue := 0 }]
  methods := #[k3m0, k3m1]
  instanceTypes := #[]
  staticTypes := #[.double, .double, .double, .double, .double, .long, .long, .double, .double, .boolean]
  resolved := Array.replicate 460 none
  statics := none }

def pool4 : Array CpInfo := pool [(1, u "java/lang/Cloneable"), (0, .class_ 1), (0, u "java/lang/Object"), (0, .class_ 3)] 3

/-- java/lang/Cloneable -/
def k4 : Class := { plain "java/lang/Cloneable" (some 0) with
  accessFlags := 1537
  interfaces := #[]
  cf := some (fileOf pool4 2 #[] #[] 1537 4 #[] #[])
  fields := #[]
  methods := #[]
  instanceTypes := #[]
  staticTypes := #[]
  resolved := Array.replicate 8 none
  statics := none }

def pool5 : Array CpInfo := pool [(1, u "java/io/Serializable"), (0, .class_ 1), (0, u "java/lang/Object"), (0, .class_ 3)] 3

/-- java/io/Serializable -/
def k5 : Class := { plain "java/io/Serializable" (some 0) with
  accessFlags := 1537
  interfaces := #[]
  cf := some (fileOf pool5 2 #[] #[] 1537 4 #[] #[])
  fields := #[]
  methods := #[]
  instanceTypes := #[]
  staticTypes := #[]
  resolved := Array.replicate 8 none
  statics := none }

/-- the primitive byte -/
def k6 : Class := { plain "byte" none with kind := .primitive 'B', accessFlags := 0x411 }
/-- [B -/
def k7 : Class := { plain "[B" (some 0) with kind := .array 6 .byte, interfaces := #[4, 5], accessFlags := 1041 }

/-- the primitive int -/
def k8 : Class := { plain "int" none with kind := .primitive 'I', accessFlags := 0x411 }
/-- [I -/
def k9 : Class := { plain "[I" (some 0) with kind := .array 8 .int, interfaces := #[4, 5], accessFlags := 1041 }

def heap : Heap := #[]
def classes : Array Class := #[k0, k1, k2, k3, k4, k5, k6, k7, k8, k9]
def interned : List (Array UInt16 × Addr) := []
def slotsUsed : Nat := 0
def theMethod : MethodId := ⟨1, 1⟩
def args0 : Array Value := #[.int 5, .int 7, .int (-3), .int 4, .int 9, .int 2]
def aboutOver (below : List Frame) : State where
  vm := { classes := classes, interned := interned.toArray }
  heap := heap
  slotsUsed := slotsUsed
  threads := #[{ frames := .invoking theMethod args0 :: below }]
def below0 : List Frame := [.native { method := ⟨0, 0⟩, args := #[] }]
def about1 : State := aboutOver below0
def p0 : Program := .bare "" "" ""
def e0 : Env := launch0.env 0 0 0
theorem w_frames : about1.frames = Frame.invoking theMethod args0 :: below0 := rfl
set_option maxRecDepth 65536 in
theorem w_args : argsFit about1.vm theMethod args0 = true := by decide +kernel
set_option maxRecDepth 65536 in
theorem w_heap : heapFits about1 = true := by decide +kernel
set_option maxRecDepth 65536 in
theorem w_runnable : about1.curStatus? = some .runnable := by decide +kernel
set_option maxRecDepth 65536 in
theorem w_alone : about1.alone = true := by decide +kernel
set_option maxRecDepth 65536 in
theorem w_named : about1.methodNamed? x = some theMethod := by decide +kernel
set_option maxRecDepth 65536 in
theorem w_hears : about1.hears theMethod below0 = true := by decide +kernel
set_option maxRecDepth 65536 in
theorem w_ripe : about1.ripe theMethod args0 below0 = true := by decide +kernel
theorem w_running : about1.status = .running := rfl
set_option maxRecDepth 65536 in
theorem w_room : about1.hasRoom e0.platform room_1 = true :=
  launch0.hasRoom_least _ room_1 (by decide +kernel) (by decide +kernel) (by decide +kernel) (by decide +kernel) (by decide +kernel) (by decide +kernel)
theorem allAtoms_all (ts : List Jvm.Cond) (a : Array Jvm.Value) (st : Jvm.State) : (allAtoms ts).before a st = ts.all (fun c => c.before a st) := by
  induction ts with
  | nil => rfl
  | cons c t ih =>
    show (Jvm.Cond.and c (allAtoms t)).before a st = _
    rw [Jvm.Cond.before_and, ih, List.all_cons]
def words1 : List Jvm.Cond := Jvm.Cond.code x code maxLocals ret :: tables_1
/-- a 'code' word, met by the world's own term for the bytes: nothing is compared byte by byte -/
theorem code_word {y : MethodName} {bytes : ByteArray} {mx : Nat} {rt : Option FieldType} {a : Array Value} {s : State} {m : MethodId} {meth : Method} {c : Code} (h1 : s.methodNamed? y = some m) (h2 : s.vm.method? m = some meth) (h3 : meth.code = some c) (h4 : c.code = bytes)
    (h5 : (c.maxLocals == mx && c.exceptionTable.isEmpty && decide (c.maxStack ≤ mostOperands) && decide (meth.sig.returnType = rt) && !meth.locks && decide (parseMethodDescriptor y.desc = some meth.sig)) = true) : (Jvm.Cond.code y bytes mx rt).before a s = true := by
  simp only [Bool.and_eq_true, beq_iff_eq, Bool.not_eq_true', decide_eq_true_eq] at h5
  obtain ⟨⟨⟨⟨⟨g1, g2⟩, g3⟩, g4⟩, g5⟩, g6⟩ := h5
  simp [Cond.before, Cond.holds, Cond.value, h1, h2, h3, h4, g1, g2, g3, g4, g5, g6]
def isCode : Jvm.Cond → Bool
  | .code _ _ _ _ => true
  | _ => false
theorem all_split {L : List Jvm.Cond} {P : Jvm.Cond → Bool} (h1 : L.all (fun c => isCode c || P c) = true) (h2 : ∀ c ∈ L.filter isCode, P c = true) : L.all P = true := by
  refine List.all_eq_true.mpr fun c hc => ?_
  have h := List.all_eq_true.mp h1 c hc
  rcases Bool.eq_false_or_eq_true (isCode c) with hi | hi
  · exact h2 c (List.mem_filter.mpr ⟨hc, hi⟩)
  · simpa [hi] using h
set_option maxRecDepth 65536 in
theorem w_c0 : (Jvm.Cond.code x code maxLocals ret).before args0 about1 = true := code_word (m := ⟨1, 1⟩) (meth := k1m1) (c := k1c1) (by decide +kernel) rfl rfl rfl (by decide +kernel)
set_option maxRecDepth 65536 in
theorem w_c1 : (Jvm.Cond.code ({ cls := "com/example/dosisbog/dosisbog/HttpRequest$HeadEnd", name := "<init>", desc := "()V" } : Jvm.MethodName) prog_37_method_1_code (1 : Nat) (Option.none : Option Jvm.ClassFile.FieldType)).before args0 about1 = true := code_word (m := ⟨2, 0⟩) (meth := k2m0) (c := k2c0) (by decide +kernel) rfl rfl rfl (by decide +kernel)
set_option maxRecDepth 65536 in
theorem w_c2 : (Jvm.Cond.code ({ cls := "java/lang/Object", name := "<init>", desc := "()V" } : Jvm.MethodName) object_method_1_code (1 : Nat) (Option.none : Option Jvm.ClassFile.FieldType)).before args0 about1 = true := code_word (m := ⟨0, 0⟩) (meth := k0m0) (c := k0c0) (by decide +kernel) rfl rfl rfl (by decide +kernel)
set_option maxRecDepth 65536 in
theorem w_c3 : (Jvm.Cond.code ({ cls := "com/example/dosisbog/dosisbog/HeadEndWholePinLaw", name := "empty", desc := "(I)Z" } : Jvm.MethodName) method_3_code (3 : Nat) (Option.some Jvm.ClassFile.FieldType.boolean)).before args0 about1 = true := code_word (m := ⟨1, 2⟩) (meth := k1m2) (c := k1c2) (by decide +kernel) rfl rfl rfl (by decide +kernel)
set_option maxRecDepth 65536 in
theorem w_c4 : (Jvm.Cond.code ({ cls := "com/example/dosisbog/dosisbog/HeadEndWholePinLaw", name := "feed", desc := "(Lcom/example/dosisbog/dosisbog/HttpRequest$HeadEnd;IIZZ)Z" } : Jvm.MethodName) method_4_code (17 : Nat) (Option.some Jvm.ClassFile.FieldType.boolean)).before args0 about1 = true := code_word (m := ⟨1, 3⟩) (meth := k1m3) (c := k1c3) (by decide +kernel) rfl rfl rfl (by decide +kernel)
set_option maxRecDepth 65536 in
theorem w_c5 : (Jvm.Cond.code ({ cls := "java/lang/Math", name := "min", desc := "(II)I" } : Jvm.MethodName) jdk_29_method_69_code (2 : Nat) (Option.some Jvm.ClassFile.FieldType.int)).before args0 about1 = true := code_word (m := ⟨3, 1⟩) (meth := k3m1) (c := k3c1) (by decide +kernel) rfl rfl rfl (by decide +kernel)
set_option maxRecDepth 65536 in
theorem w_c6 : (Jvm.Cond.code ({ cls := "com/example/dosisbog/dosisbog/HttpRequest$HeadEnd", name := "whole", desc := "([BII)Z" } : Jvm.MethodName) prog_37_method_3_code (6 : Nat) (Option.some Jvm.ClassFile.FieldType.boolean)).before args0 about1 = true := code_word (m := ⟨2, 1⟩) (meth := k2m1) (c := k2c1) (by decide +kernel) rfl rfl rfl (by decide +kernel)
def codes1 : List Jvm.Cond := [Jvm.Cond.code x code maxLocals ret, Jvm.Cond.code ({ cls := "com/example/dosisbog/dosisbog/HttpRequest$HeadEnd", name := "<init>", desc := "()V" } : Jvm.MethodName) prog_37_method_1_code (1 : Nat) (Option.none : Option Jvm.ClassFile.FieldType), Jvm.Cond.code ({ cls := "java/lang/Object", name := "<init>", desc := "()V" } : Jvm.MethodName) object_method_1_code (1 : Nat) (Option.none : Option Jvm.ClassFile.FieldType), Jvm.Cond.code ({ cls := "com/example/dosisbog/dosisbog/HeadEndWholePinLaw", name := "empty", desc := "(I)Z" } : Jvm.MethodName) method_3_code (3 : Nat) (Option.some Jvm.ClassFile.FieldType.boolean), Jvm.Cond.code ({ cls := "com/example/dosisbog/dosisbog/HeadEndWholePinLaw", name := "feed", desc := "(Lcom/example/dosisbog/dosisbog/HttpRequest$HeadEnd;IIZZ)Z" } : Jvm.MethodName) method_4_code (17 : Nat) (Option.some Jvm.ClassFile.FieldType.boolean), Jvm.Cond.code ({ cls := "java/lang/Math", name := "min", desc := "(II)I" } : Jvm.MethodName) jdk_29_method_69_code (2 : Nat) (Option.some Jvm.ClassFile.FieldType.int), Jvm.Cond.code ({ cls := "com/example/dosisbog/dosisbog/HttpRequest$HeadEnd", name := "whole", desc := "([BII)Z" } : Jvm.MethodName) prog_37_method_3_code (6 : Nat) (Option.some Jvm.ClassFile.FieldType.boolean)]
set_option maxRecDepth 65536 in
theorem codes_eq : words1.filter isCode = codes1 := rfl
theorem w_codes : ∀ c ∈ words1.filter isCode, c.before args0 about1 = true := by
  rw [codes_eq]
  intro c hc
  simp only [codes1, List.mem_cons, List.not_mem_nil, or_false] at hc
  rcases hc with rfl | rfl | rfl | rfl | rfl | rfl | rfl
  · exact w_c0
  · exact w_c1
  · exact w_c2
  · exact w_c3
  · exact w_c4
  · exact w_c5
  · exact w_c6
set_option maxRecDepth 65536 in
theorem w_t1 : (words1.take 24).all (fun c => isCode c || c.before args0 about1) = true := by decide +kernel
set_option maxRecDepth 65536 in
theorem w_t2 : (words1.drop 24).all (fun c => isCode c || c.before args0 about1) = true := by decide +kernel
theorem w_tables : (allAtoms (Jvm.Cond.code x code maxLocals ret :: tables_1)).before args0 about1 = true := by
  rw [allAtoms_all]
  show words1.all (fun c => c.before args0 about1) = true
  refine all_split ?_ w_codes
  rw [← List.take_append_drop 24 words1, List.all_append, w_t1, w_t2]
  rfl
set_option maxRecDepth 65536 in
theorem w_case : (Jvm.Cond.and given_1 narrow_1).before args0 about1 = true := by decide +kernel
theorem w_applies : (headSpec (Jvm.Cond.code x code maxLocals ret :: tables_1) room_1).applies x e0.platform about1 = true :=
  (Spec.applies_iff w_frames).mpr ⟨w_running, w_runnable, w_alone, w_named, w_hears, w_ripe, w_room, w_tables⟩
theorem atStart : AtStart classFile x code maxLocals ret World_1 tables_1 room_1 Calls_1 rest_1 Pre_1 launch0 p0 e0 about1 theMethod args0 below0 :=
  ⟨lists_1, trivial, launch0.admits_env _ _ _, launch0.least_env, fairChoices_fair.cas, fairChoices_fair.clock, w_frames, w_args, w_heap, w_applies, trivial, trivial, w_case⟩
end start1
theorem witness_1 : WitnessClaimed_1 := ⟨start1.p0, start1.e0, start1.about1, start1.theMethod, start1.args0, start1.below0, start1.atStart⟩
end Jvm.Pilot.@@N@@
