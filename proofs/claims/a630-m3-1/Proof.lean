import JvmDerived
import JvmDerived.Pilot.@@N@@Statement
import JvmDerived.Pilot.@@N@@Code
set_option linter.unusedVariables false
set_option linter.unusedSimpArgs false
set_option maxRecDepth 65536
set_option maxHeartbeats 40000000
@@BLOCK:NumsL.lean.txt@@
namespace Jvm.Pilot.@@N@@
open Jvm Jvm.ClassFile Sem Op Lib Jvm.Free Jvm.Stand Jvm.LawKit Jvm.RoadKit Bundle Jvm.Pilot.@@N@@.Jvm.D
section Own
variable {p : Program} {l : Launch} {e : Env} {R : Room} {s : State} {m : MethodId} {args : Array Value} {below : List Frame} {meth : Method} {c : Code} {T : State} {locs : List Loc} {cells slots : Nat}
/-- the walk from the state t ends as the contract Q says; End: the narrow frame or the wide one -/
def Go (End : State → Outcome → State → List Loc → Nat → Nat → Prop) (p : Program) (e : Env) (below : List Frame) (s : State) (rc rs : Nat) (Q : Option Value → Heap → List Loc → Prop) (t : State) : Prop :=
  ∃ s₂ o, Steps p.tables e below t s₂ ∧ s₂.status = .running ∧ Ended s₂ below o ∧ ∃ v L, o = .returned v ∧ Q v s₂.heap L ∧ End s o s₂ L rc rs
variable {End : State → Outcome → State → List Loc → Nat → Nat → Prop}
theorem go {rc rs : Nat} {Q : Option Value → Heap → List Loc → Prop} {t t' : State} (k : ∀ target, Steps p.tables e below t' target → Steps p.tables e below t target) (h : Go End p e below s rc rs Q t') : Go End p e below s rc rs Q t := by
  obtain ⟨s₂, o, h1, h2⟩ := h
  exact ⟨s₂, o, k _ h1, h2⟩
theorem goT {rc rs : Nat} {Q : Option Value → Heap → List Loc → Prop} {t t' : State} (k : Steps p.tables e below t t') (h : Go End p e below s rc rs Q t') : Go End p e below s rc rs Q t := by
  obtain ⟨s₂, o, h1, h2⟩ := h
  exact ⟨s₂, o, k.trans h1, h2⟩
theorem goRet {rc rs : Nat} {Q : Option Value → Heap → List Loc → Prop} (X : Stand p l e R s m args below meth c T locs cells slots) (hx : p.tables.exec = Jvm.exec) (hlk : meth.locks = false) {pc : Nat} {Ls : Array Slot} {w : Value} {t : FieldType} {i : Instr} {rest : List Value} (hret : meth.sig.returnType = some t) (hn : narrow t w = w)
    (hi : (i = .ireturn ∧ (t = .int ∨ t = .boolean ∨ t = .byte ∨ t = .char ∨ t = .short) ∧ ∃ z, w = .int z) ∨ (i = .lreturn ∧ t = .long ∧ ∃ z, w = .long z) ∨ (i = .dreturn ∧ t = .double ∧ ∃ z, w = .double z) ∨ (i = .freturn ∧ t = .float ∧ ∃ z, w = .float z) ∨ (i = .areturn ∧ t.isReference = true ∧ w.isRef = true))
    (hd : decode c.code pc = .ok (i, 1)) (hc : cells ≤ rc) (hs : slots ≤ rs) (hq : Q (some w) T.heap locs) : Go FrameEnd p e below s rc rs Q (T.setTop (mkF m pc Ls (w :: rest))) := by
  obtain ⟨fs, hr, hrun, hended, hW, hsame⟩ := X.leave (v := some w) (fun h => by rw [hret] at h; cases h) hlk
  refine ⟨_, _, retOut X hx hret hn hi hd hr, hrun, hended, _, _, rfl, ?_, ⟨_, rfl⟩, hW, hsame.mono hc hs⟩
  show Q _ T.heap _
  exact hq
theorem goRetN {rc rs : Nat} {Q : Option Value → Heap → List Loc → Prop} (X : Stand p l e R s m args below meth c T locs cells slots) (hx : p.tables.exec = Jvm.exec) (hlk : meth.locks = false) {pc : Nat} {Ls : Array Slot} {z : Int32} {t : FieldType} {rest : List Value} (hret : meth.sig.returnType = some t) (ht : t = .boolean ∨ t = .byte ∨ t = .char ∨ t = .short)
    (hd : decode c.code pc = .ok (.ireturn, 1)) (hc : cells ≤ rc) (hs : slots ≤ rs) (hq : Q (some (.int (nar t z))) T.heap locs) : Go FrameEnd p e below s rc rs Q (T.setTop (mkF m pc Ls (.int z :: rest))) := by
  obtain ⟨fs, hr, hrun, hended, hW, hsame⟩ := X.leave (v := some (.int (nar t z))) (fun h => by rw [hret] at h; cases h) hlk
  refine ⟨_, _, retN X hx hret ht hd hr, hrun, hended, _, _, rfl, ?_, ⟨_, rfl⟩, hW, hsame.mono hc hs⟩
  show Q _ T.heap _
  exact hq
theorem goRet0 {rc rs : Nat} {Q : Option Value → Heap → List Loc → Prop} (X : Stand p l e R s m args below meth c T locs cells slots) (hx : p.tables.exec = Jvm.exec) (hlk : meth.locks = false) {pc : Nat} {Ls : Array Slot} (hret : meth.sig.returnType = none)
    (hd : decode c.code pc = .ok (.return_, 1)) (hc : cells ≤ rc) (hs : slots ≤ rs) (hq : Q none T.heap locs) : Go FrameEnd p e below s rc rs Q (T.setTop (mkF m pc Ls [])) := by
  obtain ⟨fs, hr, hrun, hended, hW, hsame⟩ := X.leave (v := none) (fun _ => rfl) hlk
  refine ⟨_, _, X.returnOut hx hret hd hr, hrun, hended, _, _, rfl, ?_, ⟨_, rfl⟩, hW, hsame.mono hc hs⟩
  show Q _ T.heap _
  exact hq
end Own
section OwnC
variable {p : Program} {l : Launch} {e : Env} {R : Room} {s s0 : State} {m : MethodId} {args a0 : Array Value} {below : List Frame} {meth : Method} {c : Code} {T Z : State} {locs : List Loc} {cells slots : Nat} {h : Heap} {End : State → Outcome → State → List Loc → Nat → Nat → Prop} {rc rs : Nat} {Q : Option Value → Heap → List Loc → Prop} {pc : Nat} {Ls : Array Slot} {st rest : List Value} {b : ByteArray}
def HW (Z : State) (a0 : Array Value) : Prop := ∀ d ∈ tables_1, d.before a0 Z = true
theorem gw (hw : HW Z a0) (i : Nat) {d : Jvm.Cond} (q : tables_1[i]? = some d) : d.before a0 Z = true := hw _ (List.mem_of_getElem? q)
theorem c_sh (pc' : Nat) (st' : List Value) (hp : pc = pc') (hs : st = st') (hg : Go End p e below s0 rc rs Q (T.setTop (mkF m pc' Ls st'))) : Go End p e below s0 rc rs Q (T.setTop (mkF m pc Ls st)) := by subst hp hs; exact hg
theorem c_shL (l' : Array Slot) (hl : Ls = l') (hg : Go End p e below s0 rc rs Q (T.setTop (mkF m pc l' st))) : Go End p e below s0 rc rs Q (T.setTop (mkF m pc Ls st)) := by subst hl; exact hg
theorem c_iload (X : Stand p l e R s m args below meth c T locs cells slots) (hx : p.tables.exec = Jvm.exec) (hby : c.code = b) {k : Nat} {v : Int32} (hd : decode b pc = .ok (.iload k, 2)) (hl : Ls[k]? = some (.val (.int v))) (hg : Go End p e below s0 rc rs Q (T.setTop (mkF m (pc + 2) Ls ((.int v) :: st)))) : Go End p e below s0 rc rs Q (T.setTop (mkF m pc Ls st)) := go (fun _ => XS.iload X.here hx rfl (hb hby hd) hl) hg
theorem c_iloadN (X : Stand p l e R s m args below meth c T locs cells slots) (hx : p.tables.exec = Jvm.exec) (hby : c.code = b) {k : Fin 4} {v : Int32} (hd : decode b pc = .ok (.iload_n k, 1)) (hl : Ls[k.val]? = some (.val (.int v))) (hg : Go End p e below s0 rc rs Q (T.setTop (mkF m (pc + 1) Ls ((.int v) :: st)))) : Go End p e below s0 rc rs Q (T.setTop (mkF m pc Ls st)) := go (fun _ => XS.iloadN X.here hx rfl (hb hby hd) hl) hg
theorem c_lload (X : Stand p l e R s m args below meth c T locs cells slots) (hx : p.tables.exec = Jvm.exec) (hby : c.code = b) {k : Nat} {v : Int64} (hd : decode b pc = .ok (.lload k, 2)) (hl : Ls[k]? = some (.val (.long v))) (hg : Go End p e below s0 rc rs Q (T.setTop (mkF m (pc + 2) Ls ((.long v) :: st)))) : Go End p e below s0 rc rs Q (T.setTop (mkF m pc Ls st)) := go (fun _ => XS.lload X.here hx rfl (hb hby hd) hl) hg
theorem c_lloadN (X : Stand p l e R s m args below meth c T locs cells slots) (hx : p.tables.exec = Jvm.exec) (hby : c.code = b) {k : Fin 4} {v : Int64} (hd : decode b pc = .ok (.lload_n k, 1)) (hl : Ls[k.val]? = some (.val (.long v))) (hg : Go End p e below s0 rc rs Q (T.setTop (mkF m (pc + 1) Ls ((.long v) :: st)))) : Go End p e below s0 rc rs Q (T.setTop (mkF m pc Ls st)) := go (fun _ => XS.lloadN X.here hx rfl (hb hby hd) hl) hg
theorem c_aload (X : Stand p l e R s m args below meth c T locs cells slots) (hx : p.tables.exec = Jvm.exec) (hby : c.code = b) {k : Nat} {v : Value} (hd : decode b pc = .ok (.aload k, 2)) (hl : Ls[k]? = some (.val v)) (hv : v.isRef = true) (hg : Go End p e below s0 rc rs Q (T.setTop (mkF m (pc + 2) Ls (v :: st)))) : Go End p e below s0 rc rs Q (T.setTop (mkF m pc Ls st)) := go (fun _ => XS.aload X.here hx rfl (hb hby hd) hl hv) hg
theorem c_aloadN (X : Stand p l e R s m args below meth c T locs cells slots) (hx : p.tables.exec = Jvm.exec) (hby : c.code = b) {k : Fin 4} {v : Value} (hd : decode b pc = .ok (.aload_n k, 1)) (hl : Ls[k.val]? = some (.val v)) (hv : v.isRef = true) (hg : Go End p e below s0 rc rs Q (T.setTop (mkF m (pc + 1) Ls (v :: st)))) : Go End p e below s0 rc rs Q (T.setTop (mkF m pc Ls st)) := go (fun _ => XS.aloadN X.here hx rfl (hb hby hd) hl hv) hg
theorem c_istore (X : Stand p l e R s m args below meth c T locs cells slots) (hx : p.tables.exec = Jvm.exec) (hby : c.code = b) {k : Nat} {x : Int32} (l' : Array Slot) (hd : decode b pc = .ok (.istore k, 2)) (hl : storeLocals Ls k (.int x) = some l') (hg : Go End p e below s0 rc rs Q (T.setTop (mkF m (pc + 2) l' st))) : Go End p e below s0 rc rs Q (T.setTop (mkF m pc Ls ((.int x) :: st))) := go (fun _ => XS.istore X.here hx rfl (hb hby hd) rfl hl) hg
theorem c_istoreN (X : Stand p l e R s m args below meth c T locs cells slots) (hx : p.tables.exec = Jvm.exec) (hby : c.code = b) {k : Fin 4} {x : Int32} (l' : Array Slot) (hd : decode b pc = .ok (.istore_n k, 1)) (hl : storeLocals Ls k.val (.int x) = some l') (hg : Go End p e below s0 rc rs Q (T.setTop (mkF m (pc + 1) l' st))) : Go End p e below s0 rc rs Q (T.setTop (mkF m pc Ls ((.int x) :: st))) := go (fun _ => XS.istoreN X.here hx rfl (hb hby hd) rfl hl) hg
theorem c_astore (X : Stand p l e R s m args below meth c T locs cells slots) (hx : p.tables.exec = Jvm.exec) (hby : c.code = b) {k : Nat} {x : Value} (l' : Array Slot) (hd : decode b pc = .ok (.astore k, 2)) (hv : x.isRef = true) (hl : storeLocals Ls k x = some l') (hg : Go End p e below s0 rc rs Q (T.setTop (mkF m (pc + 2) l' st))) : Go End p e below s0 rc rs Q (T.setTop (mkF m pc Ls (x :: st))) := go (fun _ => XS.astore X.here hx rfl (hb hby hd) rfl hv hl) hg
theorem c_astoreN (X : Stand p l e R s m args below meth c T locs cells slots) (hx : p.tables.exec = Jvm.exec) (hby : c.code = b) {k : Fin 4} {x : Value} (l' : Array Slot) (hd : decode b pc = .ok (.astore_n k, 1)) (hv : x.isRef = true) (hl : storeLocals Ls k.val x = some l') (hg : Go End p e below s0 rc rs Q (T.setTop (mkF m (pc + 1) l' st))) : Go End p e below s0 rc rs Q (T.setTop (mkF m pc Ls (x :: st))) := go (fun _ => XS.astoreN X.here hx rfl (hb hby hd) rfl hv hl) hg
theorem c_iconst (X : Stand p l e R s m args below meth c T locs cells slots) (hx : p.tables.exec = Jvm.exec) (hby : c.code = b) {i : Int} (z : Int32) (hd : decode b pc = .ok (.iconst i, 1)) (hz : Int32.ofInt i = z) (hg : Go End p e below s0 rc rs Q (T.setTop (mkF m (pc + 1) Ls (.int z :: st)))) : Go End p e below s0 rc rs Q (T.setTop (mkF m pc Ls st)) := by subst hz; exact go (fun _ => XS.iconst X.here hx rfl (hb hby hd)) hg
theorem c_bipush (X : Stand p l e R s m args below meth c T locs cells slots) (hx : p.tables.exec = Jvm.exec) (hby : c.code = b) {i : Int} (z : Int32) (hd : decode b pc = .ok (.bipush i, 2)) (hz : (Int8.ofInt i).toInt32 = z) (hg : Go End p e below s0 rc rs Q (T.setTop (mkF m (pc + 2) Ls (.int z :: st)))) : Go End p e below s0 rc rs Q (T.setTop (mkF m pc Ls st)) := by subst hz; exact go (fun _ => XS.bipush X.here hx rfl (hb hby hd)) hg
theorem c_sipush (X : Stand p l e R s m args below meth c T locs cells slots) (hx : p.tables.exec = Jvm.exec) (hby : c.code = b) {i : Int} (z : Int32) (hd : decode b pc = .ok (.sipush i, 3)) (hz : (Int16.ofInt i).toInt32 = z) (hg : Go End p e below s0 rc rs Q (T.setTop (mkF m (pc + 3) Ls (.int z :: st)))) : Go End p e below s0 rc rs Q (T.setTop (mkF m pc Ls st)) := by subst hz; exact go (fun _ => XS.sipush X.here hx rfl (hb hby hd)) hg
theorem c_iadd (X : Stand p l e R s m args below meth c T locs cells slots) (hx : p.tables.exec = Jvm.exec) (hby : c.code = b) {x y : Int32} (hd : decode b pc = .ok (.iadd, 1))  (hg : Go End p e below s0 rc rs Q (T.setTop (mkF m (pc + 1) Ls (.int (x + y) :: st)))) : Go End p e below s0 rc rs Q (T.setTop (mkF m pc Ls (.int y :: .int x :: st))) := go (fun _ => XS.iadd X.here hx rfl (hb hby hd) rfl) hg
theorem c_isub (X : Stand p l e R s m args below meth c T locs cells slots) (hx : p.tables.exec = Jvm.exec) (hby : c.code = b) {x y : Int32} (hd : decode b pc = .ok (.isub, 1))  (hg : Go End p e below s0 rc rs Q (T.setTop (mkF m (pc + 1) Ls (.int (x - y) :: st)))) : Go End p e below s0 rc rs Q (T.setTop (mkF m pc Ls (.int y :: .int x :: st))) := go (fun _ => XS.isub X.here hx rfl (hb hby hd) rfl) hg
theorem c_imul (X : Stand p l e R s m args below meth c T locs cells slots) (hx : p.tables.exec = Jvm.exec) (hby : c.code = b) {x y : Int32} (hd : decode b pc = .ok (.imul, 1))  (hg : Go End p e below s0 rc rs Q (T.setTop (mkF m (pc + 1) Ls (.int (x * y) :: st)))) : Go End p e below s0 rc rs Q (T.setTop (mkF m pc Ls (.int y :: .int x :: st))) := go (fun _ => XS.imul X.here hx rfl (hb hby hd) rfl) hg
theorem c_iand (X : Stand p l e R s m args below meth c T locs cells slots) (hx : p.tables.exec = Jvm.exec) (hby : c.code = b) {x y : Int32} (hd : decode b pc = .ok (.iand, 1))  (hg : Go End p e below s0 rc rs Q (T.setTop (mkF m (pc + 1) Ls (.int (x &&& y) :: st)))) : Go End p e below s0 rc rs Q (T.setTop (mkF m pc Ls (.int y :: .int x :: st))) := go (fun _ => XS.iand X.here hx rfl (hb hby hd) rfl) hg
theorem c_ior (X : Stand p l e R s m args below meth c T locs cells slots) (hx : p.tables.exec = Jvm.exec) (hby : c.code = b) {x y : Int32} (hd : decode b pc = .ok (.ior, 1))  (hg : Go End p e below s0 rc rs Q (T.setTop (mkF m (pc + 1) Ls (.int (x ||| y) :: st)))) : Go End p e below s0 rc rs Q (T.setTop (mkF m pc Ls (.int y :: .int x :: st))) := go (fun _ => XS.ior X.here hx rfl (hb hby hd) rfl) hg
theorem c_ixor (X : Stand p l e R s m args below meth c T locs cells slots) (hx : p.tables.exec = Jvm.exec) (hby : c.code = b) {x y : Int32} (hd : decode b pc = .ok (.ixor, 1))  (hg : Go End p e below s0 rc rs Q (T.setTop (mkF m (pc + 1) Ls (.int (x ^^^ y) :: st)))) : Go End p e below s0 rc rs Q (T.setTop (mkF m pc Ls (.int y :: .int x :: st))) := go (fun _ => XS.ixor X.here hx rfl (hb hby hd) rfl) hg
theorem c_ishl (X : Stand p l e R s m args below meth c T locs cells slots) (hx : p.tables.exec = Jvm.exec) (hby : c.code = b) {x y : Int32} (hd : decode b pc = .ok (.ishl, 1))  (hg : Go End p e below s0 rc rs Q (T.setTop (mkF m (pc + 1) Ls (.int (x <<< (y &&& 31)) :: st)))) : Go End p e below s0 rc rs Q (T.setTop (mkF m pc Ls (.int y :: .int x :: st))) := go (fun _ => XS.ishl X.here hx rfl (hb hby hd) rfl) hg
theorem c_ishr (X : Stand p l e R s m args below meth c T locs cells slots) (hx : p.tables.exec = Jvm.exec) (hby : c.code = b) {x y : Int32} (hd : decode b pc = .ok (.ishr, 1))  (hg : Go End p e below s0 rc rs Q (T.setTop (mkF m (pc + 1) Ls (.int (x >>> (y &&& 31)) :: st)))) : Go End p e below s0 rc rs Q (T.setTop (mkF m pc Ls (.int y :: .int x :: st))) := go (fun _ => XS.ishr X.here hx rfl (hb hby hd) rfl) hg
theorem c_iushr (X : Stand p l e R s m args below meth c T locs cells slots) (hx : p.tables.exec = Jvm.exec) (hby : c.code = b) {x y : Int32} (hd : decode b pc = .ok (.iushr, 1))  (hg : Go End p e below s0 rc rs Q (T.setTop (mkF m (pc + 1) Ls (.int ((x.toUInt32 >>> (y &&& 31).toUInt32).toInt32) :: st)))) : Go End p e below s0 rc rs Q (T.setTop (mkF m pc Ls (.int y :: .int x :: st))) := go (fun _ => XS.iushr X.here hx rfl (hb hby hd) rfl) hg
theorem c_i2b (X : Stand p l e R s m args below meth c T locs cells slots) (hx : p.tables.exec = Jvm.exec) (hby : c.code = b) {x : Int32} (hd : decode b pc = .ok (.i2b, 1))  (hg : Go End p e below s0 rc rs Q (T.setTop (mkF m (pc + 1) Ls (.int (x.toInt8.toInt32) :: st)))) : Go End p e below s0 rc rs Q (T.setTop (mkF m pc Ls (.int x :: st))) := go (fun _ => XS.i2b X.here hx rfl (hb hby hd) rfl) hg
theorem c_i2c (X : Stand p l e R s m args below meth c T locs cells slots) (hx : p.tables.exec = Jvm.exec) (hby : c.code = b) {x : Int32} (hd : decode b pc = .ok (.i2c, 1))  (hg : Go End p e below s0 rc rs Q (T.setTop (mkF m (pc + 1) Ls (.int (x.toUInt32.toUInt16.toUInt32.toInt32) :: st)))) : Go End p e below s0 rc rs Q (T.setTop (mkF m pc Ls (.int x :: st))) := go (fun _ => XS.i2c X.here hx rfl (hb hby hd) rfl) hg
theorem c_dup (X : Stand p l e R s m args below meth c T locs cells slots) (hx : p.tables.exec = Jvm.exec) (hby : c.code = b) {x : Value} (hd : decode b pc = .ok (.dup, 1)) (hc : x.category = 1) (hg : Go End p e below s0 rc rs Q (T.setTop (mkF m (pc + 1) Ls (x :: x :: st)))) : Go End p e below s0 rc rs Q (T.setTop (mkF m pc Ls (x :: st))) := go (fun _ => XS.dup X.here hx rfl (hb hby hd) rfl hc) hg
theorem c_pop (X : Stand p l e R s m args below meth c T locs cells slots) (hx : p.tables.exec = Jvm.exec) (hby : c.code = b) {x : Value} (hd : decode b pc = .ok (.pop, 1)) (hc : x.category = 1) (hg : Go End p e below s0 rc rs Q (T.setTop (mkF m (pc + 1) Ls st))) : Go End p e below s0 rc rs Q (T.setTop (mkF m pc Ls (x :: st))) := go (fun _ => XS.pop X.here hx rfl (hb hby hd) rfl hc) hg
theorem c_aconstNull (X : Stand p l e R s m args below meth c T locs cells slots) (hx : p.tables.exec = Jvm.exec) (hby : c.code = b)  (hd : decode b pc = .ok (.aconst_null, 1))  (hg : Go End p e below s0 rc rs Q (T.setTop (mkF m (pc + 1) Ls (.null :: st)))) : Go End p e below s0 rc rs Q (T.setTop (mkF m pc Ls st)) := go (fun _ => XS.aconstNull X.here hx rfl (hb hby hd)) hg
theorem c_irem (X : Stand p l e R s m args below meth c T locs cells slots) (hx : p.tables.exec = Jvm.exec) (hby : c.code = b) {x y : Int32} (hd : decode b pc = .ok (.irem, 1)) (hy : y ≠ 0) (hg : Go End p e below s0 rc rs Q (T.setTop (mkF m (pc + 1) Ls (.int (x % y) :: st)))) : Go End p e below s0 rc rs Q (T.setTop (mkF m pc Ls (.int y :: .int x :: st))) := go (fun _ => iremM X hx rfl (hb hby hd) rfl hy) hg
theorem c_goto (X : Stand p l e R s m args below meth c T locs cells slots) (hx : p.tables.exec = Jvm.exec) (hby : c.code = b) {o : Int} (pc' : Nat) (hd : decode b pc = .ok (.goto o, 3)) (ho : 0 ≤ (pc : Int) + o ∧ ((pc : Int) + o).toNat = pc') (hg : Go End p e below s0 rc rs Q (T.setTop (mkF m pc' Ls st))) : Go End p e below s0 rc rs Q (T.setTop (mkF m pc Ls st)) := go (fun _ => XS.goto X.here hx rfl (pc0 := pc) (pc' := pc') rfl (hb hby hd) ho.1 ho.2) hg
theorem c_ifYes (X : Stand p l e R s m args below meth c T locs cells slots) (hx : p.tables.exec = Jvm.exec) (hby : c.code = b) {cd : ClassFile.Cond} {x : Int32} {o : Int} (pc' : Nat) (hd : decode b pc = .ok (.ifCond cd o, 3)) (hc : ifCond.holds cd x = true) (ho : 0 ≤ (pc : Int) + o ∧ ((pc : Int) + o).toNat = pc') (hg : Go End p e below s0 rc rs Q (T.setTop (mkF m pc' Ls st))) : Go End p e below s0 rc rs Q (T.setTop (mkF m pc Ls (.int x :: st))) := go (fun _ => XS.ifYes X.here hx rfl (pc0 := pc) (pc' := pc') rfl (hb hby hd) rfl hc ho.1 ho.2) hg
theorem c_ifNo (X : Stand p l e R s m args below meth c T locs cells slots) (hx : p.tables.exec = Jvm.exec) (hby : c.code = b) {cd : ClassFile.Cond} {x : Int32} {o : Int} (hd : decode b pc = .ok (.ifCond cd o, 3)) (hc : ifCond.holds cd x = false) (hg : Go End p e below s0 rc rs Q (T.setTop (mkF m (pc + 3) Ls st))) : Go End p e below s0 rc rs Q (T.setTop (mkF m pc Ls (.int x :: st))) := go (fun _ => XS.ifNo X.here hx rfl (hb hby hd) rfl hc) hg
theorem c_icmpYes (X : Stand p l e R s m args below meth c T locs cells slots) (hx : p.tables.exec = Jvm.exec) (hby : c.code = b) {cd : ClassFile.Cond} {x y : Int32} {o : Int} (pc' : Nat) (hd : decode b pc = .ok (.if_icmp cd o, 3)) (hc : if_icmp.holds cd x y = true) (ho : 0 ≤ (pc : Int) + o ∧ ((pc : Int) + o).toNat = pc') (hg : Go End p e below s0 rc rs Q (T.setTop (mkF m pc' Ls st))) : Go End p e below s0 rc rs Q (T.setTop (mkF m pc Ls (.int y :: .int x :: st))) := go (fun _ => XS.icmpYes X.here hx rfl (pc0 := pc) (pc' := pc') rfl (hb hby hd) rfl hc ho.1 ho.2) hg
theorem c_icmpNo (X : Stand p l e R s m args below meth c T locs cells slots) (hx : p.tables.exec = Jvm.exec) (hby : c.code = b) {cd : ClassFile.Cond} {x y : Int32} {o : Int} (hd : decode b pc = .ok (.if_icmp cd o, 3)) (hc : if_icmp.holds cd x y = false) (hg : Go End p e below s0 rc rs Q (T.setTop (mkF m (pc + 3) Ls st))) : Go End p e below s0 rc rs Q (T.setTop (mkF m pc Ls (.int y :: .int x :: st))) := go (fun _ => XS.icmpNo X.here hx rfl (hb hby hd) rfl hc) hg
theorem c_ifnullYes (X : Stand p l e R s m args below meth c T locs cells slots) (hx : p.tables.exec = Jvm.exec) (hby : c.code = b) {o : Int} (pc' : Nat) (hd : decode b pc = .ok (.ifnull o, 3)) (ho : 0 ≤ (pc : Int) + o ∧ ((pc : Int) + o).toNat = pc') (hg : Go End p e below s0 rc rs Q (T.setTop (mkF m pc' Ls st))) : Go End p e below s0 rc rs Q (T.setTop (mkF m pc Ls (.null :: st))) := go (fun _ => XS.ifnullYes X.here hx rfl (pc0 := pc) (pc' := pc') rfl (hb hby hd) rfl ho.1 ho.2) hg
theorem c_ifnullNo (X : Stand p l e R s m args below meth c T locs cells slots) (hx : p.tables.exec = Jvm.exec) (hby : c.code = b) {a : Addr} {o : Int} (hd : decode b pc = .ok (.ifnull o, 3))  (hg : Go End p e below s0 rc rs Q (T.setTop (mkF m (pc + 3) Ls st))) : Go End p e below s0 rc rs Q (T.setTop (mkF m pc Ls (.ref a :: st))) := go (fun _ => XS.ifnullNo X.here hx rfl (hb hby hd) rfl) hg
theorem c_ifnonnullYes (X : Stand p l e R s m args below meth c T locs cells slots) (hx : p.tables.exec = Jvm.exec) (hby : c.code = b) {a : Addr} {o : Int} (pc' : Nat) (hd : decode b pc = .ok (.ifnonnull o, 3)) (ho : 0 ≤ (pc : Int) + o ∧ ((pc : Int) + o).toNat = pc') (hg : Go End p e below s0 rc rs Q (T.setTop (mkF m pc' Ls st))) : Go End p e below s0 rc rs Q (T.setTop (mkF m pc Ls (.ref a :: st))) := go (fun _ => XT.ifnonnullYes X.here hx rfl (pc0 := pc) (pc' := pc') rfl (hb hby hd) rfl ho.1 ho.2) hg
theorem c_ifnonnullNo (X : Stand p l e R s m args below meth c T locs cells slots) (hx : p.tables.exec = Jvm.exec) (hby : c.code = b) {o : Int} (hd : decode b pc = .ok (.ifnonnull o, 3))  (hg : Go End p e below s0 rc rs Q (T.setTop (mkF m (pc + 3) Ls st))) : Go End p e below s0 rc rs Q (T.setTop (mkF m pc Ls (.null :: st))) := go (fun _ => XT.ifnonnullNo X.here hx rfl (hb hby hd) rfl) hg
theorem c_iinc (X : Stand p l e R s m args below meth c T locs cells slots) (hx : p.tables.exec = Jvm.exec) (hby : c.code = b) {k : Nat} {cst : Int} {x : Int32} (l' : Array Slot) (hd : decode b pc = .ok (.iinc k cst, 3)) (hl : Ls[k]? = some (.val (.int x))) (hl' : storeLocals Ls k (.int (x + Int32.ofInt cst)) = some l') (hg : Go End p e below s0 rc rs Q (T.setTop (mkF m (pc + 3) l' st))) : Go End p e below s0 rc rs Q (T.setTop (mkF m pc Ls st)) := go (fun _ => XS.iinc X.here hx rfl (hb hby hd) hl hl') hg
theorem c_ldcI (X : Stand p l e R s m args below meth c T locs cells slots) (hx : p.tables.exec = Jvm.exec) (hby : c.code = b) (hZ : Z.Warmed39 s.vm) {own : String} {index : Nat} (hown : s.vm.findClass own = some m.cls) {v : Int32} (w : (Jvm.Cond.constant own index v).before a0 Z = true) (hd : decode b pc = .ok (.ldc index, 2)) (hg : Go End p e below s0 rc rs Q (T.setTop (mkF m (pc + 2) Ls (.int v :: st)))) : Go End p e below s0 rc rs Q (T.setTop (mkF m pc Ls st)) := by
  exact go (X.ldcInt hx hown (mvT hZ w) (g := mkF m pc Ls st) rfl (hb hby hd)) hg
theorem c_getf (X : Stand p l e R s m args below meth c T locs cells slots) (hx : p.tables.exec = Jvm.exec) (hby : c.code = b) (hZ : Z.Warmed39 s.vm) {own : String} {index : Nat} (hown : s.vm.findClass own = some m.cls) {R0 O n d : String} (w : (Jvm.Cond.fieldLink own index R0 n d).before a0 Z = true) (via : Via Z R0 O n d) (eT : T.heap = h) {a : Addr} {v : Value} (F : Fld Z h a O n d v) (hd : decode b pc = .ok (.getfield index, 3)) (k : ∀ T', Stand p l e R s m args below meth c T' locs cells slots → T'.heap = h → Go End p e below s0 rc rs Q (T'.setTop (mkF m (pc + 3) Ls (v :: st)))) : Go End p e below s0 rc rs Q (T.setTop (mkF m pc Ls (.ref a :: st))) := by
  obtain ⟨T', X', e', q⟩ := getF X hx hZ hown (host := "") (Or.inl w) via eT F (g := mkF m pc Ls (.ref a :: st)) rfl rfl (hb hby hd); exact go q (k T' X' e')
theorem c_gets (X : Stand p l e R s m args below meth c T locs cells slots) (hx : p.tables.exec = Jvm.exec) (hby : c.code = b) (hZ : Z.Warmed39 s.vm) {own : String} {index : Nat} (hown : s.vm.findClass own = some m.cls) {R0 O n d : String} (w : (Jvm.Cond.fieldLink own index R0 n d).before a0 Z = true) (via : Via Z R0 O n d) (eT : T.heap = h) {v : Value} (F : Sta Z h O n d v) (hd : decode b pc = .ok (.getstatic index, 3)) (k : ∀ T', Stand p l e R s m args below meth c T' locs cells slots → T'.heap = h → Go End p e below s0 rc rs Q (T'.setTop (mkF m (pc + 3) Ls (v :: st)))) : Go End p e below s0 rc rs Q (T.setTop (mkF m pc Ls st)) := by
  obtain ⟨T', X', e', q⟩ := getS2 X hx hZ hown (host := "") (Or.inl w) via eT F (g := mkF m pc Ls st) rfl (hb hby hd); exact go q (k T' X' e')
theorem c_putf (X : Stand p l e R s m args below meth c T locs cells slots) (hx : p.tables.exec = Jvm.exec) (hby : c.code = b) (hZ : Z.Warmed39 s.vm) {own : String} {index : Nat} (hown : s.vm.findClass own = some m.cls) {R0 O n d : String} (w : (Jvm.Cond.fieldLink own index R0 n d).before a0 Z = true) (via : Via Z R0 O n d) (eT : T.heap = h) {a : Addr} {v old : Value} (F : Fld Z h a O n d old) {C : String} {kk : Nat} (E : Exa Z h a C) (Y : (Jvm.Cond.lays C O n d).before a0 Z = true ∨ ((Jvm.Cond.laysFinal C O n d).before a0 Z = true ∧ own = O ∧ meth.name = "<init>")) (wi : (Jvm.Cond.instantiable C kk).before a0 Z = true) (ty : FieldType) (hty : parseFieldDescriptor d = some ty) (hn : narrow ty v = v) (hf : fits ty v = true) (hd : decode b pc = .ok (.putfield index, 3)) (k : ∀ T' h', Stand p l e R s m args below meth c T' (locs ++ [⟨a, Jvm.RoadKit.slotOf Z O n d⟩]) cells slots → T'.heap = h' → Wr h h' a (Jvm.RoadKit.slotOf Z O n d) v → Go End p e below s0 rc rs Q (T'.setTop (mkF m (pc + 3) Ls st))) : Go End p e below s0 rc rs Q (T.setTop (mkF m pc Ls (v :: .ref a :: st))) := by
  obtain ⟨T', h', X', e', W, q⟩ := putF X hx hZ hown (host := "") (Or.inl w) via eT F E Y wi hty hn hf (g := mkF m pc Ls (v :: .ref a :: st)) rfl rfl (hb hby hd); exact go q (k T' h' X' e' W)
theorem c_putn (X : Stand p l e R s m args below meth c T locs cells slots) (hx : p.tables.exec = Jvm.exec) (hby : c.code = b) (hZ : Z.Warmed39 s.vm) {own : String} {index : Nat} (hown : s.vm.findClass own = some m.cls) {R0 O n d : String} (w : (Jvm.Cond.fieldLink own index R0 n d).before a0 Z = true) (via : Via Z R0 O n d) (eT : T.heap = h) {a : Addr} {v old : Value} (v' : Value) (F : Fld Z h a O n d old) {C : String} {kk : Nat} (E : Exa Z h a C) (Y : (Jvm.Cond.lays C O n d).before a0 Z = true ∨ ((Jvm.Cond.laysFinal C O n d).before a0 Z = true ∧ own = O ∧ meth.name = "<init>")) (wi : (Jvm.Cond.instantiable C kk).before a0 Z = true) (ty : FieldType) (hty : parseFieldDescriptor d = some ty) (hn : narrow ty v = v') (hf : fits ty v' = true) (hd : decode b pc = .ok (.putfield index, 3)) (k : ∀ T' h', Stand p l e R s m args below meth c T' (locs ++ [⟨a, Jvm.RoadKit.slotOf Z O n d⟩]) cells slots → T'.heap = h' → Wr h h' a (Jvm.RoadKit.slotOf Z O n d) v' → Go End p e below s0 rc rs Q (T'.setTop (mkF m (pc + 3) Ls st))) : Go End p e below s0 rc rs Q (T.setTop (mkF m pc Ls (v :: .ref a :: st))) := by
  obtain ⟨T', h', X', e', W, q⟩ := putFN X hx hZ hown w via eT F E Y wi hty hn hf (g := mkF m pc Ls (v :: .ref a :: st)) rfl rfl (hb hby hd); exact go q (k T' h' X' e' W)
theorem c_new (X : Stand p l e R s m args below meth c T locs cells slots) (hx : p.tables.exec = Jvm.exec) (hby : c.code = b) (hZ : Z.Warmed39 s.vm) {own : String} {index : Nat} (hown : s.vm.findClass own = some m.cls) {C : String} {n : Nat} (w : (Jvm.Cond.classLink own index C).before a0 Z = true) (wi : (Jvm.Cond.instantiable C n).before a0 Z = true) (wz : (Jvm.Cond.initialized C).before a0 Z = true) (eT : T.heap = h) (hd : decode b pc = .ok (.new index, 3)) (hc : cells + 1 ≤ R.cells ∧ slots + n ≤ R.slots) (k : ∀ T' h' x, x = h.size → Stand p l e R s m args below meth c T' locs (cells + 1) (slots + n) → T'.heap = h' → Ext h h' → Exa Z h' x C → (∀ {O nm d : String} {ty : FieldType}, Laid Z a0 C O nm d → parseFieldDescriptor d = some ty → Fld Z h' x O nm d (defaultValue ty)) → Go End p e below s0 rc rs Q (T'.setTop (mkF m (pc + 3) Ls (.ref x :: st)))) : Go End p e below s0 rc rs Q (T.setTop (mkF m pc Ls st)) := by
  obtain ⟨T', h', X', e', E, A, D, -, q⟩ := newO X hx hZ hown w wi wz eT (g := mkF m pc Ls st) rfl (hb hby hd) hc.1 hc.2; exact go q (k T' h' _ rfl X' e' E A D)
theorem c_newP (X : Stand p l e R s m args below meth c T locs cells slots) (hx : p.tables.exec = Jvm.exec) (hby : c.code = b) (hZ : Z.Warmed39 s.vm) {aty : ArrayType} (w : (Jvm.Cond.arrayClass (newarray.typeOf aty)).before a0 Z = true) (eT : T.heap = h) (hd : decode b pc = .ok (.newarray aty, 2)) {n : Int32} (hn : ¬ n < 0) (cap : Nat) (hcap : n.toNatClampNeg ≤ cap) (hc : cap * 8 ≤ 536870912 ∧ cells + 1 ≤ R.cells ∧ slots + cap ≤ R.slots) (ad : String) (had : "[" ++ (newarray.typeOf aty).toString = ad) (k : ∀ T' h' cA x, x = h.size → Stand p l e R s m args below meth c T' locs (cells + 1) (slots + cap) → T'.heap = h' → Ext h h' → Arr Z h' x (newA cA (newarray.typeOf aty) n) (newarray.typeOf aty) → Exa Z h' x ad → Go End p e below s0 rc rs Q (T'.setTop (mkF m (pc + 2) Ls (.ref x :: st)))) : Go End p e below s0 rc rs Q (T.setTop (mkF m pc Ls (.int n :: st))) := by
  obtain ⟨T', h', cA, X', e', E, A, AE, q⟩ := newPE X hx hZ w eT (g := mkF m pc Ls (.int n :: st)) rfl (hb hby hd) rfl hn hcap hc.1 hc.2.1 hc.2.2 had; exact go q (k T' h' cA _ rfl X' e' E A AE)
theorem c_bal (X : Stand p l e R s m args below meth c T locs cells slots) (hx : p.tables.exec = Jvm.exec) (hby : c.code = b) (hZ : Z.Warmed39 s.vm) (eT : T.heap = h) {a : Addr} {k : ClassId} {z j : Int32} {vs : List Value} {d : Value} (A : Arv Z h a k .byte z vs d) (hj : ¬ j < 0 ∧ j < z) (v : Value) (hv : vs.getD j.toNatClampNeg d = v) (hd : decode b pc = .ok (.baload, 1)) (hg : Go End p e below s0 rc rs Q (T.setTop (mkF m (pc + 1) Ls (v :: st)))) : Go End p e below s0 rc rs Q (T.setTop (mkF m pc Ls (.int j :: .ref a :: st))) := by
  obtain ⟨cl, Ar, q, Sz, Nz, Hs, Gs⟩ := A; have hin := inb_of Sz hj; exact go (X.baloadBytes hx (j := j) (v := v) (by rw [eT]; exact Ar.1) (State.isArrayOf_alike hZ.alike Ar.2.1) Ar.2.2 hin (Hs.at hin hv) (g := mkF m pc Ls (.int j :: .ref a :: st)) rfl rfl (hb hby hd)) hg
theorem c_cal (X : Stand p l e R s m args below meth c T locs cells slots) (hx : p.tables.exec = Jvm.exec) (hby : c.code = b) (hZ : Z.Warmed39 s.vm) (eT : T.heap = h) {a : Addr} {k : ClassId} {z j : Int32} {vs : List Value} {d : Value} (A : Arv Z h a k .char z vs d) (hj : ¬ j < 0 ∧ j < z) (v : Value) (hv : vs.getD j.toNatClampNeg d = v) (hd : decode b pc = .ok (.caload, 1)) (hg : Go End p e below s0 rc rs Q (T.setTop (mkF m (pc + 1) Ls (v :: st)))) : Go End p e below s0 rc rs Q (T.setTop (mkF m pc Ls (.int j :: .ref a :: st))) := by
  obtain ⟨cl, Ar, q, Sz, Nz, Hs, Gs⟩ := A; have hin := inb_of Sz hj; exact go (X.caload hx (j := j) (v := v) (by rw [eT]; exact Ar.1) (State.isArrayOf_alike hZ.alike Ar.2.1) Ar.2.2 hin (Hs.at hin hv) (g := mkF m pc Ls (.int j :: .ref a :: st)) rfl rfl (hb hby hd)) hg
theorem c_ial (X : Stand p l e R s m args below meth c T locs cells slots) (hx : p.tables.exec = Jvm.exec) (hby : c.code = b) (hZ : Z.Warmed39 s.vm) (eT : T.heap = h) {a : Addr} {k : ClassId} {z j : Int32} {vs : List Value} {d : Value} (A : Arv Z h a k .int z vs d) (hj : ¬ j < 0 ∧ j < z) (v : Value) (hv : vs.getD j.toNatClampNeg d = v) (hd : decode b pc = .ok (.iaload, 1)) (hg : Go End p e below s0 rc rs Q (T.setTop (mkF m (pc + 1) Ls (v :: st)))) : Go End p e below s0 rc rs Q (T.setTop (mkF m pc Ls (.int j :: .ref a :: st))) := by
  obtain ⟨cl, Ar, q, Sz, Nz, Hs, Gs⟩ := A; have hin := inb_of Sz hj; exact go (X.iaload hx (j := j) (v := v) (by rw [eT]; exact Ar.1) (State.isArrayOf_alike hZ.alike Ar.2.1) Ar.2.2 hin (Hs.at hin hv) (g := mkF m pc Ls (.int j :: .ref a :: st)) rfl rfl (hb hby hd)) hg
theorem c_aal (X : Stand p l e R s m args below meth c T locs cells slots) (hx : p.tables.exec = Jvm.exec) (hby : c.code = b) (hZ : Z.Warmed39 s.vm) {ty : FieldType} (eT : T.heap = h) {a : Addr} {k : ClassId} {z j : Int32} {vs : List Value} {d : Value} (A : Arv Z h a k ty z vs d) (hj : ¬ j < 0 ∧ j < z) (v : Value) (hv : vs.getD j.toNatClampNeg d = v) (ht : ty.isReference = true) (hd : decode b pc = .ok (.aaload, 1)) (hg : Go End p e below s0 rc rs Q (T.setTop (mkF m (pc + 1) Ls (v :: st)))) : Go End p e below s0 rc rs Q (T.setTop (mkF m pc Ls (.int j :: .ref a :: st))) := by
  obtain ⟨cl, Ar, q, Sz, Nz, Hs, Gs⟩ := A; have hin := inb_of Sz hj; exact go (X.aaload hx (j := j) (v := v) (by rw [eT]; exact Ar.1) (State.isArrayOf_alike hZ.alike Ar.2.1) ht Ar.2.2 hin (Hs.at hin hv) (g := mkF m pc Ls (.int j :: .ref a :: st)) rfl rfl (hb hby hd)) hg
theorem c_bst (X : Stand p l e R s m args below meth c T locs cells slots) (hx : p.tables.exec = Jvm.exec) (hby : c.code = b) (hZ : Z.Warmed39 s.vm) (eT : T.heap = h) {a : Addr} {k : ClassId} {z j : Int32} {vs : List Value} {d : Value} (A : Arv Z h a k .byte z vs d) (hj : ¬ j < 0 ∧ j < z) {x : Int32} (n : Nat) (hn : j.toNatClampNeg = n) (hl : n < vs.length) (hd : decode b pc = .ok (.bastore, 1)) (K : ∀ T' h', Stand p l e R s m args below meth c T' (locs ++ [⟨a, j.toNatClampNeg⟩]) cells slots → T'.heap = h' → Wr h h' a j.toNatClampNeg (.int (nar .byte x)) → Arv Z h' a k .byte z (vs.set n (.int (nar .byte x))) d → Go End p e below s0 rc rs Q (T'.setTop (mkF m (pc + 1) Ls st))) : Go End p e below s0 rc rs Q (T.setTop (mkF m pc Ls (.int x :: .int j :: .ref a :: st))) := by
  obtain ⟨cl, Ar, q, Sz, Nz, Hs, Gs⟩ := A; obtain ⟨T', h', X', e', W, r⟩ := stB X hx hZ eT Ar (j := j) (inb_of Sz hj) (g := mkF m pc Ls (.int x :: .int j :: .ref a :: st)) rfl rfl (hb hby hd); exact go r (K T' h' X' e' W (Arv.set Ar q Sz Nz Hs Gs (fits_nar_byte _) W n hn hl))
theorem c_cst (X : Stand p l e R s m args below meth c T locs cells slots) (hx : p.tables.exec = Jvm.exec) (hby : c.code = b) (hZ : Z.Warmed39 s.vm) (eT : T.heap = h) {a : Addr} {k : ClassId} {z j : Int32} {vs : List Value} {d : Value} (A : Arv Z h a k .char z vs d) (hj : ¬ j < 0 ∧ j < z) {x : Int32} (n : Nat) (hn : j.toNatClampNeg = n) (hl : n < vs.length) (hd : decode b pc = .ok (.castore, 1)) (K : ∀ T' h', Stand p l e R s m args below meth c T' (locs ++ [⟨a, j.toNatClampNeg⟩]) cells slots → T'.heap = h' → Wr h h' a j.toNatClampNeg (.int (nar .char x)) → Arv Z h' a k .char z (vs.set n (.int (nar .char x))) d → Go End p e below s0 rc rs Q (T'.setTop (mkF m (pc + 1) Ls st))) : Go End p e below s0 rc rs Q (T.setTop (mkF m pc Ls (.int x :: .int j :: .ref a :: st))) := by
  obtain ⟨cl, Ar, q, Sz, Nz, Hs, Gs⟩ := A; obtain ⟨T', h', X', e', W, r⟩ := stC X hx hZ eT Ar (j := j) (inb_of Sz hj) (g := mkF m pc Ls (.int x :: .int j :: .ref a :: st)) rfl rfl (hb hby hd); exact go r (K T' h' X' e' W (Arv.set Ar q Sz Nz Hs Gs (fits_nar_char _) W n hn hl))
theorem c_ist (X : Stand p l e R s m args below meth c T locs cells slots) (hx : p.tables.exec = Jvm.exec) (hby : c.code = b) (hZ : Z.Warmed39 s.vm) (eT : T.heap = h) {a : Addr} {k : ClassId} {z j : Int32} {vs : List Value} {d : Value} (A : Arv Z h a k .int z vs d) (hj : ¬ j < 0 ∧ j < z) {x : Int32} (n : Nat) (hn : j.toNatClampNeg = n) (hl : n < vs.length) (hd : decode b pc = .ok (.iastore, 1)) (K : ∀ T' h', Stand p l e R s m args below meth c T' (locs ++ [⟨a, j.toNatClampNeg⟩]) cells slots → T'.heap = h' → Wr h h' a j.toNatClampNeg (.int x) → Arv Z h' a k .int z (vs.set n (.int x)) d → Go End p e below s0 rc rs Q (T'.setTop (mkF m (pc + 1) Ls st))) : Go End p e below s0 rc rs Q (T.setTop (mkF m pc Ls (.int x :: .int j :: .ref a :: st))) := by
  obtain ⟨cl, Ar, q, Sz, Nz, Hs, Gs⟩ := A; obtain ⟨T', h', X', e', W, r⟩ := stI X hx hZ eT Ar (j := j) (inb_of Sz hj) (g := mkF m pc Ls (.int x :: .int j :: .ref a :: st)) rfl rfl (hb hby hd); exact go r (K T' h' X' e' W (Arv.set Ar q Sz Nz Hs Gs rfl W n hn hl))
theorem c_alen (X : Stand p l e R s m args below meth c T locs cells slots) (hx : p.tables.exec = Jvm.exec) (hby : c.code = b) (hZ : Z.Warmed39 s.vm) (eT : T.heap = h) {a : Addr} {k : ClassId} {ty : FieldType} {z : Int32} {vs : List Value} {d : Value} (A : Arv Z h a k ty z vs d) (hd : decode b pc = .ok (.arraylength, 1)) (hg : Go End p e below s0 rc rs Q (T.setTop (mkF m (pc + 1) Ls (.int z :: st)))) : Go End p e below s0 rc rs Q (T.setTop (mkF m pc Ls (.ref a :: st))) := by
  obtain ⟨cl, Ar, -, Sz, Nz, -, -⟩ := A; exact go (X.arraylength hx (by rw [eT]; exact Ar.1) (State.isArrayOf_alike hZ.alike Ar.2.1) (g := mkF m pc Ls (.ref a :: st)) rfl rfl (hb hby hd)) (by rw [len_of Sz Nz]; exact hg)
abbrev rmk (f c s l : Nat) : Room := { frames := f, cells := c, slots := s, locals := l }
def own_M (l : Launch) (Z : State) (y : MethodName) (code : ByteArray) (ml : Nat) (ret : Option FieldType) (rm : Room) (as : Array Value) (h0 : Heap) (Q : Option Value → Heap → List Loc → Prop) : Prop :=
  MetFree l y (head1 [Jvm.Cond.code y code ml ret] rm) (fun a U => a = as ∧ Z.Warmed39 U.vm ∧ U.heap = h0) (fun _ _ _ _ _ => True) (fun _ U o U' => ∃ v L, o = .returned v ∧ Q v U'.heap L ∧ FrameEnd U o U' L rm.cells rm.slots)
theorem own_body {y : MethodName} {code : ByteArray} {ml : Nat} {ret : Option FieldType} {rm : Room} {as : Array Value} {own nme dsc : String} (hy : y = ⟨own, nme, dsc⟩) (hp : plainFor y = true)
    (k : ∀ p e s m below meth c s₁, p.tables.exec = Jvm.exec → c.code = code → c.maxLocals = ml → s.vm.findClass own = some m.cls → meth.name = nme → meth.locks = false → meth.sig.returnType = ret → Stand p l e rm s m as below meth c s₁ [] 0 0 → s₁.heap = h → Z.Warmed39 s.vm → Go FrameEnd p e below s rm.cells rm.slots Q (s₁.setTop (entryFrame m as ml))) : own_M l Z y code ml ret rm as h Q := by
  subst hy
  refine MetFree.of_bodySF hp hisR ?_
  intro p e s m args below meth c s₁ Bd hml hP hK
  obtain ⟨rfl, hZ, hh⟩ := hP
  exact k p e s m below meth c s₁ Bd.exec Bd.bytes hml (findClass_of_methodNamed Bd.named) (name_of_methodNamed Bd.named Bd.method).1 Bd.notSynchronized Bd.returns (Stand.of_body Bd) (by rw [← hh, Bd.state]; rfl) hZ
theorem c_callS (X : Stand p l e R s m args below meth c T locs cells slots) (hx : p.tables.exec = Jvm.exec) (hby : c.code = b) (hZ : Z.Warmed39 s.vm) {own : String} {index : Nat} (hown : s.vm.findClass own = some m.cls) {y : MethodName} {code : ByteArray} {ml ml0 : Nat} {ret : Option FieldType} {rm : Room} {Qc : Option Value → Heap → List Loc → Prop} {ps : List FieldType} {rt : Option FieldType} (hml : c.maxLocals = ml0) (w1 : (Jvm.Cond.methodLink own index y).before a0 Z = true) (w2 : (Jvm.Cond.static y).before a0 Z = true) (w3 : (Jvm.Cond.initialized y.cls).before a0 Z = true) (w4 : (Jvm.Cond.code y code ml ret).before a0 Z = true) {argsL : List Value} (eT : T.heap = h) (hM : own_M l Z y code ml ret rm argsL.toArray h Qc) (hpd : parseMethodDescriptor y.desc = some ⟨ps, rt⟩) (hln : argsL.length = ps.length) (hd : decode b pc = .ok (.invokestatic index, 3)) (rest : List Value) (hs : st = (argsL.reverse ++ rest)) (W : Nat) (hd5 : (y.cls ≠ "java/lang/invoke/MethodHandle" ∧ y.cls ≠ "java/lang/invoke/VarHandle") ∧ rm.frames + 1 ≤ R.frames ∧ W + (ml + 11) + rm.locals ≤ R.locals ∧ cells + rm.cells ≤ R.cells ∧ slots + rm.slots ≤ R.slots) (hW : (rest.map fun v => v.category).sum = W) (hsz : Ls.size = ml0) (k : ∀ v T' L, Stand p l e R s m args below meth c T' (locs ++ L) (cells + rm.cells) (slots + rm.slots) → Qc v T'.heap L → Go End p e below s0 rc rs Q (T'.setTop (mkF m (pc + 3) Ls (v.toList ++ rest)))) : Go End p e below s0 rc rs Q (T.setTop (mkF m pc Ls st)) := by
  subst hs; obtain ⟨v, _, ⟨T', L', k', n'⟩, -, X', ⟨Lc, hQ, e1, e2, e3⟩, q⟩ := Jvm.LawKit.callS X hx hown (mvT hZ w1) (mvT hZ w2) (mvT hZ w3) (mvT hZ w4) hd5.1 (backOf (W := W) hM hZ w4 w3 hd5.2.1 hd5.2.2.1) (g := mkF m pc Ls (argsL.reverse ++ rest)) rfl (by rw [hml]; exact hsz) (argsL := argsL) (rest := rest) (lenOf hpd hln) rfl (by show 2 * 0 + _ ≤ _; rw [hW]; omega) (hb hby hd) (fun _ _ => ⟨rfl, eT, hd5.2.2.2.1, hd5.2.2.2.2⟩); dsimp only [Pt.U, Pt.locs, Pt.cells, Pt.slots] at X' e1 e2 e3 q hQ; subst e1 e2 e3; exact go q (k _ _ _ X' hQ)
theorem c_callV (X : Stand p l e R s m args below meth c T locs cells slots) (hx : p.tables.exec = Jvm.exec) (hby : c.code = b) (hZ : Z.Warmed39 s.vm) {own : String} {index : Nat} (hown : s.vm.findClass own = some m.cls) {y : MethodName} {code : ByteArray} {ml ml0 : Nat} {ret : Option FieldType} {rm : Room} {Qc : Option Value → Heap → List Loc → Prop} {ps : List FieldType} {rt : Option FieldType} (hml : c.maxLocals = ml0) (w1 : (Jvm.Cond.methodLink own index y).before a0 Z = true) (w2 : (Jvm.Cond.declares y).before a0 Z = true) {C : String} (w3 : (Jvm.Cond.selects C y y).before a0 Z = true) (w4 : (Jvm.Cond.instanceMethod y).before a0 Z = true) (w5 : (Jvm.Cond.code y code ml ret).before a0 Z = true) (w6 : (Jvm.Cond.initialized y.cls).before a0 Z = true) {a : Addr} (EX : Exa Z h a C) {argsL : List Value} (eT : T.heap = h) (hM : own_M l Z y code ml ret rm (.ref a :: argsL).toArray h Qc) (hpd : parseMethodDescriptor y.desc = some ⟨ps, rt⟩) (hln : argsL.length = ps.length) (hd : decode b pc = .ok (.invokevirtual index, 3)) (rest : List Value) (hs : st = (argsL.reverse ++ .ref a :: rest)) (W : Nat) (hd5 : (y.cls ≠ "java/lang/invoke/MethodHandle" ∧ y.cls ≠ "java/lang/invoke/VarHandle") ∧ rm.frames + 1 ≤ R.frames ∧ W + (ml + 11) + rm.locals ≤ R.locals ∧ cells + rm.cells ≤ R.cells ∧ slots + rm.slots ≤ R.slots) (hW : (rest.map fun v => v.category).sum = W) (hsz : Ls.size = ml0) (k : ∀ v T' L, Stand p l e R s m args below meth c T' (locs ++ L) (cells + rm.cells) (slots + rm.slots) → Qc v T'.heap L → Go End p e below s0 rc rs Q (T'.setTop (mkF m (pc + 3) Ls (v.toList ++ rest)))) : Go End p e below s0 rc rs Q (T.setTop (mkF m pc Ls st)) := by
  subst hs; obtain ⟨cB, kB, qa, qb, qc⟩ := isOf hZ eT EX; obtain ⟨v, _, ⟨T', L', k', n'⟩, -, X', ⟨Lc, hQ, e1, e2, e3⟩, q⟩ := X.virtualBack hx hown (mvT hZ w1) (mvT hZ w2) (notFace_of_selects (args := #[]) (mvT hZ w3)) (mvT hZ w3) (mvT hZ w4) hd5.1 (backOf (W := W) hM hZ w5 w6 hd5.2.1 hd5.2.2.1) qa qc (g := mkF m pc Ls (argsL.reverse ++ .ref a :: rest)) rfl (by rw [hml]; exact hsz) (Steps.refl _) (argsL := argsL) (rest := rest) (lenOf hpd hln) rfl (by show 2 * 0 + _ ≤ _; rw [hW]; omega) (hb hby hd) (fun _ _ => ⟨rfl, eT, hd5.2.2.2.1, hd5.2.2.2.2⟩); dsimp only [Pt.U, Pt.locs, Pt.cells, Pt.slots] at X' e1 e2 e3 q hQ; subst e1 e2 e3; exact goT q (k _ _ _ X' hQ)
theorem c_init (X : Stand p l e R s m args below meth c T locs cells slots) (hx : p.tables.exec = Jvm.exec) (hby : c.code = b) (hZ : Z.Warmed39 s.vm) {own : String} {index : Nat} (hown : s.vm.findClass own = some m.cls) {y : MethodName} {code : ByteArray} {ml ml0 : Nat} {rm : Room} {Qc : Option Value → Heap → List Loc → Prop} {ps : List FieldType} {rt : Option FieldType} (hml : c.maxLocals = ml0) (w1 : (Jvm.Cond.methodLink own index y).before a0 Z = true) (w2 : (Jvm.Cond.instanceMethod y).before a0 Z = true) (w3 : (Jvm.Cond.code y code ml none).before a0 Z = true) (w4 : (Jvm.Cond.initialized y.cls).before a0 Z = true) (hn : y.name = "<init>") {argsL : List Value} {a : Addr} (eT : T.heap = h) (hM : own_M l Z y code ml none rm (.ref a :: argsL).toArray h Qc) (hpd : parseMethodDescriptor y.desc = some ⟨ps, rt⟩) (hln : argsL.length = ps.length) (hd : decode b pc = .ok (.invokespecial index, 3)) (rest : List Value) (hs : st = (argsL.reverse ++ .ref a :: rest)) (W : Nat) (hd5 : (y.cls ≠ "java/lang/invoke/MethodHandle" ∧ y.cls ≠ "java/lang/invoke/VarHandle") ∧ rm.frames + 1 ≤ R.frames ∧ W + (ml + 11) + rm.locals ≤ R.locals ∧ cells + rm.cells ≤ R.cells ∧ slots + rm.slots ≤ R.slots) (hW : (rest.map fun v => v.category).sum = W) (hsz : Ls.size = ml0) (k : ∀ v T' L, Stand p l e R s m args below meth c T' (locs ++ L) (cells + rm.cells) (slots + rm.slots) → Qc v T'.heap L → Go End p e below s0 rc rs Q (T'.setTop (mkF m (pc + 3) Ls (v.toList ++ rest)))) : Go End p e below s0 rc rs Q (T.setTop (mkF m pc Ls st)) := by
  subst hs; obtain ⟨v, _, ⟨T', L', k', n'⟩, -, X', ⟨Lc, hQ, e1, e2, e3⟩, q⟩ := X.specialBack hx hn hown (mvT hZ w1) (mvT hZ w2) (mvT hZ w3) hd5.1 (backOf (W := W) hM hZ w3 w4 hd5.2.1 hd5.2.2.1) (g := mkF m pc Ls (argsL.reverse ++ .ref a :: rest)) rfl (by rw [hml]; exact hsz) (Steps.refl _) (a := a) (argsL := argsL) (rest := rest) (lenOf hpd hln) rfl (by show 2 * 0 + _ ≤ _; rw [hW]; omega) (hb hby hd) (fun _ _ => ⟨rfl, eT, hd5.2.2.2.1, hd5.2.2.2.2⟩); dsimp only [Pt.U, Pt.locs, Pt.cells, Pt.slots] at X' e1 e2 e3 q hQ; subst e1 e2 e3; exact goT q (k _ _ _ X' hQ)
theorem c_retI (X : Stand p l e R s m args below meth c T locs cells slots) (hx : p.tables.exec = Jvm.exec) (hby : c.code = b) (hlk : meth.locks = false) {t : FieldType} (hret : meth.sig.returnType = some t) {z : Int32} (hd : decode b pc = .ok (.ireturn, 1)) (hn : narrow t (.int z) = .int z) (ht : t = .int ∨ t = .boolean ∨ t = .byte ∨ t = .char ∨ t = .short) (hc : cells ≤ rc ∧ slots ≤ rs) (eT : T.heap = h) (hq : Q (some (.int z)) h locs) : Go FrameEnd p e below s rc rs Q (T.setTop (mkF m pc Ls (.int z :: st))) :=
  goRet X hx hlk hret hn (Or.inl ⟨rfl, ht, _, rfl⟩) (hb hby hd) hc.1 hc.2 (by rw [eT]; exact hq)
theorem c_retA (X : Stand p l e R s m args below meth c T locs cells slots) (hx : p.tables.exec = Jvm.exec) (hby : c.code = b) (hlk : meth.locks = false) {t : FieldType} (hret : meth.sig.returnType = some t) {v : Value} (hd : decode b pc = .ok (.areturn, 1)) (hn : narrow t v = v) (ht : t.isReference = true ∧ v.isRef = true) (hc : cells ≤ rc ∧ slots ≤ rs) (eT : T.heap = h) (hq : Q (some v) h locs) : Go FrameEnd p e below s rc rs Q (T.setTop (mkF m pc Ls (v :: st))) :=
  goRet X hx hlk hret hn (Or.inr (Or.inr (Or.inr (Or.inr ⟨rfl, ht.1, ht.2⟩)))) (hb hby hd) hc.1 hc.2 (by rw [eT]; exact hq)
theorem c_ret0 (X : Stand p l e R s m args below meth c T locs cells slots) (hx : p.tables.exec = Jvm.exec) (hby : c.code = b) (hlk : meth.locks = false) (hret : meth.sig.returnType = none) (hd : decode b pc = .ok (.return_, 1)) (hc : cells ≤ rc ∧ slots ≤ rs) (eT : T.heap = h) (hq : Q none h locs) : Go FrameEnd p e below s rc rs Q (T.setTop (mkF m pc Ls [])) :=
  goRet0 X hx hlk hret (hb hby hd) hc.1 hc.2 (by rw [eT]; exact hq)
end OwnC
theorem own_tyne {Z : State} {h : Heap} {a a' : Addr} {k k' : ClassId} {ty ty' : FieldType} {z z' : Int32} {vs vs' : List Value} {d d' : Value} (A : Arv Z h a k ty z vs d) (B : Arv Z h a' k' ty' z' vs' d') (hn : ty ≠ ty') : a ≠ a' := fun q => by
  subst q
  obtain ⟨c, ⟨A1, ⟨-, k1, A2, m1, A3⟩, -⟩, -⟩ := A
  obtain ⟨c', ⟨B1, ⟨-, k2, B2, m2, B3⟩, -⟩, -⟩ := B
  cases A1.symm.trans B1
  cases A2.symm.trans B2
  have e := A3.symm.trans B3
  injection e with _ e2
  exact hn e2
section OwnN
variable {p : Program} {l : Launch} {e : Env} {R : Room} {s s0 : State} {m : MethodId} {args a0 : Array Value} {below : List Frame} {meth : Method} {c : Code} {T Z : State} {locs : List Loc} {cells slots : Nat} {h : Heap} {End : State → Outcome → State → List Loc → Nat → Nat → Prop} {rc rs : Nat} {Q : Option Value → Heap → List Loc → Prop} {pc : Nat} {Ls : Array Slot} {st rest : List Value} {b : ByteArray}
theorem own_mvN {own host : String} {index : Nat} {y : MethodName} {args : Array Value} (hZ : Z.Warmed39 s.vm) (w : (Jvm.Cond.methodLinkNest own index y host).before a0 Z = true) : (Jvm.Cond.methodLinkNest own index y host).before args s = true := (Cond.methodLinkNest_wide hZ w :)
theorem c_initN (X : Stand p l e R s m args below meth c T locs cells slots) (hx : p.tables.exec = Jvm.exec) (hby : c.code = b) (hZ : Z.Warmed39 s.vm) {own : String} {index : Nat} (hown : s.vm.findClass own = some m.cls) {y : MethodName} {code : ByteArray} {ml ml0 : Nat} {rm : Room} {Qc : Option Value → Heap → List Loc → Prop} {ps : List FieldType} {rt : Option FieldType} (hml : c.maxLocals = ml0) {host : String} (w1 : (Jvm.Cond.methodLinkNest own index y host).before a0 Z = true) (w2 : (Jvm.Cond.instanceMethod y).before a0 Z = true) (w3 : (Jvm.Cond.code y code ml none).before a0 Z = true) (w4 : (Jvm.Cond.initialized y.cls).before a0 Z = true) (hn : y.name = "<init>") {argsL : List Value} {a : Addr} (eT : T.heap = h) (hM : own_M l Z y code ml none rm (.ref a :: argsL).toArray h Qc) (hpd : parseMethodDescriptor y.desc = some ⟨ps, rt⟩) (hln : argsL.length = ps.length) (hd : decode b pc = .ok (.invokespecial index, 3)) (rest : List Value) (hs : st = (argsL.reverse ++ .ref a :: rest)) (W : Nat) (hd5 : (y.cls ≠ "java/lang/invoke/MethodHandle" ∧ y.cls ≠ "java/lang/invoke/VarHandle") ∧ rm.frames + 1 ≤ R.frames ∧ W + (ml + 11) + rm.locals ≤ R.locals ∧ cells + rm.cells ≤ R.cells ∧ slots + rm.slots ≤ R.slots) (hW : (rest.map fun v => v.category).sum = W) (hsz : Ls.size = ml0) (k : ∀ v T' L, Stand p l e R s m args below meth c T' (locs ++ L) (cells + rm.cells) (slots + rm.slots) → Qc v T'.heap L → Go End p e below s0 rc rs Q (T'.setTop (mkF m (pc + 3) Ls (v.toList ++ rest)))) : Go End p e below s0 rc rs Q (T.setTop (mkF m pc Ls st)) := by
  subst hs; obtain ⟨v, _, ⟨T', L', k', n'⟩, -, X', ⟨Lc, hQ, e1, e2, e3⟩, q⟩ := X.specialBackNest hx hn hown (own_mvN hZ w1) (mvT hZ w2) (mvT hZ w3) hd5.1 (backOf (W := W) hM hZ w3 w4 hd5.2.1 hd5.2.2.1) (g := mkF m pc Ls (argsL.reverse ++ .ref a :: rest)) rfl (by rw [hml]; exact hsz) (Steps.refl _) (a := a) (argsL := argsL) (rest := rest) (lenOf hpd hln) rfl (by show 2 * 0 + _ ≤ _; rw [hW]; omega) (hb hby hd) (fun _ _ => ⟨rfl, eT, hd5.2.2.2.1, hd5.2.2.2.2⟩); dsimp only [Pt.U, Pt.locs, Pt.cells, Pt.slots] at X' e1 e2 e3 q hQ; subst e1 e2 e3; exact goT q (k _ _ _ X' hQ)
end OwnN
abbrev eS (Z : State) (h : Heap) (a : Addr) : Prop := Exa Z h a "java/lang/String"
abbrev fC (Z : State) (h : Heap) (a : Addr) : Prop := Fld Z h a "java/lang/String" "coder" "B" (.int (0 : Int32))
abbrev fV (Z : State) (h : Heap) (a v : Addr) : Prop := Fld Z h a "java/lang/String" "value" "[B" (.ref v)
abbrev vB (Z : State) (h : Heap) (a : Addr) (k : ClassId) (z : Int32) (vs : List Value) : Prop := Arv Z h a k .byte z vs (.int (0 : Int32))
abbrev sCS (Z : State) (w : Int32) : Prop := Sta Z Z.heap "java/lang/String" "COMPACT_STRINGS" "Z" (.int w)
abbrev sPF (Z : State) (f : Value) : Prop := Sta Z Z.heap "jdk/internal/util/Preconditions" "SIOOBE_FORMATTER" "Ljava/util/function/BiFunction;" f
def own_EL : List (String × Nat) := [("com/example/raccordo/raccordo/flow/XmlElementSameAttributesPinLaw", 10), ("com/example/raccordo/raccordo/flow/XmlElementSameAttributesPinLaw", 16), ("com/example/raccordo/raccordo/flow/XmlElementSameAttributesPinLaw", 18), ("com/example/raccordo/raccordo/flow/XmlElementSameAttributesPinLaw", 30), ("java/lang/String", 7)]
section OwnH
variable {p : Program} {l : Launch} {e : Env} {R : Room} {s : State} {m : MethodId} {args : Array Value} {below : List Frame} {meth : Method} {c : Code} {T : State} {locs : List Loc} {cells slots : Nat} {vm₁ : Vm} {k : Nat} {Z : State} {a0 : Array Value}
def own_EndH (Z : State) (s : State) (o : Outcome) (t : State) (L : List Loc) (k n : Nat) : Prop := CHr Z own_EL s.vm s.heap t.vm t.heap ∧ ReturnedEndW s o t L k n
theorem goRetH {rc rs : Nat} {Q : Option Value → Heap → List Loc → Prop} {h0 h : Heap} (X : Stand p l e R (s.setVm vm₁) m args below meth c T locs cells slots) (hZ : Z.Warmed39 vm₁) (hE : EW Z a0 own_EL) (hch : CHr Z own_EL s.vm h0 vm₁ h) (hh0 : s.heap = h0) (eT : T.heap = h) (hS : s.Since vm₁ k) (hk : k ≤ h.size) (hx : p.tables.exec = Jvm.exec) (hlk : meth.locks = false) {pc : Nat} {Ls : Array Slot} {w : Value} {t : FieldType} {i : Instr} {rest : List Value} (hret : meth.sig.returnType = some t) (hn : narrow t w = w)
    (hi : (i = .ireturn ∧ (t = .int ∨ t = .boolean ∨ t = .byte ∨ t = .char ∨ t = .short) ∧ ∃ z, w = .int z) ∨ (i = .lreturn ∧ t = .long ∧ ∃ z, w = .long z) ∨ (i = .dreturn ∧ t = .double ∧ ∃ z, w = .double z) ∨ (i = .freturn ∧ t = .float ∧ ∃ z, w = .float z) ∨ (i = .areturn ∧ t.isReference = true ∧ w.isRef = true))
    (hd : decode c.code pc = .ok (i, 1)) (hc : cells ≤ rc) (hs : slots ≤ rs) (hq : Q (some w) h locs) : Go (own_EndH Z) p e below s rc rs Q (T.setTop (mkF m pc Ls (w :: rest))) := by
  subst eT hh0
  obtain ⟨fs, hr, hrun, hended, h1, h2, h3, h4⟩ := X.leaveW hS hk (v := some w) (fun h => by rw [hret] at h; cases h) hlk
  have hA := hch.trans (CHv.at X hZ hE hch.1)
  refine ⟨_, _, retOut X hx hret hn hi hd hr, hrun, hended, _, _, rfl, ?_, ?_, h1, h2, h3, h4.mono hc hs⟩
  · show Q _ T.heap _
    exact hq
  · exact hA
theorem goRet0H {rc rs : Nat} {Q : Option Value → Heap → List Loc → Prop} {h0 h : Heap} (X : Stand p l e R (s.setVm vm₁) m args below meth c T locs cells slots) (hZ : Z.Warmed39 vm₁) (hE : EW Z a0 own_EL) (hch : CHr Z own_EL s.vm h0 vm₁ h) (hh0 : s.heap = h0) (eT : T.heap = h) (hS : s.Since vm₁ k) (hk : k ≤ h.size) (hx : p.tables.exec = Jvm.exec) (hlk : meth.locks = false) {pc : Nat} {Ls : Array Slot} (hret : meth.sig.returnType = none)
    (hd : decode c.code pc = .ok (.return_, 1)) (hc : cells ≤ rc) (hs : slots ≤ rs) (hq : Q none h locs) : Go (own_EndH Z) p e below s rc rs Q (T.setTop (mkF m pc Ls [])) := by
  subst eT hh0
  obtain ⟨fs, hr, hrun, hended, h1, h2, h3, h4⟩ := X.leaveW hS hk (v := none) (fun _ => rfl) hlk
  have hA := hch.trans (CHv.at X hZ hE hch.1)
  refine ⟨_, _, X.returnOut hx hret hd hr, hrun, hended, _, _, rfl, ?_, ?_, h1, h2, h3, h4.mono hc hs⟩
  · show Q _ T.heap _
    exact hq
  · exact hA
/-- a String whose value is null is no booked constant -/
theorem own_safeN {Z : State} {EL : List (String × Nat)} {vm : Vm} {h : Heap} {x : Addr} (hal : Z.vm.Alike vm) (E : Exa Z h x "java/lang/String") (F : Fld Z h x "java/lang/String" "value" "[B" .null) : Safe Z EL vm h x := fun B => by
  obtain ⟨pp, -, u, a, -, q, -, G, rfl | rfl⟩ := B
  · obtain ⟨cl, c1, k1, i1, f1, r1, r2, -, -, -, -, r3⟩ := F
    cases (show h[q.sa]? = some q.sC from G.ha).symm.trans r1
    obtain ⟨cS, ⟨⟨-, -, -, ⟨c2, k2, i2, g1, -⟩, -, -, -, g2, -⟩, -⟩, -⟩ := G
    obtain ⟨k3, g3⟩ := ff_back (U := Wst Z vm h) hal g1
    have e4 := r2.symm.trans g3
    simp only [Option.some.injEq, Prod.mk.injEq] at e4
    rw [e4.2.2.2, g2] at r3
    cases r3
  · obtain ⟨cl, k1, r1, r2, -⟩ := E
    cases (show h[q.sd]? = some q.SA from G.hd).symm.trans r1
    obtain ⟨cS, -, -, f, -⟩ := G
    have f' : vm.findClass "[B" = some q.SA.cls := f
    rw [hal.findClass] at f'
    obtain ⟨k2, q1, q2⟩ := Vm.findClass_spec f'
    obtain ⟨k3, q3, q4⟩ := Vm.findClass_spec r2
    cases q1.symm.trans q3
    exact absurd (q2.symm.trans q4) (by decide)
end OwnH
section OwnCH
variable {p : Program} {l : Launch} {e : Env} {R : Room} {s s0 : State} {vm : Vm} {m : MethodId} {args a0 : Array Value} {below : List Frame} {meth : Method} {c : Code} {T Z : State} {locs : List Loc} {cells slots k0 : Nat} {h h0 : Heap} {rc rs : Nat} {Q : Option Value → Heap → List Loc → Prop} {pc : Nat} {Ls : Array Slot} {st rest : List Value} {b : ByteArray}
def own_MH (l : Launch) (Z : State) (y : MethodName) (code : ByteArray) (ml : Nat) (ret : Option FieldType) (rm : Room) (as : Array Value) (h0 : Heap) (Q : Option Value → Heap → List Loc → Prop) : Prop :=
  MetFree l y (head1 [Jvm.Cond.code y code ml ret] rm) (fun a U => a = as ∧ Z.Warmed39 U.vm ∧ U.heap = h0 ∧ CHv Z own_EL U.vm h0) (fun _ _ _ _ _ => True) (fun _ U o U' => ∃ v L, o = .returned v ∧ Q v U'.heap L ∧ CHr Z own_EL U.vm U.heap U'.vm U'.heap ∧ ReturnedEndW U o U' L rm.cells rm.slots)
theorem own_bodyH {y : MethodName} {code : ByteArray} {ml : Nat} {ret : Option FieldType} {rm : Room} {as : Array Value} {own nme dsc : String} (hy : y = ⟨own, nme, dsc⟩) (hp : plainFor y = true)
    (k : ∀ p e s m below meth c s₁, p.tables.exec = Jvm.exec → c.code = code → c.maxLocals = ml → s.vm.findClass own = some m.cls → meth.name = nme → meth.locks = false → meth.sig.returnType = ret → Stand p l e rm (s.setVm s.vm) m as below meth c s₁ [] 0 0 → s₁.heap = h → Z.Warmed39 s.vm → s.heap = h → CHr Z own_EL s.vm h s.vm h → s.Since s.vm 0 → Go (own_EndH Z) p e below s rm.cells rm.slots Q (s₁.setTop (entryFrame m as ml))) : own_MH l Z y code ml ret rm as h Q := by
  subst hy
  refine MetFree.of_bodySF hp hisR ?_
  intro p e s m args below meth c s₁ Bd hml hP hK
  obtain ⟨rfl, hZ, hh, hCH⟩ := hP
  obtain ⟨s₂, o, q1, q2, q3, v, L, q4, q5, q6, q7⟩ := k p e s m below meth c s₁ Bd.exec Bd.bytes hml (findClass_of_methodNamed Bd.named) (name_of_methodNamed Bd.named Bd.method).1 Bd.notSynchronized Bd.returns (Stand.of_body Bd) (by rw [← hh, Bd.state]; rfl) hZ hh (CHr.refl hCH) ((State.WarmedH.refl s).since 0)
  exact ⟨s₂, o, q1, q2, q3, v, L, q4, q5, q6, q7⟩
theorem c_callSH (X : Stand p l e R (s.setVm vm) m args below meth c T locs cells slots) (hx : p.tables.exec = Jvm.exec) (hby : c.code = b) (hZ : Z.Warmed39 vm) {own : String} {index : Nat} (hown : vm.findClass own = some m.cls) {y : MethodName} {code : ByteArray} {ml ml0 : Nat} {ret : Option FieldType} {rm : Room} {Qc : Option Value → Heap → List Loc → Prop} {ps : List FieldType} {rt : Option FieldType} (hml : c.maxLocals = ml0) (w1 : (Jvm.Cond.methodLink own index y).before a0 Z = true) (w2 : (Jvm.Cond.static y).before a0 Z = true) (w3 : (Jvm.Cond.initialized y.cls).before a0 Z = true) (w4 : (Jvm.Cond.code y code ml ret).before a0 Z = true) {argsL : List Value} (eT : T.heap = h) (hE : EW Z a0 own_EL) (hch : CHr Z own_EL s.vm h0 vm h) (hS : s.Since vm k0) (hk : k0 ≤ h.size) (hM : own_MH l Z y code ml ret rm argsL.toArray h Qc) (hpd : parseMethodDescriptor y.desc = some ⟨ps, rt⟩) (hln : argsL.length = ps.length) (hd : decode b pc = .ok (.invokestatic index, 3)) (rest : List Value) (hs : st = (argsL.reverse ++ rest)) (W : Nat) (hd5 : (y.cls ≠ "java/lang/invoke/MethodHandle" ∧ y.cls ≠ "java/lang/invoke/VarHandle") ∧ rm.frames + 1 ≤ R.frames ∧ W + (ml + 11) + rm.locals ≤ R.locals ∧ cells + rm.cells ≤ R.cells ∧ slots + rm.slots ≤ R.slots) (hW : (rest.map fun v => v.category).sum = W) (hsz : Ls.size = ml0) (k : ∀ v T' L, Stand p l e R (s.setVm T'.vm) m args below meth c T' (locs ++ L) (cells + rm.cells) (slots + rm.slots) → s.Since T'.vm T'.heap.size → Z.Warmed39 T'.vm → T'.vm.findClass own = some m.cls → CHr Z own_EL vm h T'.vm T'.heap → CHr Z own_EL s.vm h0 T'.vm T'.heap → Qc v T'.heap L → Go (own_EndH Z) p e below s rc rs Q (T'.setTop (mkF m (pc + 3) Ls (v.toList ++ rest)))) : Go (own_EndH Z) p e below s rc rs Q (T.setTop (mkF m pc Ls st)) := by
  subst hs; obtain ⟨v, _, ⟨T', L', k', n'⟩, -, X', sc, gc, ⟨Lc, hQ, e1, e2, e3, hR⟩, q⟩ := callSS X hx hown (mvT hZ w1) (mvT hZ w2) (mvT hZ w3) (mvT hZ w4) hd5.1 (backOfSH (W := W) hM hZ w4 w3 hd5.2.1 hd5.2.2.1 hE hch.1) (g := mkF m pc Ls (argsL.reverse ++ rest)) rfl (by rw [hml]; exact hsz) (argsL := argsL) (rest := rest) (lenOf hpd hln) rfl (by show 2 * 0 + _ ≤ _; rw [hW]; omega) (hb hby hd) (fun _ _ => ⟨rfl, eT, hd5.2.2.2.1, hd5.2.2.2.2⟩); dsimp only [Pt.U, Pt.locs, Pt.cells, Pt.slots] at X' e1 e2 e3 q hQ sc gc hR; subst e1 e2 e3; exact goT q (k _ _ _ X' (foldS (T := T) hS (by rw [eT]; exact hk) sc gc) (State.Warmed39.trans hZ sc.1) (by rw [sc.1.alike.findClass]; exact hown) hR (hch.trans hR) hQ)
theorem c_callVH (X : Stand p l e R (s.setVm vm) m args below meth c T locs cells slots) (hx : p.tables.exec = Jvm.exec) (hby : c.code = b) (hZ : Z.Warmed39 vm) {own : String} {index : Nat} (hown : vm.findClass own = some m.cls) {y : MethodName} {code : ByteArray} {ml ml0 : Nat} {ret : Option FieldType} {rm : Room} {Qc : Option Value → Heap → List Loc → Prop} {ps : List FieldType} {rt : Option FieldType} (hml : c.maxLocals = ml0) (w1 : (Jvm.Cond.methodLink own index y).before a0 Z = true) (w2 : (Jvm.Cond.declares y).before a0 Z = true) {C : String} (w3 : (Jvm.Cond.selects C y y).before a0 Z = true) (w4 : (Jvm.Cond.instanceMethod y).before a0 Z = true) (w5 : (Jvm.Cond.code y code ml ret).before a0 Z = true) (w6 : (Jvm.Cond.initialized y.cls).before a0 Z = true) {a : Addr} (EX : Exa Z h a C) {argsL : List Value} (eT : T.heap = h) (hE : EW Z a0 own_EL) (hch : CHr Z own_EL s.vm h0 vm h) (hS : s.Since vm k0) (hk : k0 ≤ h.size) (hM : own_MH l Z y code ml ret rm (.ref a :: argsL).toArray h Qc) (hpd : parseMethodDescriptor y.desc = some ⟨ps, rt⟩) (hln : argsL.length = ps.length) (hd : decode b pc = .ok (.invokevirtual index, 3)) (rest : List Value) (hs : st = (argsL.reverse ++ .ref a :: rest)) (W : Nat) (hd5 : (y.cls ≠ "java/lang/invoke/MethodHandle" ∧ y.cls ≠ "java/lang/invoke/VarHandle") ∧ rm.frames + 1 ≤ R.frames ∧ W + (ml + 11) + rm.locals ≤ R.locals ∧ cells + rm.cells ≤ R.cells ∧ slots + rm.slots ≤ R.slots) (hW : (rest.map fun v => v.category).sum = W) (hsz : Ls.size = ml0) (k : ∀ v T' L, Stand p l e R (s.setVm T'.vm) m args below meth c T' (locs ++ L) (cells + rm.cells) (slots + rm.slots) → s.Since T'.vm T'.heap.size → Z.Warmed39 T'.vm → T'.vm.findClass own = some m.cls → CHr Z own_EL vm h T'.vm T'.heap → CHr Z own_EL s.vm h0 T'.vm T'.heap → Qc v T'.heap L → Go (own_EndH Z) p e below s rc rs Q (T'.setTop (mkF m (pc + 3) Ls (v.toList ++ rest)))) : Go (own_EndH Z) p e below s rc rs Q (T.setTop (mkF m pc Ls st)) := by
  subst hs; obtain ⟨cB, kB, qa, qb, qc⟩ := isOf (s := s.setVm vm) hZ eT EX; obtain ⟨v, _, ⟨T', L', k', n'⟩, -, X', sc, gc, ⟨Lc, hQ, e1, e2, e3, hR⟩, q⟩ := X.virtualBackS hx hown (mvT hZ w1) (mvT hZ w2) (notFace_of_selects (args := #[]) (mvT hZ w3)) (mvT hZ w3) (mvT hZ w4) hd5.1 (backOfSH (W := W) hM hZ w5 w6 hd5.2.1 hd5.2.2.1 hE hch.1) qa qc (g := mkF m pc Ls (argsL.reverse ++ .ref a :: rest)) rfl (by rw [hml]; exact hsz) (Steps.refl _) (argsL := argsL) (rest := rest) (lenOf hpd hln) rfl (by show 2 * 0 + _ ≤ _; rw [hW]; omega) (hb hby hd) (fun _ _ => ⟨rfl, eT, hd5.2.2.2.1, hd5.2.2.2.2⟩); dsimp only [Pt.U, Pt.locs, Pt.cells, Pt.slots] at X' e1 e2 e3 q hQ sc gc hR; subst e1 e2 e3; exact goT q (k _ _ _ X' (foldS (T := T) hS (by rw [eT]; exact hk) sc gc) (State.Warmed39.trans hZ sc.1) (by rw [sc.1.alike.findClass]; exact hown) hR (hch.trans hR) hQ)
theorem c_initH (X : Stand p l e R (s.setVm vm) m args below meth c T locs cells slots) (hx : p.tables.exec = Jvm.exec) (hby : c.code = b) (hZ : Z.Warmed39 vm) {own : String} {index : Nat} (hown : vm.findClass own = some m.cls) {y : MethodName} {code : ByteArray} {ml ml0 : Nat} {rm : Room} {Qc : Option Value → Heap → List Loc → Prop} {ps : List FieldType} {rt : Option FieldType} (hml : c.maxLocals = ml0) (w1 : (Jvm.Cond.methodLink own index y).before a0 Z = true) (w2 : (Jvm.Cond.instanceMethod y).before a0 Z = true) (w3 : (Jvm.Cond.code y code ml none).before a0 Z = true) (w4 : (Jvm.Cond.initialized y.cls).before a0 Z = true) (hn : y.name = "<init>") {argsL : List Value} {a : Addr} (eT : T.heap = h) (hE : EW Z a0 own_EL) (hch : CHr Z own_EL s.vm h0 vm h) (hS : s.Since vm k0) (hk : k0 ≤ h.size) (hM : own_MH l Z y code ml none rm (.ref a :: argsL).toArray h Qc) (hpd : parseMethodDescriptor y.desc = some ⟨ps, rt⟩) (hln : argsL.length = ps.length) (hd : decode b pc = .ok (.invokespecial index, 3)) (rest : List Value) (hs : st = (argsL.reverse ++ .ref a :: rest)) (W : Nat) (hd5 : (y.cls ≠ "java/lang/invoke/MethodHandle" ∧ y.cls ≠ "java/lang/invoke/VarHandle") ∧ rm.frames + 1 ≤ R.frames ∧ W + (ml + 11) + rm.locals ≤ R.locals ∧ cells + rm.cells ≤ R.cells ∧ slots + rm.slots ≤ R.slots) (hW : (rest.map fun v => v.category).sum = W) (hsz : Ls.size = ml0) (k : ∀ v T' L, Stand p l e R (s.setVm T'.vm) m args below meth c T' (locs ++ L) (cells + rm.cells) (slots + rm.slots) → s.Since T'.vm T'.heap.size → Z.Warmed39 T'.vm → T'.vm.findClass own = some m.cls → CHr Z own_EL vm h T'.vm T'.heap → CHr Z own_EL s.vm h0 T'.vm T'.heap → Qc v T'.heap L → Go (own_EndH Z) p e below s rc rs Q (T'.setTop (mkF m (pc + 3) Ls (v.toList ++ rest)))) : Go (own_EndH Z) p e below s rc rs Q (T.setTop (mkF m pc Ls st)) := by
  subst hs; obtain ⟨v, _, ⟨T', L', k', n'⟩, -, X', sc, gc, ⟨Lc, hQ, e1, e2, e3, hR⟩, q⟩ := X.specialBackS hx hn hown (mvT hZ w1) (mvT hZ w2) (mvT hZ w3) hd5.1 (backOfSH (W := W) hM hZ w3 w4 hd5.2.1 hd5.2.2.1 hE hch.1) (g := mkF m pc Ls (argsL.reverse ++ .ref a :: rest)) rfl (by rw [hml]; exact hsz) (Steps.refl _) (a := a) (argsL := argsL) (rest := rest) (lenOf hpd hln) rfl (by show 2 * 0 + _ ≤ _; rw [hW]; omega) (hb hby hd) (fun _ _ => ⟨rfl, eT, hd5.2.2.2.1, hd5.2.2.2.2⟩); dsimp only [Pt.U, Pt.locs, Pt.cells, Pt.slots] at X' e1 e2 e3 q hQ sc gc hR; subst e1 e2 e3; exact goT q (k _ _ _ X' (foldS (T := T) hS (by rw [eT]; exact hk) sc gc) (State.Warmed39.trans hZ sc.1) (by rw [sc.1.alike.findClass]; exact hown) hR (hch.trans hR) hQ)
theorem c_retIH (X : Stand p l e R (s.setVm vm) m args below meth c T locs cells slots) (hx : p.tables.exec = Jvm.exec) (hby : c.code = b) (hZ : Z.Warmed39 vm) (hlk : meth.locks = false) {t : FieldType} (hret : meth.sig.returnType = some t) {z : Int32} (hd : decode b pc = .ok (.ireturn, 1)) (hn : narrow t (.int z) = (.int z)) (ht : t = .int ∨ t = .boolean ∨ t = .byte ∨ t = .char ∨ t = .short) (hc : cells ≤ rc ∧ slots ≤ rs) (eT : T.heap = h) (hh0 : s.heap = h0) (hE : EW Z a0 own_EL) (hch : CHr Z own_EL s.vm h0 vm h) (hS : s.Since vm k0) (hk : k0 ≤ h.size) (hq : Q (some (.int z)) h locs) : Go (own_EndH Z) p e below s rc rs Q (T.setTop (mkF m pc Ls ((.int z) :: st))) :=
  goRetH X hZ hE hch hh0 eT hS hk hx hlk hret hn (Or.inl ⟨rfl, ht, _, rfl⟩) (hb hby hd) hc.1 hc.2 hq
theorem c_retAH (X : Stand p l e R (s.setVm vm) m args below meth c T locs cells slots) (hx : p.tables.exec = Jvm.exec) (hby : c.code = b) (hZ : Z.Warmed39 vm) (hlk : meth.locks = false) {t : FieldType} (hret : meth.sig.returnType = some t) {v : Value} (hd : decode b pc = .ok (.areturn, 1)) (hn : narrow t v = v) (ht : t.isReference = true ∧ v.isRef = true) (hc : cells ≤ rc ∧ slots ≤ rs) (eT : T.heap = h) (hh0 : s.heap = h0) (hE : EW Z a0 own_EL) (hch : CHr Z own_EL s.vm h0 vm h) (hS : s.Since vm k0) (hk : k0 ≤ h.size) (hq : Q (some v) h locs) : Go (own_EndH Z) p e below s rc rs Q (T.setTop (mkF m pc Ls (v :: st))) :=
  goRetH X hZ hE hch hh0 eT hS hk hx hlk hret hn (Or.inr (Or.inr (Or.inr (Or.inr ⟨rfl, ht.1, ht.2⟩)))) (hb hby hd) hc.1 hc.2 hq
theorem c_ret0H (X : Stand p l e R (s.setVm vm) m args below meth c T locs cells slots) (hx : p.tables.exec = Jvm.exec) (hby : c.code = b) (hZ : Z.Warmed39 vm) (hlk : meth.locks = false) (hret : meth.sig.returnType = none) (hd : decode b pc = .ok (.return_, 1)) (hc : cells ≤ rc ∧ slots ≤ rs) (eT : T.heap = h) (hh0 : s.heap = h0) (hE : EW Z a0 own_EL) (hch : CHr Z own_EL s.vm h0 vm h) (hS : s.Since vm k0) (hk : k0 ≤ h.size) (hq : Q none h locs) : Go (own_EndH Z) p e below s rc rs Q (T.setTop (mkF m pc Ls [])) :=
  goRet0H X hZ hE hch hh0 eT hS hk hx hlk hret (hb hby hd) hc.1 hc.2 hq
end OwnCH
section OwnStart
variable {args : Array Value} {s : State} {a : Addr} {t : Term} {C n d : String} {k : Int32}
theorem own_eqI (h : (Cond.eq t (.int k)).value args s none s [] = some true) : t.eval args s none [] s = some (.int k) := by
  cases ht : t.eval args s none [] s with
  | none => simp [Cond.value, ht] at h
  | some x => cases x <;> simp [Cond.value, ht, Term.int_eval] at h ⊢; exact h
theorem own_neI (h : (Cond.not (Cond.eq t (.int k))).value args s none s [] = some true) {x : Int32} (e : t.eval args s none [] s = some (.int x)) : ¬ x = k := fun q => by
  subst q; simp [Cond.value, e, Term.int_eval] at h
theorem own_fI (ev : t.eval args s none [] s = some (.ref a)) (h : (Cond.eq (.field t C n d) (.int k)).value args s none s [] = some true) : Fld s s.heap a C n d (.int k) :=
  Fld.start ((fld_at ev).symm.trans (own_eqI h))
theorem own_fR {b : Addr} (ev : t.eval args s none [] s = some (.ref a)) (h : (Term.field t C n d).eval args s none [] s = some (.ref b)) : Fld s s.heap a C n d (.ref b) :=
  Fld.start ((fld_at ev).symm.trans h)
theorem own_len {c : Cell} {ty : FieldType} (ev : t.eval args s none [] s = some (.ref a)) (A : Arr s s.heap a c ty) (h : (Cond.eq (.length t) (.int k)).value args s none s [] = some true) : c.slots.size < 2 ^ 31 ∧ c.slots.size.toInt32 = k := by
  have e := own_eqI h
  have ha : s.arrayAt? a = some c := IntBox.arrayAt_of A.1 A.2.1 A.2.2
  by_cases hl : c.slots.size < 2 ^ 31
  · rw [len_f ev ha hl] at e; exact ⟨hl, by injection e with e; injection e⟩
  · simp [Term.eval, ev, ha, hl] at e
theorem own_el {c : Cell} {ty : FieldType} {j : Int32} {v : Int32} (ev : t.eval args s none [] s = some (.ref a)) (A : Arr s s.heap a c ty) (h : (Cond.eq (.elem t (.int j)) (.int v)).value args s none s [] = some true) : c.slots[j.toNatClampNeg]? = some (.int v) :=
  (elem_in (own_eqI h) ev (Term.int_eval j) A.1).2
end OwnStart
theorem own_wS {Z : State} {a0 : Array Value} (hw : ∀ d ∈ tables_1, d.before a0 Z = true) : ∀ a ∈ Bundle.stringAtoms, a.before a0 Z = true := by
  intro d hd
  simp only [Bundle.stringAtoms, List.mem_cons, List.not_mem_nil, or_false] at hd
  rcases hd with rfl | rfl | rfl | rfl | rfl | rfl | rfl
  · exact hw _ (List.mem_of_getElem? (i := 34) rfl)
  · exact hw _ (List.mem_of_getElem? (i := 33) rfl)
  · exact hw _ (List.mem_of_getElem? (i := 45) rfl)
  · exact hw _ (List.mem_of_getElem? (i := 46) rfl)
  · exact hw _ (List.mem_of_getElem? (i := 47) rfl)
  · exact hw _ (List.mem_of_getElem? (i := 48) rfl)
  · exact hw _ (List.mem_of_getElem? (i := 49) rfl)
theorem own_sh0 (z : Int32) : z >>> ((0 : Int32) &&& 31) = z := by
  apply Int32.toBitVec_inj.mp; simp
/-- a sign of 0 to 255 -/
def own_ch (c : Int32) : Prop := ∃ k : Fin 256, c = Int32.ofNat k.val
theorem own_all {P : Int32 → Prop} (h : ∀ k : Fin 256, P (Int32.ofNat k.val)) {c : Int32} (hc : own_ch c) : P c := by obtain ⟨k, rfl⟩ := hc; exact h k
theorem own_nc {c : Int32} (hc : own_ch c) : nar .char c = c := own_all (P := fun c => nar .char c = c) (by decide +kernel) hc
theorem own_nb {c : Int32} (hc : own_ch c) : nar .byte (c.toInt8.toInt32) = c.toInt8.toInt32 := own_all (P := fun c => nar .byte (c.toInt8.toInt32) = c.toInt8.toInt32) (by decide +kernel) hc
theorem own_le {c : Int32} (hc : own_ch c) : ¬ (255 : Int32) < c := own_all (P := fun c => ¬ (255 : Int32) < c) (by decide +kernel) hc
theorem own_46 {c : Int32} (hc : own_ch c) : c.toInt8.toInt32 = 46 ↔ c = 46 := own_all (P := fun c => c.toInt8.toInt32 = 46 ↔ c = 46) (by decide +kernel) hc
theorem own_bk {c : Int32} (hc : own_ch c) : ((c.toInt8.toInt32) &&& (255 : Int32)).toUInt32.toUInt16.toUInt32.toInt32 = c := own_all (P := fun c => ((c.toInt8.toInt32) &&& (255 : Int32)).toUInt32.toUInt16.toUInt32.toInt32 = c) (by decide +kernel) hc
theorem own_chm (x : Int32) : own_ch (x &&& 255) := by
  have h := Jvm.Kit.i32_mask x 255 (k := 8) (by decide) (by decide)
  refine ⟨⟨(x.toInt % 256).toNat, by omega⟩, ?_⟩
  rw [← Int32.toInt_inj, h, Int32.toInt_ofNat_of_lt (by show (x.toInt % 256).toNat < _; omega)]
  show x.toInt % 2 ^ 8 = (((x.toInt % 256).toNat : Nat) : Int)
  omega
theorem own_ch46 : own_ch 46 := ⟨46, by decide⟩
def own_vs (g c : Int32) : List Value := if g = 0 then [] else [.int (c.toInt8.toInt32)]
theorem own_vs0 {c : Int32} : own_vs 0 c = [] := if_pos rfl
theorem own_vs1 {c : Int32} : own_vs 1 c = [.int (c.toInt8.toInt32)] := if_neg (by decide)
def own_eq (g c g' c' : Int32) : Int32 := if g = g' ∧ (g = 0 ∨ c = c') then 1 else 0
theorem own_eq00 (c c' : Int32) : 1 = own_eq 0 c 0 c' := (if_pos ⟨rfl, Or.inl rfl⟩).symm
theorem own_eq01 (c c' : Int32) : 0 = own_eq 0 c 1 c' := (if_neg fun h => absurd h.1 (by decide)).symm
theorem own_eq10 (c c' : Int32) : 0 = own_eq 1 c 0 c' := (if_neg fun h => absurd h.1 (by decide)).symm
theorem own_eqT {c c' : Int32} (h : c = c') : 1 = own_eq 1 c 1 c' := (if_pos ⟨rfl, Or.inr h⟩).symm
theorem own_eqF {c c' : Int32} (h : ¬ c = c') : 0 = own_eq 1 c 1 c' := (if_neg fun q => q.2.elim (by decide) h).symm
theorem own_eqb (g c g' c' : Int32) : own_eq g c g' c' = 0 ∨ own_eq g c g' c' = 1 := by unfold own_eq; split <;> simp
theorem own_b8 {c c' : Int32} (h1 : own_ch c) (h2 : own_ch c') : c.toInt8.toInt32 = c'.toInt8.toInt32 ↔ c = c' := ⟨fun q => by rw [← own_bk h1, ← own_bk h2, q], fun q => by rw [q]⟩
def own_pk (i a b c : Int32) : Int32 := if i = 0 then a else if i = 1 then b else c
theorem own_pk0 {a b c : Int32} : own_pk 0 a b c = a := if_pos rfl
theorem own_pk1 {a b c : Int32} : own_pk 1 a b c = b := (if_neg (by decide)).trans (if_pos rfl)
theorem own_pk2 {a b c : Int32} : own_pk 2 a b c = c := (if_neg (by decide)).trans (if_neg (by decide))
def own_cj : List Int32 → Int32
  | [] => 1
  | x :: r => if x = 0 then 0 else own_cj r
theorem own_cj_z {x : Int32} {r : List Int32} (h : x = 0) : own_cj (x :: r) = 0 := if_pos h
theorem own_cj_n {x : Int32} {r : List Int32} (h : ¬ x = 0) : own_cj (x :: r) = own_cj r := if_neg h
theorem own_n01 {z : Int32} (h : z = 0 ∨ z = 1) : narrow .boolean (.int z) = .int z := by rcases h with rfl | rfl <;> rfl
/-- the string of the other record: the first's length and sign where q says so, else the second's -/
def own_o (q la ca lb cb lo co : Int32) : Prop := (¬ q = 0 ∧ lo = la ∧ co = ca) ∨ (q = 0 ∧ lo = lb ∧ co = cb)
theorem own_e {q la ca lb cb lo co : Int32} (h : own_o q la ca lb cb lo co) : own_eq la ca lo co = if ¬ q = 0 then 1 else own_eq la ca lb cb := by
  rcases h with ⟨h1, rfl, rfl⟩ | ⟨h1, rfl, rfl⟩
  · rw [if_pos h1]; exact if_pos ⟨rfl, Or.inr rfl⟩
  · rw [if_neg (fun k => k h1)]
theorem own_four (x : Int32) : x &&& 3 = 0 ∨ x &&& 3 = 1 ∨ x &&& 3 = 2 ∨ x &&& 3 = 3 := by
  have h := Jvm.Kit.i32_mask x 3 (k := 2) (by decide) (by decide)
  simp only [← Int32.toInt_inj, h, show (0 : Int32).toInt = 0 from by decide, show (1 : Int32).toInt = 1 from by decide, show (2 : Int32).toInt = 2 from by decide, show (3 : Int32).toInt = 3 from by decide]
  omega
theorem own_three (x : Int32) : (x &&& 3) % 3 = 0 ∨ (x &&& 3) % 3 = 1 ∨ (x &&& 3) % 3 = 2 := by
  rcases own_four x with h | h | h | h <;> rw [h] <;> decide
theorem own_bit (x : Int32) : x &&& 1 = 0 ∨ x &&& 1 = 1 := by
  have h := Jvm.Kit.i32_mask x 1 (k := 1) (by decide) (by decide)
  simp only [← Int32.toInt_inj, h, show (0 : Int32).toInt = 0 from by decide, show (1 : Int32).toInt = 1 from by decide]
  omega
section OwnK
variable {p : Program} {l : Launch} {e : Env} {R : Room} {s : State} {m : MethodId} {args a0 : Array Value} {below : List Frame} {meth : Method} {c : Code} {T Z : State} {locs : List Loc} {cells slots : Nat} {h : Heap}
/-- the class C has its Class object -/
def own_Mir (Z : State) (C : String) (q : Addr) : Prop := ∃ (c : ClassId) (k : Class), Z.vm.findClass C = some c ∧ Z.vm.classes[c]? = some k ∧ k.mirror = some q
theorem own_Mir.at {C : String} {q : Addr} (M : own_Mir Z C q) (hZ : Z.Warmed39 s.vm) : own_Mir s C q := by
  obtain ⟨c, k, h1, h2, h3⟩ := M
  obtain ⟨k', g1, g2⟩ := hZ.alike.2.2 _ _ h2
  exact ⟨c, k', by rw [hZ.alike.findClass]; exact h1, g1, by rw [g2]; exact h3⟩
theorem own_gcls (X : Stand p l e R s m args below meth c T locs cells slots) (hx : p.tables.exec = Jvm.exec) (hZ : Z.Warmed39 s.vm) {own C : String} {index : Nat} (hown : s.vm.findClass own = some m.cls)
    (w1 : (Jvm.Cond.methodLink own index ⟨"java/lang/Object", "getClass", "()Ljava/lang/Class;"⟩).before a0 Z = true) (w2 : (Jvm.Cond.declares ⟨"java/lang/Object", "getClass", "()Ljava/lang/Class;"⟩).before a0 Z = true) (w3 : (Jvm.Cond.noSuperclass "java/lang/Object").before a0 Z = true) (w4 : (Jvm.Cond.selects C ⟨"java/lang/Object", "getClass", "()Ljava/lang/Class;"⟩ ⟨"java/lang/Object", "getClass", "()Ljava/lang/Class;"⟩).before a0 Z = true)
    (w5 : (Jvm.Cond.instanceMethod ⟨"java/lang/Object", "getClass", "()Ljava/lang/Class;"⟩).before a0 Z = true) (w6 : (Jvm.Cond.native ⟨"java/lang/Object", "getClass", "()Ljava/lang/Class;"⟩).before a0 Z = true) (eT : T.heap = h) {a : Addr} (E : Exa Z h a C) {mr : Addr} (M : own_Mir Z C mr)
    {g : JFrame} (hg : g.method = m) (hsize : g.locals.size = c.maxLocals) {rest : List Value} (hs : g.stack = .ref a :: rest) (hd : decode c.code g.pc = .ok (.invokevirtual index, 3)) (hf : 1 ≤ R.frames) {W : Nat} (hW : 2 * g.monitorRoom + (rest.map fun v => v.category).sum ≤ W) (hl : W + (nativeFrameWords "java/lang/Object" "getClass" 1 + 11) ≤ R.locals) :
    ∃ T', Stand p l e R s m args below meth c T' locs cells slots ∧ T'.heap = h ∧ ∀ target, Steps p.tables e below (T'.setTop { g with pc := g.pc + 3, stack := .ref mr :: rest }) target → Steps p.tables e below (T.setTop g) target := by
  obtain ⟨cB, kB, i1, i2, i3⟩ := isOf hZ eT E
  obtain ⟨cc, kc, m1, m2, m3⟩ := M.at hZ
  cases i1.symm.trans m1
  obtain ⟨vm', X', q⟩ := X.getClassOf hx hown (mvT hZ w1) (mvT hZ w2) (nf_top (args := #[]) (mvT hZ w3)) (mvT hZ w4) (mvT hZ w5) (mvT hZ w6) m1 i3 m2 m3 hg hsize hs hd hf (by omega)
  exact ⟨_, X', eT, q⟩
theorem own_ldcK (X : Stand p l e R s m args below meth c T locs cells slots) (hx : p.tables.exec = Jvm.exec) (hZ : Z.Warmed39 s.vm) {own C : String} {index : Nat} (hown : s.vm.findClass own = some m.cls) (w : (Jvm.Cond.classLink own index C).before a0 Z = true) {mr : Addr} (M : own_Mir Z C mr) (eT : T.heap = h)
    {g : JFrame} (hg : g.method = m) (hd : decode c.code g.pc = .ok (.ldc index, 2)) : ∃ T', Stand p l e R s m args below meth c T' locs cells slots ∧ T'.heap = h ∧ ∀ target, Steps p.tables e below (T'.setTop { g with pc := g.pc + 2, stack := .ref mr :: g.stack }) target → Steps p.tables e below (T.setTop g) target := by
  obtain ⟨cc, kc, m1, m2, m3⟩ := M.at hZ
  obtain ⟨vm', X', q⟩ := X.ldcMirror hx (a := mr) hown (mv hZ w) (by simp [Term.eval, m1, m2, m3]) hg hd
  exact ⟨_, X', eT, q⟩
theorem own_nsroot {O K : String} {n : Nat} (w : (Jvm.Cond.noSuperclass O).before a0 Z = true) (wk : (Jvm.Cond.instantiable K n).before a0 Z = true) (hn : O ≠ K) : NS Z O K := by
  obtain ⟨c, k, h1, h2, h3, -, -⟩ := Cond.noSuperclass_spec w
  obtain ⟨t, kt, g1, -⟩ := Cond.instantiable_spec wk
  have ne := ids_ne h1 g1 hn
  refine ⟨c, t, h1, g1, fun fuel => ?_⟩
  cases fuel with
  | zero => rfl
  | succ f => simp [Vm.isSubclassAux, ne, h2, h3]
theorem own_no {C Sp K : String} {n : Nat} (w : (Jvm.Cond.superclass C Sp).before a0 Z = true) (wk : (Jvm.Cond.instantiable K n).before a0 Z = true) (q : NS Z C K) (hn : C ≠ K) : ∃ c t, Z.vm.findClass C = some c ∧ Z.vm.findClass K = some t ∧ Z.vm.assignable c t = false := by
  obtain ⟨c, t, h0, g0, n3⟩ := q
  obtain ⟨p, k, kp, h1, h2, h3, h4, h5, -, h7⟩ := Cond.superclass_spec h0 w
  obtain ⟨t', kt, g1, g2, g3, g4, -⟩ := Cond.instantiable_spec wk
  cases g0.symm.trans g1
  have ne := ids_ne h0 g0 hn
  have g5 : kt.isInterface = false := by cases hi : kt.isInterface <;> simp_all
  refine ⟨c, t, h0, g0, ?_⟩
  show Z.vm.assignableAux (255 + 1) c t = false
  simp [Vm.assignableAux, ne, h2, g2, h5, g3, g5, Vm.isSubclass, n3]
end OwnK
theorem own_EW {Z : State} {a0 : Array Value} (hw : ∀ d ∈ tables_1, d.before a0 Z = true) : EW Z a0 own_EL := EW.cons (text := "a") (hw _ (List.mem_of_getElem? (i := 124) rfl)) (by decide) (EW.cons (text := "b") (hw _ (List.mem_of_getElem? (i := 154) rfl)) (by decide) (EW.cons (text := "c") (hw _ (List.mem_of_getElem? (i := 155) rfl)) (by decide) (EW.cons (text := "x") (hw _ (List.mem_of_getElem? (i := 55) rfl)) (by decide) (EW.cons (text := "") (hw _ (List.mem_of_getElem? (i := 44) rfl)) (by decide) (EW.nil)))))
theorem d15_0 : decode jdk_52_method_21_code 0 = .ok (.iconst 0, 1) := by decide +kernel
theorem d15_1 : decode jdk_52_method_21_code 1 = .ok (.istore 5, 2) := by decide +kernel
theorem d15_3 : decode jdk_52_method_21_code 3 = .ok (.iload 5, 2) := by decide +kernel
theorem d15_5 : decode jdk_52_method_21_code 5 = .ok (.iload 4, 2) := by decide +kernel
theorem d15_7 : decode jdk_52_method_21_code 7 = .ok (.if_icmp .ge 37, 3) := by decide +kernel
theorem d15_10 : decode jdk_52_method_21_code 10 = .ok (.aload_n 0, 1) := by decide +kernel
theorem d15_11 : decode jdk_52_method_21_code 11 = .ok (.iload_n 1, 1) := by decide +kernel
theorem d15_12 : decode jdk_52_method_21_code 12 = .ok (.caload, 1) := by decide +kernel
theorem d15_13 : decode jdk_52_method_21_code 13 = .ok (.istore 6, 2) := by decide +kernel
theorem d15_15 : decode jdk_52_method_21_code 15 = .ok (.iload 6, 2) := by decide +kernel
theorem d15_17 : decode jdk_52_method_21_code 17 = .ok (.sipush 255, 3) := by decide +kernel
theorem d15_20 : decode jdk_52_method_21_code 20 = .ok (.if_icmp .le 6, 3) := by decide +kernel
theorem d15_26 : decode jdk_52_method_21_code 26 = .ok (.aload_n 2, 1) := by decide +kernel
theorem d15_27 : decode jdk_52_method_21_code 27 = .ok (.iload_n 3, 1) := by decide +kernel
theorem d15_28 : decode jdk_52_method_21_code 28 = .ok (.iload 6, 2) := by decide +kernel
theorem d15_30 : decode jdk_52_method_21_code 30 = .ok (.i2b, 1) := by decide +kernel
theorem d15_31 : decode jdk_52_method_21_code 31 = .ok (.bastore, 1) := by decide +kernel
theorem d15_32 : decode jdk_52_method_21_code 32 = .ok (.iinc 1 1, 3) := by decide +kernel
theorem d15_35 : decode jdk_52_method_21_code 35 = .ok (.iinc 3 1, 3) := by decide +kernel
theorem d15_38 : decode jdk_52_method_21_code 38 = .ok (.iinc 5 1, 3) := by decide +kernel
theorem d15_41 : decode jdk_52_method_21_code 41 = .ok (.goto (-38), 3) := by decide +kernel
theorem d15_44 : decode jdk_52_method_21_code 44 = .ok (.iload 4, 2) := by decide +kernel
theorem d15_46 : decode jdk_52_method_21_code 46 = .ok (.ireturn, 1) := by decide +kernel
theorem pn_15 : plainName "java/lang/StringUTF16" = true := by first | (simp [plainName, overriddenIn]; done) | decide +kernel
def QCP1 (Z : State) (a1 a3 : Addr) (ka kb : ClassId) (c0 : Int32) (h0 : Heap) (n0 : Nat) (v : Option Value) (h : Heap) (L : List Loc) : Prop := v = some (.int (1 : Int32)) ∧ Fr n0 L ∧ Keep h0 h [a3] ∧ vB Z h a3 kb 1 [(.int (c0.toInt8.toInt32))]
theorem rmCP1 {l : Launch} {Z : State} {a0 : Array Value} (hw : HW Z a0) (a1 a3 : Addr) (ka kb : ClassId) (c0 : Int32) (h0 : Heap) (n0 : Nat) (Z0 : n0 ≤ h0.size) (P0 : Arv Z h0 a1 ka .char (1 : Int32) [(.int c0)] (.int (0 : Int32))) (P1 : vB Z h0 a3 kb 1 [.int 0]) (P2 : n0 ≤ a3) (P3 : a1 ≠ a3) (ho0 : own_ch c0) : own_M l Z ⟨"java/lang/StringUTF16", "compress", "([CI[BII)I"⟩ jdk_52_method_21_code 7 (some .int) (rmk 0 0 0 0) #[.ref a1, .int 0, .ref a3, .int 0, .int 1] h0 (QCP1 Z a1 a3 ka kb c0 h0 n0) := by
 refine own_body rfl (plainFor_of_name pn_15) ?_
 intro p e s m below meth c s₁ hx hby hml hown hnm hlk hret X0 e0 hZ
 have N0 := Fr.nil n0
 show Go _ p e below s _ _ _ (s₁.setTop (mkF m 0 #[rv a1, iv 0, rv a3, iv 0, iv 1, .unset, .unset] []))
 refine c_iconst X0 hx hby 0 d15_0 rfl <| c_istore X0 hx hby _ d15_1 rfl <| c_iload X0 hx hby d15_3 rfl <| c_iload X0 hx hby d15_5 rfl <| c_icmpNo X0 hx hby d15_7 (by decide) <| c_aloadN X0 hx hby d15_10 rfl rfl <| c_iloadN X0 hx hby d15_11 rfl <| c_cal X0 hx hby hZ e0 P0 (by decide) (.int c0) rfl d15_12 <| c_istore X0 hx hby #[rv a1, iv 0, rv a3, iv 0, iv 1, iv 0, iv c0] d15_13 rfl <| c_iload X0 hx hby d15_15 rfl <| c_sipush X0 hx hby 255 d15_17 rfl <| c_icmpYes X0 hx hby 26 d15_20 (flt (own_le ho0)).2.2.2 (by decide) <| c_aloadN X0 hx hby d15_26 rfl rfl <| c_iloadN X0 hx hby d15_27 rfl <| c_iload X0 hx hby d15_28 rfl <| c_i2b X0 hx hby d15_30 <| c_bst X0 hx hby hZ e0 P1 (by decide) 0 rfl (Nat.le_of_ble_eq_true rfl) d15_31 fun T2 h2 X2 e2 W2 V2 => ?_
 rw [own_nb ho0] at V2
 have V2 : vB Z h2 a3 kb 1 [(.int (c0.toInt8.toInt32))] := V2
 have KK2 := (Keep.refl h0 [a3]).wr W2 (Or.inl (List.mem_of_getElem? (i := 0) rfl))
 have ZN2 := Nat.le_trans Z0 (Keep.of_wr W2).1
 have NN2 := Fr.snoc X2 N0 P2
 refine c_sh 32 [] rfl rfl <| c_iinc X2 hx hby #[rv a1, iv 1, rv a3, iv 0, iv 1, iv 0, iv c0] d15_32 rfl rfl <| c_iinc X2 hx hby #[rv a1, iv 1, rv a3, iv 1, iv 1, iv 0, iv c0] d15_35 rfl rfl <| c_iinc X2 hx hby #[rv a1, iv 1, rv a3, iv 1, iv 1, iv 1, iv c0] d15_38 rfl rfl <| c_goto X2 hx hby 3 d15_41 (by decide) <| c_iload X2 hx hby d15_3 rfl <| c_iload X2 hx hby d15_5 rfl <| c_icmpYes X2 hx hby 44 d15_7 (by decide) (by decide) <| c_iload X2 hx hby d15_44 rfl ?_
 refine c_retI X2 hx hby hlk hret d15_46 rfl (by simp) (by decide) e2 ⟨rfl, NN2, KK2, V2⟩
theorem d14_0 : decode jdk_52_method_16_code 0 = .ok (.iload_n 2, 1) := by decide +kernel
theorem d14_1 : decode jdk_52_method_16_code 1 = .ok (.newarray .byte, 2) := by decide +kernel
theorem d14_3 : decode jdk_52_method_16_code 3 = .ok (.astore_n 3, 1) := by decide +kernel
theorem d14_4 : decode jdk_52_method_16_code 4 = .ok (.aload_n 0, 1) := by decide +kernel
theorem d14_5 : decode jdk_52_method_16_code 5 = .ok (.iload_n 1, 1) := by decide +kernel
theorem d14_6 : decode jdk_52_method_16_code 6 = .ok (.aload_n 3, 1) := by decide +kernel
theorem d14_7 : decode jdk_52_method_16_code 7 = .ok (.iconst 0, 1) := by decide +kernel
theorem d14_8 : decode jdk_52_method_16_code 8 = .ok (.iload_n 2, 1) := by decide +kernel
theorem d14_9 : decode jdk_52_method_16_code 9 = .ok (.invokestatic 115, 3) := by decide +kernel
theorem d14_12 : decode jdk_52_method_16_code 12 = .ok (.istore 4, 2) := by decide +kernel
theorem d14_14 : decode jdk_52_method_16_code 14 = .ok (.iload 4, 2) := by decide +kernel
theorem d14_16 : decode jdk_52_method_16_code 16 = .ok (.iload_n 2, 1) := by decide +kernel
theorem d14_17 : decode jdk_52_method_16_code 17 = .ok (.if_icmp .eq 40, 3) := by decide +kernel
theorem d14_57 : decode jdk_52_method_16_code 57 = .ok (.aload_n 3, 1) := by decide +kernel
theorem d14_58 : decode jdk_52_method_16_code 58 = .ok (.areturn, 1) := by decide +kernel
theorem pn_14 : plainName "java/lang/StringUTF16" = true := by first | (simp [plainName, overriddenIn]; done) | decide +kernel
theorem pd_0 : parseMethodDescriptor "([CI[BII)I" = some ⟨[(.array .char), .int, (.array .byte), .int, .int], some .int⟩ := by decide +kernel
def QCM1 (Z : State) (a1 : Addr) (ka : ClassId) (c0 : Int32) (h0 : Heap) (n0 : Nat) (v : Option Value) (h : Heap) (L : List Loc) : Prop := ∃ (b : Addr), ∃ (kb : ClassId), v = some (.ref b) ∧ Fr n0 L ∧ h0.size ≤ b ∧ n0 ≤ b ∧ Keep h0 h [] ∧ Exa Z h b "[B" ∧ vB Z h b kb 1 [(.int (c0.toInt8.toInt32))]
theorem rmCM1 {l : Launch} {Z : State} {a0 : Array Value} (hw : HW Z a0) (a1 : Addr) (ka : ClassId) (c0 : Int32) (h0 : Heap) (n0 : Nat) (Z0 : n0 ≤ h0.size) (P0 : Arv Z h0 a1 ka .char (1 : Int32) [(.int c0)] (.int (0 : Int32))) (ho0 : own_ch c0) : own_M l Z ⟨"java/lang/StringUTF16", "compress", "([CII)[B"⟩ jdk_52_method_16_code 6 (some (.array .byte)) (rmk 1 1 1 18) #[.ref a1, .int 0, .int 1] h0 (QCM1 Z a1 ka c0 h0 n0) := by
 refine own_body rfl (plainFor_of_name pn_14) ?_
 intro p e s m below meth c s₁ hx hby hml hown hnm hlk hret X0 e0 hZ
 have N0 := Fr.nil n0
 show Go _ p e below s _ _ _ (s₁.setTop (mkF m 0 #[rv a1, iv 0, iv 1, .unset, .unset, .unset] []))
 refine c_iloadN X0 hx hby d14_0 rfl <| c_newP X0 hx hby hZ (gw hw 45 rfl) e0 d14_1 (by decide) 1 (by decide) (by decide) "[B" (by first | rfl | decide) fun T8 h8 k8 b8 g8 X8 e8 E8 A8 AE8 => ?_
 have G_b8 := Nat.le_trans Z0 (Nat.le_of_eq g8.symm)
 have KK8 := (Keep.refl h0 []).ext E8
 have ZN8 := Nat.le_trans Z0 E8.1
 have V8 : vB Z h8 b8 k8 1 [.int 0] := (Arv.new A8 (by decide)).pad (pad_rep [] (.int (0 : Int32)) 1)
 refine c_sh 3 [.ref b8] rfl rfl <| c_astoreN X8 hx hby _ d14_3 rfl rfl <| c_aloadN X8 hx hby d14_4 rfl rfl <| c_iloadN X8 hx hby d14_5 rfl <| c_aloadN X8 hx hby d14_6 rfl rfl <| c_iconst X8 hx hby 0 d14_7 rfl <| c_iloadN X8 hx hby d14_8 rfl <| c_shL #[rv a1, iv 0, iv 1, rv b8, .unset, .unset] rfl ?_
 have cc10 := P0.ext E8
 have ne11 : a1 ≠ b8 := (Nat.ne_of_lt (Nat.lt_of_lt_of_le P0.lt (Nat.le_of_eq g8.symm)))
 refine c_callS X8 hx hby hZ hown hml (gw hw 118 rfl) (gw hw 119 rfl) (gw hw 116 rfl) (gw hw 120 rfl) e8 (rmCP1 hw a1 b8 ka k8 c0 h8 n0 ZN8 cc10 V8 G_b8 ne11 ho0) pd_0 rfl d14_9 [] rfl 0 (by decide) rfl rfl fun o9 T9 L9 X9 hQ9 => ?_
 obtain ⟨rfl, N9q, K9, u9_1⟩ := hQ9
 have N9 := Fr.app N0 N9q
 have KK9 := KK8.trans K9 (allS (P := fun x => x ∈ [] ∨ h0.size ≤ x) (Or.inr (Nat.le_trans (Keep.refl h0 []).1 (Nat.le_of_eq g8.symm))) all0)
 have ZN9 := Nat.le_trans ZN8 K9.1
 refine c_sh 12 [.int 1] rfl rfl <| c_istore X9 hx hby _ d14_12 rfl <| c_iload X9 hx hby d14_14 rfl <| c_iloadN X9 hx hby d14_16 rfl <| c_icmpYes X9 hx hby 57 d14_17 (teq (rfl : (1 : Int32) = (1 : Int32))).1 (by decide) <| c_aloadN X9 hx hby d14_57 rfl rfl <| c_shL #[rv a1, iv 0, iv 1, rv b8, iv 1, .unset] rfl ?_
 have cc12 := AE8.keep K9
 exact c_retA X9 hx hby hlk hret d14_58 rfl ⟨rfl, rfl⟩ (by decide) rfl ⟨b8, k8, rfl, N9, (Nat.le_trans (Keep.refl h0 []).1 (Nat.le_of_eq g8.symm)), G_b8, KK9, cc12, u9_1⟩
theorem d16_0 : decode jdk_52_method_15_code 0 = .ok (.iload_n 1, 1) := by decide +kernel
theorem d16_1 : decode jdk_52_method_15_code 1 = .ok (.aload_n 0, 1) := by decide +kernel
theorem d16_2 : decode jdk_52_method_15_code 2 = .ok (.arraylength, 1) := by decide +kernel
theorem d16_3 : decode jdk_52_method_15_code 3 = .ok (.isub, 1) := by decide +kernel
theorem d16_4 : decode jdk_52_method_15_code 4 = .ok (.bipush 31, 2) := by decide +kernel
theorem d16_6 : decode jdk_52_method_15_code 6 = .ok (.iushr, 1) := by decide +kernel
theorem d16_7 : decode jdk_52_method_15_code 7 = .ok (.i2b, 1) := by decide +kernel
theorem d16_8 : decode jdk_52_method_15_code 8 = .ok (.ireturn, 1) := by decide +kernel
theorem pn_16 : plainName "java/lang/StringUTF16" = true := by first | (simp [plainName, overriddenIn]; done) | decide +kernel
def QCA1 (Z : State) (a1 : Addr) (kb : ClassId) (vs1 : List Value) (h0 : Heap) (n0 : Nat) (v : Option Value) (h : Heap) (L : List Loc) : Prop := v = some (.int (0 : Int32)) ∧ Fr n0 L ∧ h = h0
theorem rmCA1 {l : Launch} {Z : State} {a0 : Array Value} (hw : HW Z a0) (a1 : Addr) (kb : ClassId) (vs1 : List Value) (h0 : Heap) (n0 : Nat) (Z0 : n0 ≤ h0.size) (P0 : vB Z h0 a1 kb 1 vs1) : own_M l Z ⟨"java/lang/StringUTF16", "coderFromArrayLen", "([BI)B"⟩ jdk_52_method_15_code 2 (some .byte) (rmk 0 0 0 0) #[.ref a1, .int 1] h0 (QCA1 Z a1 kb vs1 h0 n0) := by
 refine own_body rfl (plainFor_of_name pn_16) ?_
 intro p e s m below meth c s₁ hx hby hml hown hnm hlk hret X0 e0 hZ
 have N0 := Fr.nil n0
 show Go _ p e below s _ _ _ (s₁.setTop (mkF m 0 #[rv a1, iv 1] []))
 refine c_iloadN X0 hx hby d16_0 rfl <| c_aloadN X0 hx hby d16_1 rfl rfl <| c_alen X0 hx hby hZ e0 P0 d16_2 <| c_isub X0 hx hby d16_3 <| c_sh 4 [.int 0] rfl rfl <| c_bipush X0 hx hby 31 d16_4 rfl <| c_iushr X0 hx hby d16_6 <| c_i2b X0 hx hby d16_7 ?_
 rw [show ((((0 : Int32).toUInt32 >>> ((31 : Int32) &&& 31).toUInt32).toInt32).toInt8.toInt32) = (0 : Int32) from by decide]
 refine c_sh 8 [.int 0] rfl rfl ?_
 refine c_retI X0 hx hby hlk hret d16_8 rfl (by simp) (by decide) e0 ⟨rfl, N0, rfl⟩
theorem d7_0 : decode jdk_42_method_149_code 0 = .ok (.aload_n 0, 1) := by decide +kernel
theorem d7_1 : decode jdk_42_method_149_code 1 = .ok (.invokespecial 1, 3) := by decide +kernel
theorem d7_4 : decode jdk_42_method_149_code 4 = .ok (.iload_n 3, 1) := by decide +kernel
theorem d7_5 : decode jdk_42_method_149_code 5 = .ok (.ifCond .ne 22, 3) := by decide +kernel
theorem d7_27 : decode jdk_42_method_149_code 27 = .ok (.getstatic 38, 3) := by decide +kernel
theorem d7_30 : decode jdk_42_method_149_code 30 = .ok (.ifCond .eq 28, 3) := by decide +kernel
theorem d7_33 : decode jdk_42_method_149_code 33 = .ok (.aload_n 1, 1) := by decide +kernel
theorem d7_34 : decode jdk_42_method_149_code 34 = .ok (.iload_n 2, 1) := by decide +kernel
theorem d7_35 : decode jdk_42_method_149_code 35 = .ok (.iload_n 3, 1) := by decide +kernel
theorem d7_36 : decode jdk_42_method_149_code 36 = .ok (.invokestatic 177, 3) := by decide +kernel
theorem d7_39 : decode jdk_42_method_149_code 39 = .ok (.astore 5, 2) := by decide +kernel
theorem d7_41 : decode jdk_42_method_149_code 41 = .ok (.aload_n 0, 1) := by decide +kernel
theorem d7_42 : decode jdk_42_method_149_code 42 = .ok (.aload 5, 2) := by decide +kernel
theorem d7_44 : decode jdk_42_method_149_code 44 = .ok (.iload_n 3, 1) := by decide +kernel
theorem d7_45 : decode jdk_42_method_149_code 45 = .ok (.invokestatic 47, 3) := by decide +kernel
theorem d7_48 : decode jdk_42_method_149_code 48 = .ok (.putfield 15, 3) := by decide +kernel
theorem d7_51 : decode jdk_42_method_149_code 51 = .ok (.aload_n 0, 1) := by decide +kernel
theorem d7_52 : decode jdk_42_method_149_code 52 = .ok (.aload 5, 2) := by decide +kernel
theorem d7_54 : decode jdk_42_method_149_code 54 = .ok (.putfield 9, 3) := by decide +kernel
theorem d7_57 : decode jdk_42_method_149_code 57 = .ok (.return_, 1) := by decide +kernel
theorem pn_7 : plainName "java/lang/String" = true := by first | (simp [plainName, overriddenIn]; done) | decide +kernel
theorem pd_1 : parseMethodDescriptor "([CII)[B" = some ⟨[(.array .char), .int, .int], some (.array .byte)⟩ := by decide +kernel
theorem pd_2 : parseMethodDescriptor "([BI)B" = some ⟨[(.array .byte), .int], some .byte⟩ := by decide +kernel
def QSI1 (Z : State) (a1 a2 : Addr) (w0 : Int32) (u1 u2 : Value) (ka : ClassId) (c0 : Int32) (h0 : Heap) (n0 : Nat) (v : Option Value) (h : Heap) (L : List Loc) : Prop := ∃ (b : Addr), ∃ (kb : ClassId), v = none ∧ Fr n0 L ∧ Keep h0 h [a1] ∧ h0.size ≤ b ∧ n0 ≤ b ∧ Exa Z h b "[B" ∧ vB Z h b kb 1 [(.int (c0.toInt8.toInt32))] ∧ fV Z h a1 b ∧ fC Z h a1
theorem rmSI1 {l : Launch} {Z : State} {a0 : Array Value} (hw : HW Z a0) (a1 a2 : Addr) (w0 : Int32) (u1 u2 : Value) (ka : ClassId) (c0 : Int32) (h0 : Heap) (n0 : Nat) (Z0 : n0 ≤ h0.size) (P0 : sCS Z w0) (P1 : Old Z n0 h0) (P2 : eS Z h0 a1) (P3 : Fld Z h0 a1 "java/lang/String" "value" "[B" u1) (P4 : Fld Z h0 a1 "java/lang/String" "coder" "B" u2) (P5 : n0 ≤ a1) (P6 : Arv Z h0 a2 ka .char (1 : Int32) [(.int c0)] (.int (0 : Int32))) (P7 : a1 ≠ a2) (hw0 : ¬ w0 = 0) (ho0 : own_ch c0) : own_M l Z ⟨"java/lang/String", "<init>", "([CIILjava/lang/Void;)V"⟩ jdk_42_method_149_code 6 none (rmk 2 1 1 35) #[.ref a1, .ref a2, .int 0, .int 1, .null] h0 (QSI1 Z a1 a2 w0 u1 u2 ka c0 h0 n0) := by
 refine own_body rfl (plainFor_of_name pn_7) ?_
 intro p e s m below meth c s₁ hx hby hml hown hnm hlk hret X0 e0 hZ
 have N0 := Fr.nil n0
 show Go _ p e below s _ _ _ (s₁.setTop (mkF m 0 #[rv a1, rv a2, iv 0, iv 1, .val .null, .unset] []))
 refine c_aloadN X0 hx hby d7_0 rfl rfl ?_
 obtain ⟨T27, X27, e27, st27⟩ := initO X0 hx hZ hown (gw hw 43 rfl) (gw hw 20 rfl) (gw hw 21 rfl) e0 (g := (mkF m 1 #[rv a1, rv a2, iv 0, iv 1, .val .null, .unset] [.ref a1])) rfl (by rw [hml]; rfl) rfl (hb hby d7_1) (by decide) (W := 0) (by show 2 * 0 + _ ≤ _; exact Nat.le_of_eq rfl) (by decide)
 refine go st27 ?_
 show Go _ p e below s _ _ _ (T27.setTop (mkF m 4 #[rv a1, rv a2, iv 0, iv 1, .val .null, .unset] []))
 refine c_iloadN X27 hx hby d7_4 rfl <| c_ifYes X27 hx hby 27 d7_5 (by decide) (by decide) <| c_gets X27 hx hby hZ hown (gw hw 113 rfl) Via.refl e27 (P0.ext P1.2) d7_27 fun T28 X28 e28 => ?_
 refine c_sh 30 [.int w0] rfl rfl <| c_ifNo X28 hx hby d7_30 ((if0 _ _).trans (feq hw0).1) <| c_aloadN X28 hx hby d7_33 rfl rfl <| c_iloadN X28 hx hby d7_34 rfl <| c_iloadN X28 hx hby d7_35 rfl <| c_callS X28 hx hby hZ hown hml (gw hw 114 rfl) (gw hw 115 rfl) (gw hw 116 rfl) (gw hw 117 rfl) e28 (rmCM1 hw a2 ka c0 h0 n0 Z0 P6 ho0) pd_1 rfl d7_36 [] rfl 0 (by decide) rfl rfl fun o29 T29 L29 X29 hQ29 => ?_
 obtain ⟨b29, kb29, rfl, N29q, u29_0, u29_1, K29, u29_3, u29_4⟩ := hQ29
 have N29 := Fr.app N0 N29q
 have G_b29 := Nat.le_trans Z0 u29_0
 have KK29 := (Keep.refl h0 [a1]).trans K29 all0
 have ZN29 := Nat.le_trans Z0 K29.1
 have OL29 := P1.keep K29 all0
 refine c_sh 39 [.ref b29] rfl rfl <| c_astore X29 hx hby _ d7_39 rfl rfl <| c_aloadN X29 hx hby d7_41 rfl rfl <| c_aload X29 hx hby d7_42 rfl rfl <| c_iloadN X29 hx hby d7_44 rfl <| c_shL #[rv a1, rv a2, iv 0, iv 1, .val .null, rv b29] rfl <| c_callS X29 hx hby hZ hown hml (gw hw 121 rfl) (gw hw 122 rfl) (gw hw 116 rfl) (gw hw 123 rfl) rfl (rmCA1 hw b29 kb29 [(.int (c0.toInt8.toInt32))] (T29.heap) n0 ZN29 u29_4) pd_2 rfl d7_45 [.ref a1] rfl 1 (by decide) rfl rfl fun o30 T30 L30 X30 hQ30 => ?_
 obtain ⟨rfl, N30q, e30⟩ := hQ30
 have N30 := Fr.app N29 N30q
 refine c_sh 48 [.int 0, .ref a1] rfl rfl ?_
 have cc31 := P4.keep K29 nin0
 have cc32 := P2.keep K29
 refine c_putn X30 hx hby hZ hown (gw hw 51 rfl) Via.refl e30 (.int 0) cc31 cc32 (Or.inr ⟨(gw hw 47 rfl), rfl, hnm⟩) (gw hw 33 rfl) .byte (by decide) rfl rfl d7_48 fun T33 h33 X33 e33 W33 => ?_
 have Fw33 := cc31.same W33
 have ne34 : b29 ≠ a1 := (Ne.symm (Nat.ne_of_lt (Nat.lt_of_lt_of_le P2.lt u29_0)))
 have KK33 := KK29.wr W33 (Or.inl (List.mem_of_getElem? (i := 0) rfl))
 have ZN33 := Nat.le_trans ZN29 (Keep.of_wr W33).1
 have NN33 := Fr.snoc X33 N30 P5
 have OL33 := OL29.wr W33 P5
 refine c_sh 51 [] rfl rfl <| c_aloadN X33 hx hby d7_51 rfl rfl <| c_aload X33 hx hby d7_52 rfl rfl ?_
 have cc35 := (P3.keep K29 nin0).other W33 (Or.inr (slot_ne (Or.inr (gw hw 46 rfl)) (Or.inr (gw hw 47 rfl)) (by decide) (t := (.array .byte)) (t' := .byte) (by decide) (by decide)))
 have cc36 := cc32.wr W33
 refine c_putf X33 hx hby hZ hown (gw hw 50 rfl) Via.refl e33 cc35 cc36 (Or.inr ⟨(gw hw 46 rfl), rfl, hnm⟩) (gw hw 33 rfl) (.array .byte) (by decide) rfl rfl d7_54 fun T37 h37 X37 e37 W37 => ?_
 have Fw37 := cc35.same W37
 have KK37 := KK33.wr W37 (Or.inl (List.mem_of_getElem? (i := 0) rfl))
 have ZN37 := Nat.le_trans ZN33 (Keep.of_wr W37).1
 have NN37 := Fr.snoc X37 NN33 P5
 have OL37 := OL33.wr W37 P5
 refine c_sh 57 [] rfl rfl ?_
 have cc38 := (u29_3.wr W33).wr W37
 have cc39 := (u29_4.other W33 ne34).other W37 ne34
 have cc40 := Fw33.other W37 (Or.inr (slot_ne (Or.inr (gw hw 47 rfl)) (Or.inr (gw hw 46 rfl)) (by decide) (t := .byte) (t' := (.array .byte)) (by decide) (by decide)))
 exact c_ret0 X37 hx hby hlk hret d7_57 (by decide) e37 ⟨b29, kb29, rfl, NN37, KK37, (Nat.le_trans (Keep.refl h0 [a1]).1 u29_0), u29_1, cc38, cc39, Fw37, cc40⟩
theorem d6_0 : decode jdk_42_method_3_code 0 = .ok (.aload_n 0, 1) := by decide +kernel
theorem d6_1 : decode jdk_42_method_3_code 1 = .ok (.aload_n 1, 1) := by decide +kernel
theorem d6_2 : decode jdk_42_method_3_code 2 = .ok (.iconst 0, 1) := by decide +kernel
theorem d6_3 : decode jdk_42_method_3_code 3 = .ok (.aload_n 1, 1) := by decide +kernel
theorem d6_4 : decode jdk_42_method_3_code 4 = .ok (.arraylength, 1) := by decide +kernel
theorem d6_5 : decode jdk_42_method_3_code 5 = .ok (.aconst_null, 1) := by decide +kernel
theorem d6_6 : decode jdk_42_method_3_code 6 = .ok (.invokespecial 27, 3) := by decide +kernel
theorem d6_9 : decode jdk_42_method_3_code 9 = .ok (.return_, 1) := by decide +kernel
theorem pn_6 : plainName "java/lang/String" = true := by first | (simp [plainName, overriddenIn]; done) | decide +kernel
theorem pd_3 : parseMethodDescriptor "([CIILjava/lang/Void;)V" = some ⟨[(.array .char), .int, .int, (.object "java/lang/Void")], none⟩ := by decide +kernel
def QSJ1 (Z : State) (a1 a2 : Addr) (w0 : Int32) (u1 u2 : Value) (ka : ClassId) (c0 : Int32) (h0 : Heap) (n0 : Nat) (v : Option Value) (h : Heap) (L : List Loc) : Prop := ∃ (b : Addr), ∃ (kb : ClassId), v = none ∧ Fr n0 L ∧ Keep h0 h [a1] ∧ h0.size ≤ b ∧ n0 ≤ b ∧ Exa Z h b "[B" ∧ vB Z h b kb 1 [(.int (c0.toInt8.toInt32))] ∧ fV Z h a1 b ∧ fC Z h a1
theorem rmSJ1 {l : Launch} {Z : State} {a0 : Array Value} (hw : HW Z a0) (a1 a2 : Addr) (w0 : Int32) (u1 u2 : Value) (ka : ClassId) (c0 : Int32) (h0 : Heap) (n0 : Nat) (Z0 : n0 ≤ h0.size) (P0 : sCS Z w0) (P1 : Old Z n0 h0) (P2 : eS Z h0 a1) (P3 : Fld Z h0 a1 "java/lang/String" "value" "[B" u1) (P4 : Fld Z h0 a1 "java/lang/String" "coder" "B" u2) (P5 : n0 ≤ a1) (P6 : Arv Z h0 a2 ka .char (1 : Int32) [(.int c0)] (.int (0 : Int32))) (P7 : a1 ≠ a2) (hw0 : ¬ w0 = 0) (ho0 : own_ch c0) : own_M l Z ⟨"java/lang/String", "<init>", "([C)V"⟩ jdk_42_method_3_code 2 none (rmk 3 1 1 52) #[.ref a1, .ref a2] h0 (QSJ1 Z a1 a2 w0 u1 u2 ka c0 h0 n0) := by
 refine own_body rfl (plainFor_of_name pn_6) ?_
 intro p e s m below meth c s₁ hx hby hml hown hnm hlk hret X0 e0 hZ
 have N0 := Fr.nil n0
 show Go _ p e below s _ _ _ (s₁.setTop (mkF m 0 #[rv a1, rv a2] []))
 refine c_aloadN X0 hx hby d6_0 rfl rfl <| c_aloadN X0 hx hby d6_1 rfl rfl <| c_iconst X0 hx hby 0 d6_2 rfl <| c_aloadN X0 hx hby d6_3 rfl rfl <| c_alen X0 hx hby hZ e0 P6 d6_4 <| c_aconstNull X0 hx hby d6_5 <| c_init X0 hx hby hZ hown hml (gw hw 39 rfl) (gw hw 40 rfl) (gw hw 42 rfl) (gw hw 34 rfl) rfl e0 (rmSI1 hw a1 a2 w0 u1 u2 ka c0 h0 n0 Z0 P0 P1 P2 P3 P4 P5 P6 P7 hw0 ho0) pd_3 rfl d6_6 [] rfl 0 (by decide) rfl rfl fun o42 T42 L42 X42 hQ42 => ?_
 obtain ⟨b42, kb42, rfl, N42q, K42, u42_1, u42_2, u42_3, u42_4, u42_5, u42_6⟩ := hQ42
 have N42 := Fr.app N0 N42q
 have G_b42 := Nat.le_trans Z0 u42_1
 have KK42 := (Keep.refl h0 [a1]).trans K42 (allS (P := fun x => x ∈ [a1] ∨ h0.size ≤ x) (Or.inl (List.mem_of_getElem? (i := 0) rfl)) all0)
 have ZN42 := Nat.le_trans Z0 K42.1
 have OL42 := P1.keep K42 (allS P5 all0)
 refine c_sh 9 [] rfl rfl ?_
 exact c_ret0 X42 hx hby hlk hret d6_9 (by decide) rfl ⟨b42, kb42, rfl, N42, KK42, (Nat.le_trans (Keep.refl h0 [a1]).1 u42_1), u42_2, u42_3, u42_4, u42_5, u42_6⟩
theorem d7_8 : decode jdk_42_method_149_code 8 = .ok (.aload_n 0, 1) := by decide +kernel
theorem d7_9 : decode jdk_42_method_149_code 9 = .ok (.ldc 7, 2) := by decide +kernel
theorem d7_11 : decode jdk_42_method_149_code 11 = .ok (.getfield 9, 3) := by decide +kernel
theorem d7_14 : decode jdk_42_method_149_code 14 = .ok (.putfield 9, 3) := by decide +kernel
theorem d7_17 : decode jdk_42_method_149_code 17 = .ok (.aload_n 0, 1) := by decide +kernel
theorem d7_18 : decode jdk_42_method_149_code 18 = .ok (.ldc 7, 2) := by decide +kernel
theorem d7_20 : decode jdk_42_method_149_code 20 = .ok (.getfield 15, 3) := by decide +kernel
theorem d7_23 : decode jdk_42_method_149_code 23 = .ok (.putfield 15, 3) := by decide +kernel
theorem d7_26 : decode jdk_42_method_149_code 26 = .ok (.return_, 1) := by decide +kernel
def QSI0 (Z : State) (a1 a2 : Addr) (u2 : Value) (h0 : Heap) (n0 : Nat) (v : Option Value) (h : Heap) (L : List Loc) : Prop := ∃ (b : Addr), ∃ (kb : ClassId), v = none ∧ Fr n0 L ∧ Keep h0 h [a1] ∧ fV Z h a1 b ∧ fC Z h a1 ∧ vB Z h b kb 0 []
theorem rmSI0 {l : Launch} {Z : State} {a0 : Array Value} (hw : HW Z a0) (a1 a2 : Addr) (u2 : Value) (h0 : Heap) (n0 : Nat) (Z0 : n0 ≤ h0.size) (P0 : eS Z h0 a1) (P1 : Fld Z h0 a1 "java/lang/String" "value" "[B" .null) (P2 : Fld Z h0 a1 "java/lang/String" "coder" "B" u2) (P3 : n0 ≤ a1) : own_MH l Z ⟨"java/lang/String", "<init>", "([CIILjava/lang/Void;)V"⟩ jdk_42_method_149_code 6 none (rmk 1 4 8 12) #[.ref a1, .ref a2, .int 0, .int 0, .null] h0 (QSI0 Z a1 a2 u2 h0 n0) := by
 refine own_bodyH rfl (plainFor_of_name pn_7) ?_
 intro p e s m below meth c s₁ hx hby hml hown hnm hlk hret X0 e0 hZ hh ch0 hS0
 have N0 := Fr.nil n0
 show Go _ p e below s _ _ _ (s₁.setTop (mkF m 0 #[rv a1, rv a2, iv 0, iv 0, .val .null, .unset] []))
 have sf_a1 := own_safeN (EL := own_EL) hZ.alike P0 P1
 refine c_aloadN X0 hx hby d7_0 rfl rfl ?_
 obtain ⟨T56, X56, e56, st56⟩ := initO X0 hx hZ hown (gw hw 43 rfl) (gw hw 20 rfl) (gw hw 21 rfl) e0 (g := (mkF m 1 #[rv a1, rv a2, iv 0, iv 0, .val .null, .unset] [.ref a1])) rfl (by rw [hml]; rfl) rfl (hb hby d7_1) (by decide) (W := 0) (by show 2 * 0 + _ ≤ _; exact Nat.le_of_eq rfl) (by decide)
 refine go st56 ?_
 show Go _ p e below s _ _ _ (T56.setTop (mkF m 4 #[rv a1, rv a2, iv 0, iv 0, .val .null, .unset] []))
 refine c_iloadN X56 hx hby d7_4 rfl <| c_ifNo X56 hx hby d7_5 ((if0 _ _).trans (teq (rfl : (0 : Int32) = (0 : Int32))).2) <| c_aloadN X56 hx hby d7_8 rfl rfl ?_
 obtain ⟨t57, T57, h57, k57, bs57, ks57, X57, e57, E57, hS57, hk57, hZ, hown, LE57, LC57, LV57, LA57, -, -, cr57, -, sn57, st57⟩ := ldcCH X56 hx hZ hown (gw hw 44 rfl) (own_wS hw) e56 hS0 (Nat.zero_le _) (own_EW hw) (List.mem_of_getElem? (i := 4) rfl) ch0.1 (vs := []) (z := (0 : Int32)) ⟨by decide, by decide⟩ (by decide) (by decide) (g := (mkF m 9 #[rv a1, rv a2, iv 0, iv 0, .val .null, .unset] [.ref a1])) rfl (hb hby d7_9) (n := 0) (by decide) (by decide) (by decide) (by decide)
 have sf57_a1 := CHr.safe cr57 P0.lt sf_a1
 have ch57 := ch0.trans cr57
 have KK57 := (Keep.refl h0 [a1]).ext E57
 have ZN57 := Nat.le_trans Z0 E57.1
 refine go st57 ?_
 show Go _ p e below s _ _ _ (T57.setTop (mkF m 11 #[rv a1, rv a2, iv 0, iv 0, .val .null, .unset] [.ref t57, .ref a1]))
 refine c_getf X57 hx hby hZ hown (gw hw 50 rfl) Via.refl e57 LV57 d7_11 fun T58 X58 e58 => ?_
 refine c_sh 14 [.ref bs57, .ref a1] rfl rfl ?_
 have cc59 := P1.ext E57
 have cc60 := P0.ext E57
 refine c_putf X58 hx hby hZ hown (gw hw 50 rfl) Via.refl e58 cc59 cc60 (Or.inr ⟨(gw hw 46 rfl), rfl, hnm⟩) (gw hw 33 rfl) (.array .byte) (by decide) rfl rfl d7_14 fun T61 h61 X61 e61 W61 => ?_
 have Fw61 := cc59.same W61
 have KK61 := KK57.wr W61 (Or.inl (List.mem_of_getElem? (i := 0) rfl))
 have ZN61 := Nat.le_trans ZN57 (Keep.of_wr W61).1
 have HK61 : k57 ≤ h61.size := Nat.le_trans hk57 (Keep.of_wr W61).1
 have NN61 := Fr.snoc X61 N0 P3
 have sf61_a1 := Safe.wr W61 sf57_a1 ch57.1 sf57_a1
 have ch61 := ch57.trans (CHr.wr W61 sf57_a1 ch57.1)
 refine c_sh 17 [] rfl rfl <| c_aloadN X61 hx hby d7_17 rfl rfl ?_
 obtain ⟨t62, T62, h62, k62, bs62, ks62, X62, e62, E62, hS62, hk62, hZ, hown, LE62, LC62, LV62, LA62, -, -, cr62, -, sn62, st62⟩ := ldcCH X61 hx hZ hown (gw hw 44 rfl) (own_wS hw) e61 hS57 HK61 (own_EW hw) (List.mem_of_getElem? (i := 4) rfl) ch61.1 (vs := []) (z := (0 : Int32)) ⟨by decide, by decide⟩ (by decide) (by decide) (g := (mkF m 18 #[rv a1, rv a2, iv 0, iv 0, .val .null, .unset] [.ref a1])) rfl (hb hby d7_18) (n := 0) (by decide) (by decide) (by decide) (by decide)
 have sf62_a1 := CHr.safe cr62 (cc60.wr W61).lt sf61_a1
 have ch62 := ch61.trans cr62
 have KK62 := KK61.ext E62
 have ZN62 := Nat.le_trans ZN61 E62.1
 refine go st62 ?_
 show Go _ p e below s _ _ _ (T62.setTop (mkF m 20 #[rv a1, rv a2, iv 0, iv 0, .val .null, .unset] [.ref t62, .ref a1]))
 refine c_getf X62 hx hby hZ hown (gw hw 51 rfl) Via.refl e62 LC62 d7_20 fun T63 X63 e63 => ?_
 refine c_sh 23 [.int 0, .ref a1] rfl rfl ?_
 have cc64 := ((P2.ext E57).other W61 (Or.inr (slot_ne (Or.inr (gw hw 47 rfl)) (Or.inr (gw hw 46 rfl)) (by decide) (t := .byte) (t' := (.array .byte)) (by decide) (by decide)))).ext E62
 have cc65 := (cc60.wr W61).ext E62
 refine c_putn X63 hx hby hZ hown (gw hw 51 rfl) Via.refl e63 (.int 0) cc64 cc65 (Or.inr ⟨(gw hw 47 rfl), rfl, hnm⟩) (gw hw 33 rfl) .byte (by decide) rfl rfl d7_23 fun T66 h66 X66 e66 W66 => ?_
 have Fw66 := cc64.same W66
 have KK66 := KK62.wr W66 (Or.inl (List.mem_of_getElem? (i := 0) rfl))
 have ZN66 := Nat.le_trans ZN62 (Keep.of_wr W66).1
 have HK66 : k62 ≤ h66.size := Nat.le_trans hk62 (Keep.of_wr W66).1
 have NN66 := Fr.snoc X66 NN61 P3
 have sf66_a1 := Safe.wr W66 sf62_a1 ch62.1 sf62_a1
 have ch66 := ch62.trans (CHr.wr W66 sf62_a1 ch62.1)
 refine c_sh 26 [] rfl rfl ?_
 have cc67 := (Fw61.ext E62).other W66 (Or.inr (slot_ne (Or.inr (gw hw 46 rfl)) (Or.inr (gw hw 47 rfl)) (by decide) (t := (.array .byte)) (t' := .byte) (by decide) (by decide)))
 have cc68 := ((LA57.other W61 (Ne.symm (sn57 _ sf57_a1).2)).ext E62).other W66 (Ne.symm (sn57 _ sf57_a1).2)
 exact c_ret0H X66 hx hby hZ hlk hret d7_26 (by decide) e66 hh (own_EW hw) ch66 hS62 HK66 ⟨bs57, ks57, rfl, NN66, KK66, cc67, Fw66, cc68⟩
def QSJ0 (Z : State) (a1 a2 : Addr) (u2 : Value) (ka : ClassId) (h0 : Heap) (n0 : Nat) (v : Option Value) (h : Heap) (L : List Loc) : Prop := ∃ (b : Addr), ∃ (kb : ClassId), v = none ∧ Fr n0 L ∧ Keep h0 h [a1] ∧ fV Z h a1 b ∧ fC Z h a1 ∧ vB Z h b kb 0 []
theorem rmSJ0 {l : Launch} {Z : State} {a0 : Array Value} (hw : HW Z a0) (a1 a2 : Addr) (u2 : Value) (ka : ClassId) (h0 : Heap) (n0 : Nat) (Z0 : n0 ≤ h0.size) (P0 : eS Z h0 a1) (P1 : Fld Z h0 a1 "java/lang/String" "value" "[B" .null) (P2 : Fld Z h0 a1 "java/lang/String" "coder" "B" u2) (P3 : n0 ≤ a1) (P4 : Arv Z h0 a2 ka .char (0 : Int32) [] (.int (0 : Int32))) (P5 : a1 ≠ a2) : own_MH l Z ⟨"java/lang/String", "<init>", "([C)V"⟩ jdk_42_method_3_code 2 none (rmk 2 4 8 29) #[.ref a1, .ref a2] h0 (QSJ0 Z a1 a2 u2 ka h0 n0) := by
 refine own_bodyH rfl (plainFor_of_name pn_6) ?_
 intro p e s m below meth c s₁ hx hby hml hown hnm hlk hret X0 e0 hZ hh ch0 hS0
 have N0 := Fr.nil n0
 show Go _ p e below s _ _ _ (s₁.setTop (mkF m 0 #[rv a1, rv a2] []))
 have sf_a1 := own_safeN (EL := own_EL) hZ.alike P0 P1
 refine c_aloadN X0 hx hby d6_0 rfl rfl <| c_aloadN X0 hx hby d6_1 rfl rfl <| c_iconst X0 hx hby 0 d6_2 rfl <| c_aloadN X0 hx hby d6_3 rfl rfl <| c_alen X0 hx hby hZ e0 P4 d6_4 <| c_aconstNull X0 hx hby d6_5 <| c_initH X0 hx hby hZ hown hml (gw hw 39 rfl) (gw hw 40 rfl) (gw hw 42 rfl) (gw hw 34 rfl) rfl e0 (own_EW hw) ch0 hS0 (Nat.zero_le _) (rmSI0 hw a1 a2 u2 h0 n0 Z0 P0 P1 P2 P3) pd_3 rfl d6_6 [] rfl 0 (by decide) rfl rfl fun o70 T70 L70 X70 hS70 hZ hown hR70 ch70 hQ70 => ?_
 have sf70_a1 := CHr.safe hR70 P0.lt sf_a1
 obtain ⟨b70, kb70, rfl, N70q, K70, u70_1, u70_2, u70_3⟩ := hQ70
 have N70 := Fr.app N0 N70q
 have KK70 := (Keep.refl h0 [a1]).trans K70 (allS (P := fun x => x ∈ [a1] ∨ h0.size ≤ x) (Or.inl (List.mem_of_getElem? (i := 0) rfl)) all0)
 have ZN70 := Nat.le_trans Z0 K70.1
 refine c_sh 9 [] rfl rfl ?_
 exact c_ret0H X70 hx hby hZ hlk hret d6_9 (by decide) rfl hh (own_EW hw) ch70 hS70 (Nat.le_refl _) ⟨b70, kb70, rfl, N70, KK70, u70_1, u70_2, u70_3⟩
theorem d3_0 : decode jdk_22_method_1_code 0 = .ok (.aload_n 0, 1) := by decide +kernel
theorem d3_1 : decode jdk_22_method_1_code 1 = .ok (.invokespecial 1, 3) := by decide +kernel
theorem d3_4 : decode jdk_22_method_1_code 4 = .ok (.return_, 1) := by decide +kernel
theorem pn_3 : plainName "java/util/AbstractCollection" = true := by first | (simp [plainName, overriddenIn]; done) | decide +kernel
def Q3 (Z : State) (a1 : Addr) (h0 : Heap) (n0 : Nat) (v : Option Value) (h : Heap) (L : List Loc) : Prop := v = none ∧ Fr n0 L ∧ h = h0
theorem rm3 {l : Launch} {Z : State} {a0 : Array Value} (hw : HW Z a0) (a1 : Addr) (h0 : Heap) (n0 : Nat) (Z0 : n0 ≤ h0.size)  : own_M l Z ⟨"java/util/AbstractCollection", "<init>", "()V"⟩ jdk_22_method_1_code 1 none (rmk 1 0 0 12) #[.ref a1] h0 (Q3 Z a1 h0 n0) := by
 refine own_body rfl (plainFor_of_name pn_3) ?_
 intro p e s m below meth c s₁ hx hby hml hown hnm hlk hret X0 e0 hZ
 have N0 := Fr.nil n0
 show Go _ p e below s _ _ _ (s₁.setTop (mkF m 0 #[rv a1] []))
 refine c_aloadN X0 hx hby d3_0 rfl rfl ?_
 obtain ⟨T72, X72, e72, st72⟩ := initO X0 hx hZ hown (gw hw 19 rfl) (gw hw 20 rfl) (gw hw 21 rfl) e0 (g := (mkF m 1 #[rv a1] [.ref a1])) rfl (by rw [hml]; rfl) rfl (hb hby d3_1) (by decide) (W := 0) (by show 2 * 0 + _ ≤ _; exact Nat.le_of_eq rfl) (by decide)
 refine go st72 ?_
 show Go _ p e below s _ _ _ (T72.setTop (mkF m 4 #[rv a1] []))
 exact c_ret0 X72 hx hby hlk hret d3_4 (by decide) e72 ⟨rfl, N0, rfl⟩
theorem d2_0 : decode jdk_39_method_1_code 0 = .ok (.aload_n 0, 1) := by decide +kernel
theorem d2_1 : decode jdk_39_method_1_code 1 = .ok (.invokespecial 1, 3) := by decide +kernel
theorem d2_4 : decode jdk_39_method_1_code 4 = .ok (.aload_n 0, 1) := by decide +kernel
theorem d2_5 : decode jdk_39_method_1_code 5 = .ok (.iconst 0, 1) := by decide +kernel
theorem d2_6 : decode jdk_39_method_1_code 6 = .ok (.putfield 7, 3) := by decide +kernel
theorem d2_9 : decode jdk_39_method_1_code 9 = .ok (.return_, 1) := by decide +kernel
theorem pn_2 : plainName "java/util/AbstractList" = true := by first | (simp [plainName, overriddenIn]; done) | decide +kernel
theorem pd_4 : parseMethodDescriptor "()V" = some ⟨[], none⟩ := by decide +kernel
def Q2 (Z : State) (a1 : Addr) (u1 u2 u3 : Value) (h0 : Heap) (n0 : Nat) (v : Option Value) (h : Heap) (L : List Loc) : Prop := v = none ∧ Fr n0 L ∧ Keep h0 h [a1] ∧ Fld Z h a1 "java/util/AbstractList" "modCount" "I" (.int (0 : Int32)) ∧ Fld Z h a1 "java/util/ArrayList" "size" "I" u2 ∧ Fld Z h a1 "java/util/ArrayList" "elementData" "[Ljava/lang/Object;" u3
theorem rm2 {l : Launch} {Z : State} {a0 : Array Value} (hw : HW Z a0) (a1 : Addr) (u1 u2 u3 : Value) (h0 : Heap) (n0 : Nat) (Z0 : n0 ≤ h0.size) (P0 : Exa Z h0 a1 "java/util/ArrayList") (P1 : n0 ≤ a1) (P2 : Fld Z h0 a1 "java/util/AbstractList" "modCount" "I" u1) (P3 : Fld Z h0 a1 "java/util/ArrayList" "size" "I" u2) (P4 : Fld Z h0 a1 "java/util/ArrayList" "elementData" "[Ljava/lang/Object;" u3) : own_M l Z ⟨"java/util/AbstractList", "<init>", "()V"⟩ jdk_39_method_1_code 1 none (rmk 2 0 0 24) #[.ref a1] h0 (Q2 Z a1 u1 u2 u3 h0 n0) := by
 refine own_body rfl (plainFor_of_name pn_2) ?_
 intro p e s m below meth c s₁ hx hby hml hown hnm hlk hret X0 e0 hZ
 have N0 := Fr.nil n0
 show Go _ p e below s _ _ _ (s₁.setTop (mkF m 0 #[rv a1] []))
 refine c_aloadN X0 hx hby d2_0 rfl rfl <| c_init X0 hx hby hZ hown hml (gw hw 13 rfl) (gw hw 14 rfl) (gw hw 18 rfl) (gw hw 17 rfl) rfl e0 (rm3 hw a1 h0 n0 Z0 ) pd_4 rfl d2_1 [] rfl 0 (by decide) rfl rfl fun o77 T77 L77 X77 hQ77 => ?_
 obtain ⟨rfl, N77q, e77⟩ := hQ77
 have N77 := Fr.app N0 N77q
 refine c_sh 4 [] rfl rfl <| c_aloadN X77 hx hby d2_4 rfl rfl <| c_iconst X77 hx hby 0 d2_5 rfl <| c_putf X77 hx hby hZ hown (gw hw 22 rfl) Via.refl e77 P2 P0 (Or.inl (gw hw 23 rfl)) (gw hw 2 rfl) .int (by decide) rfl rfl d2_6 fun T78 h78 X78 e78 W78 => ?_
 have Fw78 := P2.same W78
 have KK78 := (Keep.refl h0 [a1]).wr W78 (Or.inl (List.mem_of_getElem? (i := 0) rfl))
 have ZN78 := Nat.le_trans Z0 (Keep.of_wr W78).1
 have NN78 := Fr.snoc X78 N77 P1
 refine c_sh 9 [] rfl rfl ?_
 have cc79 := P3.other W78 (Or.inr (slot_ne (Or.inl (gw hw 86 rfl)) (Or.inl (gw hw 23 rfl)) (by decide) (t := .int) (t' := .int) (by decide) (by decide)))
 have cc80 := P4.other W78 (Or.inr (slot_ne (Or.inl (gw hw 26 rfl)) (Or.inl (gw hw 23 rfl)) (by decide) (t := (.array (.object "java/lang/Object"))) (t' := .int) (by decide) (by decide)))
 exact c_ret0 X78 hx hby hlk hret d2_9 (by decide) e78 ⟨rfl, NN78, KK78, Fw78, cc79, cc80⟩
theorem d1_0 : decode jdk_38_method_2_code 0 = .ok (.aload_n 0, 1) := by decide +kernel
theorem d1_1 : decode jdk_38_method_2_code 1 = .ok (.invokespecial 1, 3) := by decide +kernel
theorem d1_4 : decode jdk_38_method_2_code 4 = .ok (.aload_n 0, 1) := by decide +kernel
theorem d1_5 : decode jdk_38_method_2_code 5 = .ok (.getstatic 39, 3) := by decide +kernel
theorem d1_8 : decode jdk_38_method_2_code 8 = .ok (.putfield 9, 3) := by decide +kernel
theorem d1_11 : decode jdk_38_method_2_code 11 = .ok (.return_, 1) := by decide +kernel
theorem pn_1 : plainName "java/util/ArrayList" = true := by first | (simp [plainName, overriddenIn]; done) | decide +kernel
def Q1 (Z : State) (a1 : Addr) (u1 u2 u3 : Value) (d0 : Addr) (h0 : Heap) (n0 : Nat) (v : Option Value) (h : Heap) (L : List Loc) : Prop := v = none ∧ Fr n0 L ∧ Keep h0 h [a1] ∧ Fld Z h a1 "java/util/AbstractList" "modCount" "I" (.int (0 : Int32)) ∧ Fld Z h a1 "java/util/ArrayList" "size" "I" u2 ∧ Fld Z h a1 "java/util/ArrayList" "elementData" "[Ljava/lang/Object;" (.ref d0)
theorem rm1 {l : Launch} {Z : State} {a0 : Array Value} (hw : HW Z a0) (a1 : Addr) (u1 u2 u3 : Value) (d0 : Addr) (h0 : Heap) (n0 : Nat) (Z0 : n0 ≤ h0.size) (P0 : Sta Z Z.heap "java/util/ArrayList" "DEFAULTCAPACITY_EMPTY_ELEMENTDATA" "[Ljava/lang/Object;" (.ref d0)) (P1 : Old Z n0 h0) (P2 : Exa Z h0 a1 "java/util/ArrayList") (P3 : n0 ≤ a1) (P4 : Fld Z h0 a1 "java/util/AbstractList" "modCount" "I" u1) (P5 : Fld Z h0 a1 "java/util/ArrayList" "size" "I" u2) (P6 : Fld Z h0 a1 "java/util/ArrayList" "elementData" "[Ljava/lang/Object;" u3) : own_M l Z ⟨"java/util/ArrayList", "<init>", "()V"⟩ jdk_38_method_2_code 1 none (rmk 3 0 0 36) #[.ref a1] h0 (Q1 Z a1 u1 u2 u3 d0 h0 n0) := by
 refine own_body rfl (plainFor_of_name pn_1) ?_
 intro p e s m below meth c s₁ hx hby hml hown hnm hlk hret X0 e0 hZ
 have N0 := Fr.nil n0
 show Go _ p e below s _ _ _ (s₁.setTop (mkF m 0 #[rv a1] []))
 refine c_aloadN X0 hx hby d1_0 rfl rfl <| c_init X0 hx hby hZ hown hml (gw hw 7 rfl) (gw hw 8 rfl) (gw hw 12 rfl) (gw hw 11 rfl) rfl e0 (rm2 hw a1 u1 u2 u3 h0 n0 Z0 P2 P3 P4 P5 P6) pd_4 rfl d1_1 [] rfl 0 (by decide) rfl rfl fun o87 T87 L87 X87 hQ87 => ?_
 obtain ⟨rfl, N87q, K87, u87_1, u87_2, u87_3⟩ := hQ87
 have N87 := Fr.app N0 N87q
 have KK87 := (Keep.refl h0 [a1]).trans K87 (allS (P := fun x => x ∈ [a1] ∨ h0.size ≤ x) (Or.inl (List.mem_of_getElem? (i := 0) rfl)) all0)
 have ZN87 := Nat.le_trans Z0 K87.1
 have OL87 := P1.keep K87 (allS P3 all0)
 refine c_sh 4 [] rfl rfl <| c_aloadN X87 hx hby d1_4 rfl rfl <| c_gets X87 hx hby hZ hown (gw hw 24 rfl) Via.refl rfl (P0.ext OL87.2) d1_5 fun T88 X88 e88 => ?_
 refine c_sh 8 [.ref d0, .ref a1] rfl rfl ?_
 have cc89 := P2.keep K87
 refine c_putf X88 hx hby hZ hown (gw hw 25 rfl) Via.refl e88 u87_3 cc89 (Or.inl (gw hw 26 rfl)) (gw hw 2 rfl) (.array (.object "java/lang/Object")) (by decide) rfl rfl d1_8 fun T90 h90 X90 e90 W90 => ?_
 have Fw90 := u87_3.same W90
 have KK90 := KK87.wr W90 (Or.inl (List.mem_of_getElem? (i := 0) rfl))
 have ZN90 := Nat.le_trans ZN87 (Keep.of_wr W90).1
 have NN90 := Fr.snoc X90 N87 P3
 have OL90 := OL87.wr W90 P3
 refine c_sh 11 [] rfl rfl ?_
 have cc91 := u87_1.other W90 (Or.inr (slot_ne (Or.inl (gw hw 23 rfl)) (Or.inl (gw hw 26 rfl)) (by decide) (t := .int) (t' := (.array (.object "java/lang/Object"))) (by decide) (by decide)))
 have cc92 := u87_2.other W90 (Or.inr (slot_ne (Or.inl (gw hw 86 rfl)) (Or.inl (gw hw 26 rfl)) (by decide) (t := .int) (t' := (.array (.object "java/lang/Object"))) (by decide) (by decide)))
 exact c_ret0 X90 hx hby hlk hret d1_11 (by decide) e90 ⟨rfl, NN90, KK90, cc91, cc92, Fw90⟩
theorem d21_0 : decode jdk_29_method_65_code 0 = .ok (.iload_n 0, 1) := by decide +kernel
theorem d21_1 : decode jdk_29_method_65_code 1 = .ok (.iload_n 1, 1) := by decide +kernel
theorem d21_2 : decode jdk_29_method_65_code 2 = .ok (.if_icmp .lt 7, 3) := by decide +kernel
theorem d21_5 : decode jdk_29_method_65_code 5 = .ok (.iload_n 0, 1) := by decide +kernel
theorem d21_6 : decode jdk_29_method_65_code 6 = .ok (.goto 4, 3) := by decide +kernel
theorem d21_10 : decode jdk_29_method_65_code 10 = .ok (.ireturn, 1) := by decide +kernel
def Q21 (Z : State)  (h0 : Heap) (n0 : Nat) (v : Option Value) (h : Heap) (L : List Loc) : Prop := v = some (.int (10 : Int32)) ∧ Fr n0 L ∧ h = h0
theorem rm21 {l : Launch} {Z : State} {a0 : Array Value} (hw : HW Z a0)  (h0 : Heap) (n0 : Nat) (Z0 : n0 ≤ h0.size)  : own_M l Z ⟨"java/lang/Math", "max", "(II)I"⟩ jdk_29_method_65_code 2 (some .int) (rmk 0 0 0 0) #[.int 10, .int 1] h0 (Q21 Z  h0 n0) := by
 refine own_body rfl (Jvm.Free.JP.mathPlain rfl (by decide +kernel)) ?_
 intro p e s m below meth c s₁ hx hby hml hown hnm hlk hret X0 e0 hZ
 have N0 := Fr.nil n0
 show Go _ p e below s _ _ _ (s₁.setTop (mkF m 0 #[iv 10, iv 1] []))
 refine c_iloadN X0 hx hby d21_0 rfl <| c_iloadN X0 hx hby d21_1 rfl <| c_icmpNo X0 hx hby d21_2 (by decide) <| c_iloadN X0 hx hby d21_5 rfl <| c_goto X0 hx hby 10 d21_6 (by decide) ?_
 refine c_retI X0 hx hby hlk hret d21_10 rfl (by simp) (by decide) e0 ⟨rfl, N0, rfl⟩
theorem d20_0 : decode jdk_38_method_6_code 0 = .ok (.aload_n 0, 1) := by decide +kernel
theorem d20_1 : decode jdk_38_method_6_code 1 = .ok (.getfield 9, 3) := by decide +kernel
theorem d20_4 : decode jdk_38_method_6_code 4 = .ok (.arraylength, 1) := by decide +kernel
theorem d20_5 : decode jdk_38_method_6_code 5 = .ok (.istore_n 2, 1) := by decide +kernel
theorem d20_6 : decode jdk_38_method_6_code 6 = .ok (.iload_n 2, 1) := by decide +kernel
theorem d20_7 : decode jdk_38_method_6_code 7 = .ok (.ifCond .gt 13, 3) := by decide +kernel
theorem d20_10 : decode jdk_38_method_6_code 10 = .ok (.aload_n 0, 1) := by decide +kernel
theorem d20_11 : decode jdk_38_method_6_code 11 = .ok (.getfield 9, 3) := by decide +kernel
theorem d20_14 : decode jdk_38_method_6_code 14 = .ok (.getstatic 39, 3) := by decide +kernel
theorem d20_17 : decode jdk_38_method_6_code 17 = .ok (.if_acmp .eq 28, 3) := by decide +kernel
theorem d20_45 : decode jdk_38_method_6_code 45 = .ok (.aload_n 0, 1) := by decide +kernel
theorem d20_46 : decode jdk_38_method_6_code 46 = .ok (.bipush 10, 2) := by decide +kernel
theorem d20_48 : decode jdk_38_method_6_code 48 = .ok (.iload_n 1, 1) := by decide +kernel
theorem d20_49 : decode jdk_38_method_6_code 49 = .ok (.invokestatic 79, 3) := by decide +kernel
theorem d20_52 : decode jdk_38_method_6_code 52 = .ok (.anewarray 7, 3) := by decide +kernel
theorem d20_55 : decode jdk_38_method_6_code 55 = .ok (.dup_x1, 1) := by decide +kernel
theorem d20_56 : decode jdk_38_method_6_code 56 = .ok (.putfield 9, 3) := by decide +kernel
theorem d20_59 : decode jdk_38_method_6_code 59 = .ok (.areturn, 1) := by decide +kernel
theorem pn_20 : plainName "java/util/ArrayList" = true := by first | (simp [plainName, overriddenIn]; done) | decide +kernel
theorem pd_5 : parseMethodDescriptor "(II)I" = some ⟨[.int, .int], some .int⟩ := by decide +kernel
def Q20 (Z : State) (a1 d0 : Addr) (kd : ClassId) (h0 : Heap) (n0 : Nat) (v : Option Value) (h : Heap) (L : List Loc) : Prop := ∃ (b : Addr), ∃ (k : ClassId), v = some (.ref b) ∧ Fr n0 L ∧ h0.size ≤ b ∧ n0 ≤ b ∧ Keep h0 h [a1] ∧ Fld Z h a1 "java/util/AbstractList" "modCount" "I" (.int (1 : Int32)) ∧ Fld Z h a1 "java/util/ArrayList" "size" "I" (.int (0 : Int32)) ∧ Fld Z h a1 "java/util/ArrayList" "elementData" "[Ljava/lang/Object;" (.ref b) ∧ Exa Z h b "[Ljava/lang/Object;" ∧ Arv Z h b k (.object "java/lang/Object") (10 : Int32) [.null, .null, .null, .null, .null, .null, .null, .null, .null, .null] .null ∧ Ovr Z k "java/lang/Object"
theorem rm20 {l : Launch} {Z : State} {a0 : Array Value} (hw : HW Z a0) (a1 d0 : Addr) (kd : ClassId) (h0 : Heap) (n0 : Nat) (Z0 : n0 ≤ h0.size) (P0 : Sta Z Z.heap "java/util/ArrayList" "DEFAULTCAPACITY_EMPTY_ELEMENTDATA" "[Ljava/lang/Object;" (.ref d0)) (P1 : Old Z n0 h0) (P2 : Arv Z Z.heap d0 kd (.object "java/lang/Object") (0 : Int32) [] .null) (P3 : Exa Z h0 a1 "java/util/ArrayList") (P4 : n0 ≤ a1) (P5 : Fld Z h0 a1 "java/util/AbstractList" "modCount" "I" (.int (1 : Int32))) (P6 : Fld Z h0 a1 "java/util/ArrayList" "size" "I" (.int (0 : Int32))) (P7 : Fld Z h0 a1 "java/util/ArrayList" "elementData" "[Ljava/lang/Object;" (.ref d0)) : own_M l Z ⟨"java/util/ArrayList", "grow", "(I)[Ljava/lang/Object;"⟩ jdk_38_method_6_code 4 (some (.array (.object "java/lang/Object"))) (rmk 1 1 10 14) #[.ref a1, .int 1] h0 (Q20 Z a1 d0 kd h0 n0) := by
 refine own_body rfl (plainFor_of_name pn_20) ?_
 intro p e s m below meth c s₁ hx hby hml hown hnm hlk hret X0 e0 hZ
 have N0 := Fr.nil n0
 show Go _ p e below s _ _ _ (s₁.setTop (mkF m 0 #[rv a1, iv 1, .unset, .unset] []))
 refine c_aloadN X0 hx hby d20_0 rfl rfl <| c_getf X0 hx hby hZ hown (gw hw 25 rfl) Via.refl e0 P7 d20_1 fun T106 X106 e106 => ?_
 refine c_sh 4 [.ref d0] rfl rfl <| c_alen X106 hx hby hZ e106 (P2.ext P1.2) d20_4 <| c_istoreN X106 hx hby _ d20_5 rfl <| c_iloadN X106 hx hby d20_6 rfl <| c_ifNo X106 hx hby d20_7 (by decide) <| c_aloadN X106 hx hby d20_10 rfl rfl <| c_shL #[rv a1, iv 1, iv 0, .unset] rfl <| c_getf X106 hx hby hZ hown (gw hw 25 rfl) Via.refl e106 P7 d20_11 fun T107 X107 e107 => ?_
 refine c_sh 14 [.ref d0] rfl rfl <| c_gets X107 hx hby hZ hown (gw hw 24 rfl) Via.refl e107 (P0.ext P1.2) d20_14 fun T108 X108 e108 => ?_
 refine c_sh 17 [.ref d0, .ref d0] rfl rfl ?_
 refine go (fun _ => Jvm.RoadKit.acmp (g := (mkF m 17 #[rv a1, iv 1, iv 0, .unset] [.ref d0, .ref d0])) X108 hx rfl rfl rfl (pc0 := 17) (pc' := 45) (same := true) rfl (hb hby d20_17) rfl (decide_eq_true rfl) (by decide) (by decide)) ?_
 show Go _ p e below s _ _ _ (T108.setTop (mkF m 45 #[rv a1, iv 1, iv 0, .unset] []))
 refine c_aloadN X108 hx hby d20_45 rfl rfl <| c_bipush X108 hx hby 10 d20_46 rfl <| c_iloadN X108 hx hby d20_48 rfl <| c_callS X108 hx hby hZ hown hml (gw hw 147 rfl) (gw hw 148 rfl) (gw hw 149 rfl) (gw hw 150 rfl) e108 (rm21 hw  h0 n0 Z0 ) pd_5 rfl d20_49 [.ref a1] rfl 1 (by decide) rfl rfl fun o109 T109 L109 X109 hQ109 => ?_
 obtain ⟨rfl, N109q, e109⟩ := hQ109
 have N109 := Fr.app N0 N109q
 refine c_sh 52 [.int 10, .ref a1] rfl rfl ?_
 obtain ⟨T110, h110, k110, X110, e110, E110, A110, AE110, O110, st110⟩ := newRE X109 hx hZ hown (gw hw 151 rfl) (gw hw 152 rfl) e109 (g := (mkF m 52 #[rv a1, iv 1, iv 0, .unset] [.int 10, .ref a1])) rfl (hb hby d20_52) rfl (by decide) (cap := 10) (by decide) (by decide) (by decide) (by decide) (ad := "[Ljava/lang/Object;") (by first | rfl | decide)
 obtain ⟨b110, g110⟩ : ∃ z, z = h0.size := ⟨_, rfl⟩
 rw [← g110] at A110 AE110 st110
 have G_b110 := Nat.le_trans Z0 (Nat.le_of_eq g110.symm)
 have KK110 := (Keep.refl h0 [a1]).ext E110
 have ZN110 := Nat.le_trans Z0 E110.1
 have OL110 := P1.ext E110
 have V110 : Arv Z h110 b110 k110 (.object "java/lang/Object") (10 : Int32) [.null, .null, .null, .null, .null, .null, .null, .null, .null, .null] .null := (Arv.new A110 (by decide)).pad (pad_rep [] .null 10)
 refine go st110 ?_
 show Go _ p e below s _ _ _ (T110.setTop (mkF m 55 #[rv a1, iv 1, iv 0, .unset] [.ref b110, .ref a1]))
 refine go (fun _ => XS.dupX1 X110.here hx rfl (hb hby d20_55) rfl rfl rfl) ?_
 show Go _ p e below s _ _ _ (T110.setTop (mkF m 56 #[rv a1, iv 1, iv 0, .unset] [.ref b110, .ref a1, .ref b110]))
 have cc111 := P7.ext E110
 have cc112 := P3.ext E110
 refine c_putf X110 hx hby hZ hown (gw hw 25 rfl) Via.refl e110 cc111 cc112 (Or.inl (gw hw 26 rfl)) (gw hw 2 rfl) (.array (.object "java/lang/Object")) (by decide) rfl rfl d20_56 fun T113 h113 X113 e113 W113 => ?_
 have Fw113 := cc111.same W113
 have ne114 : b110 ≠ a1 := (Ne.symm (Nat.ne_of_lt (Nat.lt_of_lt_of_le P3.lt (Nat.le_of_eq g110.symm))))
 have KK113 := KK110.wr W113 (Or.inl (List.mem_of_getElem? (i := 0) rfl))
 have ZN113 := Nat.le_trans ZN110 (Keep.of_wr W113).1
 have NN113 := Fr.snoc X113 N109 P4
 have OL113 := OL110.wr W113 P4
 refine c_sh 59 [.ref b110] rfl rfl ?_
 have cc115 := (P5.ext E110).other W113 (Or.inr (slot_ne (Or.inl (gw hw 23 rfl)) (Or.inl (gw hw 26 rfl)) (by decide) (t := .int) (t' := (.array (.object "java/lang/Object"))) (by decide) (by decide)))
 have cc116 := (P6.ext E110).other W113 (Or.inr (slot_ne (Or.inl (gw hw 86 rfl)) (Or.inl (gw hw 26 rfl)) (by decide) (t := .int) (t' := (.array (.object "java/lang/Object"))) (by decide) (by decide)))
 have cc117 := AE110.wr W113
 have cc118 := V110.other W113 ne114
 exact c_retA X113 hx hby hlk hret d20_59 rfl ⟨rfl, rfl⟩ (by decide) e113 ⟨b110, k110, rfl, NN113, (Nat.le_trans (Keep.refl h0 [a1]).1 (Nat.le_of_eq g110.symm)), G_b110, KK113, cc115, cc116, Fw113, cc117, cc118, O110⟩
theorem d19_0 : decode jdk_38_method_7_code 0 = .ok (.aload_n 0, 1) := by decide +kernel
theorem d19_1 : decode jdk_38_method_7_code 1 = .ok (.aload_n 0, 1) := by decide +kernel
theorem d19_2 : decode jdk_38_method_7_code 2 = .ok (.getfield 48, 3) := by decide +kernel
theorem d19_5 : decode jdk_38_method_7_code 5 = .ok (.iconst 1, 1) := by decide +kernel
theorem d19_6 : decode jdk_38_method_7_code 6 = .ok (.iadd, 1) := by decide +kernel
theorem d19_7 : decode jdk_38_method_7_code 7 = .ok (.invokevirtual 69, 3) := by decide +kernel
theorem d19_10 : decode jdk_38_method_7_code 10 = .ok (.areturn, 1) := by decide +kernel
theorem pn_19 : plainName "java/util/ArrayList" = true := by first | (simp [plainName, overriddenIn]; done) | decide +kernel
theorem pd_6 : parseMethodDescriptor "(I)[Ljava/lang/Object;" = some ⟨[.int], some (.array (.object "java/lang/Object"))⟩ := by decide +kernel
def Q19 (Z : State) (a1 d0 : Addr) (kd : ClassId) (h0 : Heap) (n0 : Nat) (v : Option Value) (h : Heap) (L : List Loc) : Prop := ∃ (b : Addr), ∃ (k : ClassId), v = some (.ref b) ∧ Fr n0 L ∧ h0.size ≤ b ∧ n0 ≤ b ∧ Keep h0 h [a1] ∧ Fld Z h a1 "java/util/AbstractList" "modCount" "I" (.int (1 : Int32)) ∧ Fld Z h a1 "java/util/ArrayList" "size" "I" (.int (0 : Int32)) ∧ Fld Z h a1 "java/util/ArrayList" "elementData" "[Ljava/lang/Object;" (.ref b) ∧ Exa Z h b "[Ljava/lang/Object;" ∧ Arv Z h b k (.object "java/lang/Object") (10 : Int32) [.null, .null, .null, .null, .null, .null, .null, .null, .null, .null] .null ∧ Ovr Z k "java/lang/Object"
theorem rm19 {l : Launch} {Z : State} {a0 : Array Value} (hw : HW Z a0) (a1 d0 : Addr) (kd : ClassId) (h0 : Heap) (n0 : Nat) (Z0 : n0 ≤ h0.size) (P0 : Sta Z Z.heap "java/util/ArrayList" "DEFAULTCAPACITY_EMPTY_ELEMENTDATA" "[Ljava/lang/Object;" (.ref d0)) (P1 : Old Z n0 h0) (P2 : Arv Z Z.heap d0 kd (.object "java/lang/Object") (0 : Int32) [] .null) (P3 : Exa Z h0 a1 "java/util/ArrayList") (P4 : n0 ≤ a1) (P5 : Fld Z h0 a1 "java/util/AbstractList" "modCount" "I" (.int (1 : Int32))) (P6 : Fld Z h0 a1 "java/util/ArrayList" "size" "I" (.int (0 : Int32))) (P7 : Fld Z h0 a1 "java/util/ArrayList" "elementData" "[Ljava/lang/Object;" (.ref d0)) : own_M l Z ⟨"java/util/ArrayList", "grow", "()[Ljava/lang/Object;"⟩ jdk_38_method_7_code 1 (some (.array (.object "java/lang/Object"))) (rmk 2 1 10 29) #[.ref a1] h0 (Q19 Z a1 d0 kd h0 n0) := by
 refine own_body rfl (plainFor_of_name pn_19) ?_
 intro p e s m below meth c s₁ hx hby hml hown hnm hlk hret X0 e0 hZ
 have N0 := Fr.nil n0
 show Go _ p e below s _ _ _ (s₁.setTop (mkF m 0 #[rv a1] []))
 refine c_aloadN X0 hx hby d19_0 rfl rfl <| c_aloadN X0 hx hby d19_1 rfl rfl <| c_getf X0 hx hby hZ hown (gw hw 85 rfl) Via.refl e0 P6 d19_2 fun T121 X121 e121 => ?_
 refine c_sh 5 [.int 0, .ref a1] rfl rfl <| c_iconst X121 hx hby 1 d19_5 rfl <| c_iadd X121 hx hby d19_6 <| c_sh 7 [.int 1, .ref a1] rfl rfl ?_
 obtain ⟨cq122, q122, q122'⟩ := P3.cell
 obtain ⟨_, _, ⟨T122, L122, k122, n122⟩, -, X122, ⟨Lc122, hQ122, l122, y122, z122⟩, st122⟩ := X121.privateBack hx (y := (⟨"java/util/ArrayList", "grow", "(I)[Ljava/lang/Object;"⟩ : MethodName)) hown (mvT hZ (gw hw 142 rfl)) (mvT hZ (gw hw 143 rfl)) (mvT hZ (gw hw 145 rfl)) (Cond.privateMethod_at (mvP hZ (gw hw 144 rfl) (args := #[]))) (mvT hZ (gw hw 146 rfl)) (by decide) (backOf (W := 0) (rm20 hw a1 d0 kd h0 n0 Z0 P0 P1 P2 P3 P4 P5 P6 P7) hZ (gw hw 146 rfl) (gw hw 3 rfl) (by decide) (by decide)) (g := (mkF m 7 #[rv a1] [.int 1, .ref a1])) rfl (by rw [hml]; rfl) (Steps.refl _) (a := a1) (by rw [e121]; exact q122) q122' (argsL := [(.int (1 : Int32))]) (rest := []) (lenOf pd_6 rfl) rfl (by show 2 * 0 + _ ≤ _; exact Nat.le_of_eq rfl) (hb hby d19_7) (fun _ _ => ⟨rfl, e121, (by decide : 0 + 1 ≤ _), (by decide : 0 + 10 ≤ _)⟩)
 dsimp only [Pt.U, Pt.locs, Pt.cells, Pt.slots] at X122 l122 y122 z122 st122 hQ122
 subst l122 y122 z122
 obtain ⟨b122, k122, rfl, N122q, u122_0, u122_1, K122, u122_3, u122_4, u122_5, u122_6, u122_7, u122_8⟩ := hQ122
 have N122 := Fr.app N0 N122q
 have G_b122 := Nat.le_trans Z0 u122_0
 have KK122 : Keep h0 T122.heap [a1] := (Keep.refl h0 [a1]).trans K122 (allS (P := fun x => x ∈ [a1] ∨ h0.size ≤ x) (Or.inl (List.mem_of_getElem? (i := 0) rfl)) all0)
 have ZN122 : n0 ≤ T122.heap.size := Nat.le_trans Z0 K122.1
 have OL122 := P1.keep K122 (allS P4 all0)
 refine goT st122 ?_
 show Go _ p e below s _ _ _ (T122.setTop (mkF m 10 #[rv a1] [.ref b122]))
 exact c_retA X122 hx hby hlk hret d19_10 rfl ⟨rfl, rfl⟩ (by decide) rfl ⟨b122, k122, rfl, N122, (Nat.le_trans (Keep.refl h0 [a1]).1 u122_0), u122_1, KK122, u122_3, u122_4, u122_5, u122_6, u122_7, u122_8⟩
theorem d18_0 : decode jdk_38_method_24_code 0 = .ok (.iload_n 3, 1) := by decide +kernel
theorem d18_1 : decode jdk_38_method_24_code 1 = .ok (.aload_n 2, 1) := by decide +kernel
theorem d18_2 : decode jdk_38_method_24_code 2 = .ok (.arraylength, 1) := by decide +kernel
theorem d18_3 : decode jdk_38_method_24_code 3 = .ok (.if_icmp .ne 8, 3) := by decide +kernel
theorem d18_6 : decode jdk_38_method_24_code 6 = .ok (.aload_n 0, 1) := by decide +kernel
theorem d18_7 : decode jdk_38_method_24_code 7 = .ok (.invokevirtual 129, 3) := by decide +kernel
theorem d18_10 : decode jdk_38_method_24_code 10 = .ok (.astore_n 2, 1) := by decide +kernel
theorem d18_11 : decode jdk_38_method_24_code 11 = .ok (.aload_n 2, 1) := by decide +kernel
theorem d18_12 : decode jdk_38_method_24_code 12 = .ok (.iload_n 3, 1) := by decide +kernel
theorem d18_13 : decode jdk_38_method_24_code 13 = .ok (.aload_n 1, 1) := by decide +kernel
theorem d18_14 : decode jdk_38_method_24_code 14 = .ok (.aastore, 1) := by decide +kernel
theorem d18_15 : decode jdk_38_method_24_code 15 = .ok (.aload_n 0, 1) := by decide +kernel
theorem d18_16 : decode jdk_38_method_24_code 16 = .ok (.iload_n 3, 1) := by decide +kernel
theorem d18_17 : decode jdk_38_method_24_code 17 = .ok (.iconst 1, 1) := by decide +kernel
theorem d18_18 : decode jdk_38_method_24_code 18 = .ok (.iadd, 1) := by decide +kernel
theorem d18_19 : decode jdk_38_method_24_code 19 = .ok (.putfield 48, 3) := by decide +kernel
theorem d18_22 : decode jdk_38_method_24_code 22 = .ok (.return_, 1) := by decide +kernel
theorem pn_18 : plainName "java/util/ArrayList" = true := by first | (simp [plainName, overriddenIn]; done) | decide +kernel
theorem pd_7 : parseMethodDescriptor "()[Ljava/lang/Object;" = some ⟨[], some (.array (.object "java/lang/Object"))⟩ := by decide +kernel
def QX30 (Z : State) (a1 a2 d0 : Addr) (kd : ClassId) (h0 : Heap) (n0 : Nat) (v : Option Value) (h : Heap) (L : List Loc) : Prop := ∃ (b : Addr), ∃ (k : ClassId), v = none ∧ Fr n0 L ∧ h0.size ≤ b ∧ n0 ≤ b ∧ Keep h0 h [a1] ∧ Fld Z h a1 "java/util/AbstractList" "modCount" "I" (.int (1 : Int32)) ∧ Fld Z h a1 "java/util/ArrayList" "size" "I" (.int (1 : Int32)) ∧ Fld Z h a1 "java/util/ArrayList" "elementData" "[Ljava/lang/Object;" (.ref b) ∧ Exa Z h b "[Ljava/lang/Object;" ∧ Arv Z h b k (.object "java/lang/Object") (10 : Int32) [(.ref a2), .null, .null, .null, .null, .null, .null, .null, .null, .null] .null ∧ Ovr Z k "java/lang/Object"
theorem rmX30 {l : Launch} {Z : State} {a0 : Array Value} (hw : HW Z a0) (a1 a2 d0 : Addr) (kd : ClassId) (h0 : Heap) (n0 : Nat) (Z0 : n0 ≤ h0.size) (P0 : Sta Z Z.heap "java/util/ArrayList" "DEFAULTCAPACITY_EMPTY_ELEMENTDATA" "[Ljava/lang/Object;" (.ref d0)) (P1 : Old Z n0 h0) (P2 : Arv Z Z.heap d0 kd (.object "java/lang/Object") (0 : Int32) [] .null) (P3 : Exa Z h0 a1 "java/util/ArrayList") (P4 : n0 ≤ a1) (P5 : eS Z h0 a2) (P6 : Fld Z h0 a1 "java/util/AbstractList" "modCount" "I" (.int (1 : Int32))) (P7 : Fld Z h0 a1 "java/util/ArrayList" "size" "I" (.int (0 : Int32))) (P8 : Fld Z h0 a1 "java/util/ArrayList" "elementData" "[Ljava/lang/Object;" (.ref d0)) : own_M l Z ⟨"java/util/ArrayList", "add", "(Ljava/lang/Object;[Ljava/lang/Object;I)V"⟩ jdk_38_method_24_code 4 none (rmk 3 1 10 41) #[.ref a1, .ref a2, .ref d0, .int 0] h0 (QX30 Z a1 a2 d0 kd h0 n0) := by
 refine own_body rfl (plainFor_of_name pn_18) ?_
 intro p e s m below meth c s₁ hx hby hml hown hnm hlk hret X0 e0 hZ
 have N0 := Fr.nil n0
 show Go _ p e below s _ _ _ (s₁.setTop (mkF m 0 #[rv a1, rv a2, rv d0, iv 0] []))
 refine c_iloadN X0 hx hby d18_0 rfl <| c_aloadN X0 hx hby d18_1 rfl rfl <| c_alen X0 hx hby hZ e0 (P2.ext P1.2) d18_2 <| c_icmpNo X0 hx hby d18_3 (teq (rfl : (0 : Int32) = (0 : Int32))).2 <| c_aloadN X0 hx hby d18_6 rfl rfl ?_
 obtain ⟨cq134, q134, q134'⟩ := P3.cell
 obtain ⟨_, _, ⟨T134, L134, k134, n134⟩, -, X134, ⟨Lc134, hQ134, l134, y134, z134⟩, st134⟩ := X0.privateBack hx (y := (⟨"java/util/ArrayList", "grow", "()[Ljava/lang/Object;"⟩ : MethodName)) hown (mvT hZ (gw hw 137 rfl)) (mvT hZ (gw hw 138 rfl)) (mvT hZ (gw hw 140 rfl)) (Cond.privateMethod_at (mvP hZ (gw hw 139 rfl) (args := #[]))) (mvT hZ (gw hw 141 rfl)) (by decide) (backOf (W := 0) (rm19 hw a1 d0 kd h0 n0 Z0 P0 P1 P2 P3 P4 P6 P7 P8) hZ (gw hw 141 rfl) (gw hw 3 rfl) (by decide) (by decide)) (g := (mkF m 7 #[rv a1, rv a2, rv d0, iv 0] [.ref a1])) rfl (by rw [hml]; rfl) (Steps.refl _) (a := a1) (by rw [e0]; exact q134) q134' (argsL := []) (rest := []) (lenOf pd_7 rfl) rfl (by show 2 * 0 + _ ≤ _; exact Nat.le_of_eq rfl) (hb hby d18_7) (fun _ _ => ⟨rfl, e0, (by decide : 0 + 1 ≤ _), (by decide : 0 + 10 ≤ _)⟩)
 dsimp only [Pt.U, Pt.locs, Pt.cells, Pt.slots] at X134 l134 y134 z134 st134 hQ134
 subst l134 y134 z134
 obtain ⟨b134, k134, rfl, N134q, u134_0, u134_1, K134, u134_3, u134_4, u134_5, u134_6, u134_7, u134_8⟩ := hQ134
 have N134 := Fr.app N0 N134q
 have G_b134 := Nat.le_trans Z0 u134_0
 have KK134 : Keep h0 T134.heap [a1] := (Keep.refl h0 [a1]).trans K134 (allS (P := fun x => x ∈ [a1] ∨ h0.size ≤ x) (Or.inl (List.mem_of_getElem? (i := 0) rfl)) all0)
 have ZN134 : n0 ≤ T134.heap.size := Nat.le_trans Z0 K134.1
 have OL134 := P1.keep K134 (allS P4 all0)
 refine goT st134 ?_
 show Go _ p e below s _ _ _ (T134.setTop (mkF m 10 #[rv a1, rv a2, rv d0, iv 0] [.ref b134]))
 refine c_astoreN X134 hx hby _ d18_10 rfl rfl <| c_aloadN X134 hx hby d18_11 rfl rfl <| c_iloadN X134 hx hby d18_12 rfl <| c_aloadN X134 hx hby d18_13 rfl rfl <| c_shL #[rv a1, rv a2, rv b134, iv 0] rfl ?_
 obtain ⟨cl135, Ar135, q135, Sz135, Nz135, Hs135, Gs135⟩ := id u134_7
 have hin135 : ¬ ((0 : Int32) < 0 ∨ cl135.slots.size ≤ ((0 : Int32)).toNatClampNeg) := inb_of Sz135 ⟨by decide, by decide⟩
 have cc136 := P5.keep K134
 obtain ⟨T135, h135, X135, e135, W135, st135⟩ := stR X134 hx hZ rfl Ar135 (j := (0 : Int32)) hin135 rfl (Sto.ofV Ar135 q135 u134_8 (Ins.of_exa cc136 (gw hw 153 rfl))) (g := (mkF m 14 #[rv a1, rv a2, rv b134, iv 0] [.ref a2, .int 0, .ref b134])) rfl rfl (hb hby d18_14)
 have V135 := Arv.set Ar135 q135 Sz135 Nz135 Hs135 Gs135 rfl W135 0 rfl (Nat.le_of_ble_eq_true rfl)
 have VV135 : Arv Z h135 b134 k134 (.object "java/lang/Object") (10 : Int32) [(.ref a2), .null, .null, .null, .null, .null, .null, .null, .null, .null] .null := V135
 have ne137 : a1 ≠ b134 := (Nat.ne_of_lt (Nat.lt_of_lt_of_le P3.lt u134_0))
 have KK135 := KK134.wr W135 (Or.inr (Nat.le_trans (Keep.refl h0 [a1]).1 u134_0))
 have ZN135 := Nat.le_trans ZN134 (Keep.of_wr W135).1
 have NN135 := Fr.snoc X135 N134 u134_1
 have OL135 := OL134.wr W135 u134_1
 refine go st135 ?_
 show Go _ p e below s _ _ _ (T135.setTop (mkF m 15 #[rv a1, rv a2, rv b134, iv 0] []))
 refine c_aloadN X135 hx hby d18_15 rfl rfl <| c_iloadN X135 hx hby d18_16 rfl <| c_iconst X135 hx hby 1 d18_17 rfl <| c_iadd X135 hx hby d18_18 <| c_sh 19 [.int 1, .ref a1] rfl rfl ?_
 have cc138 := u134_4.other W135 (Or.inl ne137)
 have cc139 := (P3.keep K134).wr W135
 refine c_putf X135 hx hby hZ hown (gw hw 85 rfl) Via.refl e135 cc138 cc139 (Or.inl (gw hw 86 rfl)) (gw hw 2 rfl) .int (by decide) rfl rfl d18_19 fun T140 h140 X140 e140 W140 => ?_
 have Fw140 := cc138.same W140
 have KK140 := KK135.wr W140 (Or.inl (List.mem_of_getElem? (i := 0) rfl))
 have ZN140 := Nat.le_trans ZN135 (Keep.of_wr W140).1
 have NN140 := Fr.snoc X140 NN135 P4
 have OL140 := OL135.wr W140 P4
 refine c_sh 22 [] rfl rfl ?_
 have cc141 := (u134_3.other W135 (Or.inl ne137)).other W140 (Or.inr (slot_ne (Or.inl (gw hw 23 rfl)) (Or.inl (gw hw 86 rfl)) (by decide) (t := .int) (t' := .int) (by decide) (by decide)))
 have cc142 := (u134_5.other W135 (Or.inl ne137)).other W140 (Or.inr (slot_ne (Or.inl (gw hw 26 rfl)) (Or.inl (gw hw 86 rfl)) (by decide) (t := (.array (.object "java/lang/Object"))) (t' := .int) (by decide) (by decide)))
 have cc143 := (u134_6.wr W135).wr W140
 have cc144 := VV135.other W140 (Ne.symm ne137)
 exact c_ret0 X140 hx hby hlk hret d18_22 (by decide) e140 ⟨b134, k134, rfl, NN140, (Nat.le_trans (Keep.refl h0 [a1]).1 u134_0), u134_1, KK140, cc141, Fw140, cc142, cc143, cc144, u134_8⟩
theorem d17_0 : decode jdk_38_method_25_code 0 = .ok (.aload_n 0, 1) := by decide +kernel
theorem d17_1 : decode jdk_38_method_25_code 1 = .ok (.dup, 1) := by decide +kernel
theorem d17_2 : decode jdk_38_method_25_code 2 = .ok (.getfield 63, 3) := by decide +kernel
theorem d17_5 : decode jdk_38_method_25_code 5 = .ok (.iconst 1, 1) := by decide +kernel
theorem d17_6 : decode jdk_38_method_25_code 6 = .ok (.iadd, 1) := by decide +kernel
theorem d17_7 : decode jdk_38_method_25_code 7 = .ok (.putfield 63, 3) := by decide +kernel
theorem d17_10 : decode jdk_38_method_25_code 10 = .ok (.aload_n 0, 1) := by decide +kernel
theorem d17_11 : decode jdk_38_method_25_code 11 = .ok (.aload_n 1, 1) := by decide +kernel
theorem d17_12 : decode jdk_38_method_25_code 12 = .ok (.aload_n 0, 1) := by decide +kernel
theorem d17_13 : decode jdk_38_method_25_code 13 = .ok (.getfield 9, 3) := by decide +kernel
theorem d17_16 : decode jdk_38_method_25_code 16 = .ok (.aload_n 0, 1) := by decide +kernel
theorem d17_17 : decode jdk_38_method_25_code 17 = .ok (.getfield 48, 3) := by decide +kernel
theorem d17_20 : decode jdk_38_method_25_code 20 = .ok (.invokevirtual 131, 3) := by decide +kernel
theorem d17_23 : decode jdk_38_method_25_code 23 = .ok (.iconst 1, 1) := by decide +kernel
theorem d17_24 : decode jdk_38_method_25_code 24 = .ok (.ireturn, 1) := by decide +kernel
theorem pn_17 : plainName "java/util/ArrayList" = true := by first | (simp [plainName, overriddenIn]; done) | decide +kernel
theorem pd_8 : parseMethodDescriptor "(Ljava/lang/Object;[Ljava/lang/Object;I)V" = some ⟨[(.object "java/lang/Object"), (.array (.object "java/lang/Object")), .int], none⟩ := by decide +kernel
def QX10 (Z : State) (a1 a2 d0 : Addr) (kd : ClassId) (h0 : Heap) (n0 : Nat) (v : Option Value) (h : Heap) (L : List Loc) : Prop := ∃ (b : Addr), ∃ (k : ClassId), v = some (.int (1 : Int32)) ∧ Fr n0 L ∧ h0.size ≤ b ∧ n0 ≤ b ∧ Keep h0 h [a1] ∧ Fld Z h a1 "java/util/AbstractList" "modCount" "I" (.int (1 : Int32)) ∧ Fld Z h a1 "java/util/ArrayList" "size" "I" (.int (1 : Int32)) ∧ Fld Z h a1 "java/util/ArrayList" "elementData" "[Ljava/lang/Object;" (.ref b) ∧ Exa Z h b "[Ljava/lang/Object;" ∧ Arv Z h b k (.object "java/lang/Object") (10 : Int32) [(.ref a2), .null, .null, .null, .null, .null, .null, .null, .null, .null] .null ∧ Ovr Z k "java/lang/Object"
theorem rmX10 {l : Launch} {Z : State} {a0 : Array Value} (hw : HW Z a0) (a1 a2 d0 : Addr) (kd : ClassId) (h0 : Heap) (n0 : Nat) (Z0 : n0 ≤ h0.size) (P0 : Sta Z Z.heap "java/util/ArrayList" "DEFAULTCAPACITY_EMPTY_ELEMENTDATA" "[Ljava/lang/Object;" (.ref d0)) (P1 : Old Z n0 h0) (P2 : Arv Z Z.heap d0 kd (.object "java/lang/Object") (0 : Int32) [] .null) (P3 : Exa Z h0 a1 "java/util/ArrayList") (P4 : n0 ≤ a1) (P5 : eS Z h0 a2) (P6 : Fld Z h0 a1 "java/util/AbstractList" "modCount" "I" (.int (0 : Int32))) (P7 : Fld Z h0 a1 "java/util/ArrayList" "size" "I" (.int (0 : Int32))) (P8 : Fld Z h0 a1 "java/util/ArrayList" "elementData" "[Ljava/lang/Object;" (.ref d0)) : own_M l Z ⟨"java/util/ArrayList", "add", "(Ljava/lang/Object;)Z"⟩ jdk_38_method_25_code 2 (some .boolean) (rmk 4 1 10 56) #[.ref a1, .ref a2] h0 (QX10 Z a1 a2 d0 kd h0 n0) := by
 refine own_body rfl (plainFor_of_name pn_17) ?_
 intro p e s m below meth c s₁ hx hby hml hown hnm hlk hret X0 e0 hZ
 have N0 := Fr.nil n0
 show Go _ p e below s _ _ _ (s₁.setTop (mkF m 0 #[rv a1, rv a2] []))
 refine c_aloadN X0 hx hby d17_0 rfl rfl <| c_dup X0 hx hby d17_1 rfl <| c_getf X0 hx hby hZ hown (gw hw 130 rfl) (Via.of (gw hw 131 rfl)) e0 P6 d17_2 fun T154 X154 e154 => ?_
 refine c_sh 5 [.int 0, .ref a1] rfl rfl <| c_iconst X154 hx hby 1 d17_5 rfl <| c_iadd X154 hx hby d17_6 <| c_sh 7 [.int 1, .ref a1] rfl rfl <| c_putf X154 hx hby hZ hown (gw hw 130 rfl) (Via.of (gw hw 131 rfl)) e154 P6 P3 (Or.inl (gw hw 23 rfl)) (gw hw 2 rfl) .int (by decide) rfl rfl d17_7 fun T155 h155 X155 e155 W155 => ?_
 have Fw155 := P6.same W155
 have KK155 := (Keep.refl h0 [a1]).wr W155 (Or.inl (List.mem_of_getElem? (i := 0) rfl))
 have ZN155 := Nat.le_trans Z0 (Keep.of_wr W155).1
 have NN155 := Fr.snoc X155 N0 P4
 have OL155 := P1.wr W155 P4
 refine c_sh 10 [] rfl rfl <| c_aloadN X155 hx hby d17_10 rfl rfl <| c_aloadN X155 hx hby d17_11 rfl rfl <| c_aloadN X155 hx hby d17_12 rfl rfl ?_
 have cc156 := P8.other W155 (Or.inr (slot_ne (Or.inl (gw hw 26 rfl)) (Or.inl (gw hw 23 rfl)) (by decide) (t := (.array (.object "java/lang/Object"))) (t' := .int) (by decide) (by decide)))
 refine c_getf X155 hx hby hZ hown (gw hw 25 rfl) Via.refl e155 cc156 d17_13 fun T157 X157 e157 => ?_
 refine c_sh 16 [.ref d0, .ref a2, .ref a1] rfl rfl <| c_aloadN X157 hx hby d17_16 rfl rfl ?_
 have cc158 := P7.other W155 (Or.inr (slot_ne (Or.inl (gw hw 86 rfl)) (Or.inl (gw hw 23 rfl)) (by decide) (t := .int) (t' := .int) (by decide) (by decide)))
 refine c_getf X157 hx hby hZ hown (gw hw 85 rfl) Via.refl e157 cc158 d17_17 fun T159 X159 e159 => ?_
 refine c_sh 20 [.int 0, .ref d0, .ref a2, .ref a1] rfl rfl ?_
 have cc161 := P3.wr W155
 have cc162 := P5.wr W155
 obtain ⟨cq160, q160, q160'⟩ := cc161.cell
 obtain ⟨_, _, ⟨T160, L160, k160, n160⟩, -, X160, ⟨Lc160, hQ160, l160, y160, z160⟩, st160⟩ := X159.privateBack hx (y := (⟨"java/util/ArrayList", "add", "(Ljava/lang/Object;[Ljava/lang/Object;I)V"⟩ : MethodName)) hown (mvT hZ (gw hw 132 rfl)) (mvT hZ (gw hw 133 rfl)) (mvT hZ (gw hw 135 rfl)) (Cond.privateMethod_at (mvP hZ (gw hw 134 rfl) (args := #[]))) (mvT hZ (gw hw 136 rfl)) (by decide) (backOf (W := 0) (rmX30 hw a1 a2 d0 kd h155 n0 ZN155 P0 OL155 P2 cc161 P4 cc162 Fw155 cc158 cc156) hZ (gw hw 136 rfl) (gw hw 3 rfl) (by decide) (by decide)) (g := (mkF m 20 #[rv a1, rv a2] [.int 0, .ref d0, .ref a2, .ref a1])) rfl (by rw [hml]; rfl) (Steps.refl _) (a := a1) (by rw [e159]; exact q160) q160' (argsL := [(.ref a2), (.ref d0), (.int (0 : Int32))]) (rest := []) (lenOf pd_8 rfl) rfl (by show 2 * 0 + _ ≤ _; exact Nat.le_of_eq rfl) (hb hby d17_20) (fun _ _ => ⟨rfl, e159, (by decide : 0 + 1 ≤ _), (by decide : 0 + 10 ≤ _)⟩)
 dsimp only [Pt.U, Pt.locs, Pt.cells, Pt.slots] at X160 l160 y160 z160 st160 hQ160
 subst l160 y160 z160
 obtain ⟨b160, k160, rfl, N160q, u160_0, u160_1, K160, u160_3, u160_4, u160_5, u160_6, u160_7, u160_8⟩ := hQ160
 have N160 := Fr.app NN155 N160q
 have G_b160 := Nat.le_trans ZN155 u160_0
 have KK160 : Keep h0 T160.heap [a1] := KK155.trans K160 (allS (P := fun x => x ∈ [a1] ∨ h0.size ≤ x) (Or.inl (List.mem_of_getElem? (i := 0) rfl)) all0)
 have ZN160 : n0 ≤ T160.heap.size := Nat.le_trans ZN155 K160.1
 have OL160 := OL155.keep K160 (allS P4 all0)
 refine goT st160 ?_
 show Go _ p e below s _ _ _ (T160.setTop (mkF m 23 #[rv a1, rv a2] []))
 refine c_iconst X160 hx hby 1 d17_23 rfl ?_
 refine c_retI X160 hx hby hlk hret d17_24 rfl (by simp) (by decide) rfl ⟨b160, k160, rfl, N160, (Nat.le_trans KK155.1 u160_0), u160_1, KK160, u160_3, u160_4, u160_5, u160_6, u160_7, u160_8⟩
def QX31 (Z : State) (a1 a2 b : Addr) (k : ClassId) (v0 : Addr) (h0 : Heap) (n0 : Nat) (v : Option Value) (h : Heap) (L : List Loc) : Prop := v = none ∧ Fr n0 L ∧ Keep h0 h [a1, b] ∧ Fld Z h a1 "java/util/AbstractList" "modCount" "I" (.int (2 : Int32)) ∧ Fld Z h a1 "java/util/ArrayList" "size" "I" (.int (2 : Int32)) ∧ Fld Z h a1 "java/util/ArrayList" "elementData" "[Ljava/lang/Object;" (.ref b) ∧ Exa Z h b "[Ljava/lang/Object;" ∧ Arv Z h b k (.object "java/lang/Object") (10 : Int32) [(.ref v0), (.ref a2), .null, .null, .null, .null, .null, .null, .null, .null] .null ∧ Ovr Z k "java/lang/Object"
theorem rmX31 {l : Launch} {Z : State} {a0 : Array Value} (hw : HW Z a0) (a1 a2 b : Addr) (k : ClassId) (v0 : Addr) (h0 : Heap) (n0 : Nat) (Z0 : n0 ≤ h0.size) (P0 : Exa Z h0 a1 "java/util/ArrayList") (P1 : n0 ≤ a1) (P2 : eS Z h0 a2) (P3 : n0 ≤ b) (P4 : a1 ≠ b) (P5 : Fld Z h0 a1 "java/util/AbstractList" "modCount" "I" (.int (2 : Int32))) (P6 : Fld Z h0 a1 "java/util/ArrayList" "size" "I" (.int (1 : Int32))) (P7 : Fld Z h0 a1 "java/util/ArrayList" "elementData" "[Ljava/lang/Object;" (.ref b)) (P8 : Exa Z h0 b "[Ljava/lang/Object;") (P9 : Arv Z h0 b k (.object "java/lang/Object") (10 : Int32) [(.ref v0), .null, .null, .null, .null, .null, .null, .null, .null, .null] .null) (P10 : Ovr Z k "java/lang/Object") : own_M l Z ⟨"java/util/ArrayList", "add", "(Ljava/lang/Object;[Ljava/lang/Object;I)V"⟩ jdk_38_method_24_code 4 none (rmk 0 0 0 0) #[.ref a1, .ref a2, .ref b, .int 1] h0 (QX31 Z a1 a2 b k v0 h0 n0) := by
 refine own_body rfl (plainFor_of_name pn_18) ?_
 intro p e s m below meth c s₁ hx hby hml hown hnm hlk hret X0 e0 hZ
 have N0 := Fr.nil n0
 show Go _ p e below s _ _ _ (s₁.setTop (mkF m 0 #[rv a1, rv a2, rv b, iv 1] []))
 refine c_iloadN X0 hx hby d18_0 rfl <| c_aloadN X0 hx hby d18_1 rfl rfl <| c_alen X0 hx hby hZ e0 P9 d18_2 <| c_icmpYes X0 hx hby 11 d18_3 (by decide) (by decide) <| c_aloadN X0 hx hby d18_11 rfl rfl <| c_iloadN X0 hx hby d18_12 rfl <| c_aloadN X0 hx hby d18_13 rfl rfl ?_
 obtain ⟨cl171, Ar171, q171, Sz171, Nz171, Hs171, Gs171⟩ := id P9
 have hin171 : ¬ ((1 : Int32) < 0 ∨ cl171.slots.size ≤ ((1 : Int32)).toNatClampNeg) := inb_of Sz171 ⟨by decide, by decide⟩
 obtain ⟨T171, h171, X171, e171, W171, st171⟩ := stR X0 hx hZ e0 Ar171 (j := (1 : Int32)) hin171 rfl (Sto.ofV Ar171 q171 P10 (Ins.of_exa P2 (gw hw 153 rfl))) (g := (mkF m 14 #[rv a1, rv a2, rv b, iv 1] [.ref a2, .int 1, .ref b])) rfl rfl (hb hby d18_14)
 have V171 := Arv.set Ar171 q171 Sz171 Nz171 Hs171 Gs171 rfl W171 1 rfl (Nat.le_of_ble_eq_true rfl)
 have VV171 : Arv Z h171 b k (.object "java/lang/Object") (10 : Int32) [(.ref v0), (.ref a2), .null, .null, .null, .null, .null, .null, .null, .null] .null := V171
 have KK171 := (Keep.refl h0 [a1, b]).wr W171 (Or.inl (List.mem_of_getElem? (i := 1) rfl))
 have ZN171 := Nat.le_trans Z0 (Keep.of_wr W171).1
 have NN171 := Fr.snoc X171 N0 P3
 refine go st171 ?_
 show Go _ p e below s _ _ _ (T171.setTop (mkF m 15 #[rv a1, rv a2, rv b, iv 1] []))
 refine c_aloadN X171 hx hby d18_15 rfl rfl <| c_iloadN X171 hx hby d18_16 rfl <| c_iconst X171 hx hby 1 d18_17 rfl <| c_iadd X171 hx hby d18_18 <| c_sh 19 [.int 2, .ref a1] rfl rfl ?_
 have cc172 := P6.other W171 (Or.inl P4)
 have cc173 := P0.wr W171
 refine c_putf X171 hx hby hZ hown (gw hw 85 rfl) Via.refl e171 cc172 cc173 (Or.inl (gw hw 86 rfl)) (gw hw 2 rfl) .int (by decide) rfl rfl d18_19 fun T174 h174 X174 e174 W174 => ?_
 have Fw174 := cc172.same W174
 have KK174 := KK171.wr W174 (Or.inl (List.mem_of_getElem? (i := 0) rfl))
 have ZN174 := Nat.le_trans ZN171 (Keep.of_wr W174).1
 have NN174 := Fr.snoc X174 NN171 P1
 refine c_sh 22 [] rfl rfl ?_
 have cc175 := (P5.other W171 (Or.inl P4)).other W174 (Or.inr (slot_ne (Or.inl (gw hw 23 rfl)) (Or.inl (gw hw 86 rfl)) (by decide) (t := .int) (t' := .int) (by decide) (by decide)))
 have cc176 := (P7.other W171 (Or.inl P4)).other W174 (Or.inr (slot_ne (Or.inl (gw hw 26 rfl)) (Or.inl (gw hw 86 rfl)) (by decide) (t := (.array (.object "java/lang/Object"))) (t' := .int) (by decide) (by decide)))
 have cc177 := (P8.wr W171).wr W174
 have cc178 := VV171.other W174 (Ne.symm P4)
 exact c_ret0 X174 hx hby hlk hret d18_22 (by decide) e174 ⟨rfl, NN174, KK174, cc175, Fw174, cc176, cc177, cc178, P10⟩
def QX11 (Z : State) (a1 a2 b : Addr) (k : ClassId) (v0 : Addr) (h0 : Heap) (n0 : Nat) (v : Option Value) (h : Heap) (L : List Loc) : Prop := v = some (.int (1 : Int32)) ∧ Fr n0 L ∧ Keep h0 h [a1, b] ∧ Fld Z h a1 "java/util/AbstractList" "modCount" "I" (.int (2 : Int32)) ∧ Fld Z h a1 "java/util/ArrayList" "size" "I" (.int (2 : Int32)) ∧ Fld Z h a1 "java/util/ArrayList" "elementData" "[Ljava/lang/Object;" (.ref b) ∧ Exa Z h b "[Ljava/lang/Object;" ∧ Arv Z h b k (.object "java/lang/Object") (10 : Int32) [(.ref v0), (.ref a2), .null, .null, .null, .null, .null, .null, .null, .null] .null ∧ Ovr Z k "java/lang/Object"
theorem rmX11 {l : Launch} {Z : State} {a0 : Array Value} (hw : HW Z a0) (a1 a2 b : Addr) (k : ClassId) (v0 : Addr) (h0 : Heap) (n0 : Nat) (Z0 : n0 ≤ h0.size) (P0 : Exa Z h0 a1 "java/util/ArrayList") (P1 : n0 ≤ a1) (P2 : eS Z h0 a2) (P3 : Fld Z h0 a1 "java/util/AbstractList" "modCount" "I" (.int (1 : Int32))) (P4 : Fld Z h0 a1 "java/util/ArrayList" "size" "I" (.int (1 : Int32))) (P5 : Fld Z h0 a1 "java/util/ArrayList" "elementData" "[Ljava/lang/Object;" (.ref b)) (P6 : Exa Z h0 b "[Ljava/lang/Object;") (P7 : Arv Z h0 b k (.object "java/lang/Object") (10 : Int32) [(.ref v0), .null, .null, .null, .null, .null, .null, .null, .null, .null] .null) (P8 : Ovr Z k "java/lang/Object") (P9 : n0 ≤ b) (P10 : a1 ≠ b) : own_M l Z ⟨"java/util/ArrayList", "add", "(Ljava/lang/Object;)Z"⟩ jdk_38_method_25_code 2 (some .boolean) (rmk 1 0 0 15) #[.ref a1, .ref a2] h0 (QX11 Z a1 a2 b k v0 h0 n0) := by
 refine own_body rfl (plainFor_of_name pn_17) ?_
 intro p e s m below meth c s₁ hx hby hml hown hnm hlk hret X0 e0 hZ
 have N0 := Fr.nil n0
 show Go _ p e below s _ _ _ (s₁.setTop (mkF m 0 #[rv a1, rv a2] []))
 refine c_aloadN X0 hx hby d17_0 rfl rfl <| c_dup X0 hx hby d17_1 rfl <| c_getf X0 hx hby hZ hown (gw hw 130 rfl) (Via.of (gw hw 131 rfl)) e0 P3 d17_2 fun T190 X190 e190 => ?_
 refine c_sh 5 [.int 1, .ref a1] rfl rfl <| c_iconst X190 hx hby 1 d17_5 rfl <| c_iadd X190 hx hby d17_6 <| c_sh 7 [.int 2, .ref a1] rfl rfl <| c_putf X190 hx hby hZ hown (gw hw 130 rfl) (Via.of (gw hw 131 rfl)) e190 P3 P0 (Or.inl (gw hw 23 rfl)) (gw hw 2 rfl) .int (by decide) rfl rfl d17_7 fun T191 h191 X191 e191 W191 => ?_
 have Fw191 := P3.same W191
 have KK191 := (Keep.refl h0 [a1, b]).wr W191 (Or.inl (List.mem_of_getElem? (i := 0) rfl))
 have ZN191 := Nat.le_trans Z0 (Keep.of_wr W191).1
 have NN191 := Fr.snoc X191 N0 P1
 refine c_sh 10 [] rfl rfl <| c_aloadN X191 hx hby d17_10 rfl rfl <| c_aloadN X191 hx hby d17_11 rfl rfl <| c_aloadN X191 hx hby d17_12 rfl rfl ?_
 have cc192 := P5.other W191 (Or.inr (slot_ne (Or.inl (gw hw 26 rfl)) (Or.inl (gw hw 23 rfl)) (by decide) (t := (.array (.object "java/lang/Object"))) (t' := .int) (by decide) (by decide)))
 refine c_getf X191 hx hby hZ hown (gw hw 25 rfl) Via.refl e191 cc192 d17_13 fun T193 X193 e193 => ?_
 refine c_sh 16 [.ref b, .ref a2, .ref a1] rfl rfl <| c_aloadN X193 hx hby d17_16 rfl rfl ?_
 have cc194 := P4.other W191 (Or.inr (slot_ne (Or.inl (gw hw 86 rfl)) (Or.inl (gw hw 23 rfl)) (by decide) (t := .int) (t' := .int) (by decide) (by decide)))
 refine c_getf X193 hx hby hZ hown (gw hw 85 rfl) Via.refl e193 cc194 d17_17 fun T195 X195 e195 => ?_
 refine c_sh 20 [.int 1, .ref b, .ref a2, .ref a1] rfl rfl ?_
 have cc197 := P0.wr W191
 have cc198 := P2.wr W191
 have cc199 := P6.wr W191
 have cc200 := P7.other W191 (Ne.symm P10)
 obtain ⟨cq196, q196, q196'⟩ := cc197.cell
 obtain ⟨_, _, ⟨T196, L196, k196, n196⟩, -, X196, ⟨Lc196, hQ196, l196, y196, z196⟩, st196⟩ := X195.privateBack hx (y := (⟨"java/util/ArrayList", "add", "(Ljava/lang/Object;[Ljava/lang/Object;I)V"⟩ : MethodName)) hown (mvT hZ (gw hw 132 rfl)) (mvT hZ (gw hw 133 rfl)) (mvT hZ (gw hw 135 rfl)) (Cond.privateMethod_at (mvP hZ (gw hw 134 rfl) (args := #[]))) (mvT hZ (gw hw 136 rfl)) (by decide) (backOf (W := 0) (rmX31 hw a1 a2 b k v0 h191 n0 ZN191 cc197 P1 cc198 P9 P10 Fw191 cc194 cc192 cc199 cc200 P8) hZ (gw hw 136 rfl) (gw hw 3 rfl) (by decide) (by decide)) (g := (mkF m 20 #[rv a1, rv a2] [.int 1, .ref b, .ref a2, .ref a1])) rfl (by rw [hml]; rfl) (Steps.refl _) (a := a1) (by rw [e195]; exact q196) q196' (argsL := [(.ref a2), (.ref b), (.int (1 : Int32))]) (rest := []) (lenOf pd_8 rfl) rfl (by show 2 * 0 + _ ≤ _; exact Nat.le_of_eq rfl) (hb hby d17_20) (fun _ _ => ⟨rfl, e195, (by decide : 0 + 0 ≤ _), (by decide : 0 + 0 ≤ _)⟩)
 dsimp only [Pt.U, Pt.locs, Pt.cells, Pt.slots] at X196 l196 y196 z196 st196 hQ196
 subst l196 y196 z196
 obtain ⟨rfl, N196q, K196, u196_1, u196_2, u196_3, u196_4, u196_5, u196_6⟩ := hQ196
 have N196 := Fr.app NN191 N196q
 have KK196 : Keep h0 T196.heap [a1, b] := KK191.trans K196 (allS (P := fun x => x ∈ [a1, b] ∨ h0.size ≤ x) (Or.inl (List.mem_of_getElem? (i := 0) rfl)) (allS (P := fun x => x ∈ [a1, b] ∨ h0.size ≤ x) (Or.inl (List.mem_of_getElem? (i := 1) rfl)) all0))
 have ZN196 : n0 ≤ T196.heap.size := Nat.le_trans ZN191 K196.1
 refine goT st196 ?_
 show Go _ p e below s _ _ _ (T196.setTop (mkF m 23 #[rv a1, rv a2] []))
 refine c_iconst X196 hx hby 1 d17_23 rfl ?_
 refine c_retI X196 hx hby hlk hret d17_24 rfl (by simp) (by decide) rfl ⟨rfl, N196, KK196, u196_1, u196_2, u196_3, u196_4, u196_5, u196_6⟩
def QX32 (Z : State) (a1 a2 b : Addr) (k : ClassId) (v0 v1 : Addr) (h0 : Heap) (n0 : Nat) (v : Option Value) (h : Heap) (L : List Loc) : Prop := v = none ∧ Fr n0 L ∧ Keep h0 h [a1, b] ∧ Fld Z h a1 "java/util/AbstractList" "modCount" "I" (.int (3 : Int32)) ∧ Fld Z h a1 "java/util/ArrayList" "size" "I" (.int (3 : Int32)) ∧ Fld Z h a1 "java/util/ArrayList" "elementData" "[Ljava/lang/Object;" (.ref b) ∧ Exa Z h b "[Ljava/lang/Object;" ∧ Arv Z h b k (.object "java/lang/Object") (10 : Int32) [(.ref v0), (.ref v1), (.ref a2), .null, .null, .null, .null, .null, .null, .null] .null ∧ Ovr Z k "java/lang/Object"
theorem rmX32 {l : Launch} {Z : State} {a0 : Array Value} (hw : HW Z a0) (a1 a2 b : Addr) (k : ClassId) (v0 v1 : Addr) (h0 : Heap) (n0 : Nat) (Z0 : n0 ≤ h0.size) (P0 : Exa Z h0 a1 "java/util/ArrayList") (P1 : n0 ≤ a1) (P2 : eS Z h0 a2) (P3 : n0 ≤ b) (P4 : a1 ≠ b) (P5 : Fld Z h0 a1 "java/util/AbstractList" "modCount" "I" (.int (3 : Int32))) (P6 : Fld Z h0 a1 "java/util/ArrayList" "size" "I" (.int (2 : Int32))) (P7 : Fld Z h0 a1 "java/util/ArrayList" "elementData" "[Ljava/lang/Object;" (.ref b)) (P8 : Exa Z h0 b "[Ljava/lang/Object;") (P9 : Arv Z h0 b k (.object "java/lang/Object") (10 : Int32) [(.ref v0), (.ref v1), .null, .null, .null, .null, .null, .null, .null, .null] .null) (P10 : Ovr Z k "java/lang/Object") : own_M l Z ⟨"java/util/ArrayList", "add", "(Ljava/lang/Object;[Ljava/lang/Object;I)V"⟩ jdk_38_method_24_code 4 none (rmk 0 0 0 0) #[.ref a1, .ref a2, .ref b, .int 2] h0 (QX32 Z a1 a2 b k v0 v1 h0 n0) := by
 refine own_body rfl (plainFor_of_name pn_18) ?_
 intro p e s m below meth c s₁ hx hby hml hown hnm hlk hret X0 e0 hZ
 have N0 := Fr.nil n0
 show Go _ p e below s _ _ _ (s₁.setTop (mkF m 0 #[rv a1, rv a2, rv b, iv 2] []))
 refine c_iloadN X0 hx hby d18_0 rfl <| c_aloadN X0 hx hby d18_1 rfl rfl <| c_alen X0 hx hby hZ e0 P9 d18_2 <| c_icmpYes X0 hx hby 11 d18_3 (by decide) (by decide) <| c_aloadN X0 hx hby d18_11 rfl rfl <| c_iloadN X0 hx hby d18_12 rfl <| c_aloadN X0 hx hby d18_13 rfl rfl ?_
 obtain ⟨cl209, Ar209, q209, Sz209, Nz209, Hs209, Gs209⟩ := id P9
 have hin209 : ¬ ((2 : Int32) < 0 ∨ cl209.slots.size ≤ ((2 : Int32)).toNatClampNeg) := inb_of Sz209 ⟨by decide, by decide⟩
 obtain ⟨T209, h209, X209, e209, W209, st209⟩ := stR X0 hx hZ e0 Ar209 (j := (2 : Int32)) hin209 rfl (Sto.ofV Ar209 q209 P10 (Ins.of_exa P2 (gw hw 153 rfl))) (g := (mkF m 14 #[rv a1, rv a2, rv b, iv 2] [.ref a2, .int 2, .ref b])) rfl rfl (hb hby d18_14)
 have V209 := Arv.set Ar209 q209 Sz209 Nz209 Hs209 Gs209 rfl W209 2 rfl (Nat.le_of_ble_eq_true rfl)
 have VV209 : Arv Z h209 b k (.object "java/lang/Object") (10 : Int32) [(.ref v0), (.ref v1), (.ref a2), .null, .null, .null, .null, .null, .null, .null] .null := V209
 have KK209 := (Keep.refl h0 [a1, b]).wr W209 (Or.inl (List.mem_of_getElem? (i := 1) rfl))
 have ZN209 := Nat.le_trans Z0 (Keep.of_wr W209).1
 have NN209 := Fr.snoc X209 N0 P3
 refine go st209 ?_
 show Go _ p e below s _ _ _ (T209.setTop (mkF m 15 #[rv a1, rv a2, rv b, iv 2] []))
 refine c_aloadN X209 hx hby d18_15 rfl rfl <| c_iloadN X209 hx hby d18_16 rfl <| c_iconst X209 hx hby 1 d18_17 rfl <| c_iadd X209 hx hby d18_18 <| c_sh 19 [.int 3, .ref a1] rfl rfl ?_
 have cc210 := P6.other W209 (Or.inl P4)
 have cc211 := P0.wr W209
 refine c_putf X209 hx hby hZ hown (gw hw 85 rfl) Via.refl e209 cc210 cc211 (Or.inl (gw hw 86 rfl)) (gw hw 2 rfl) .int (by decide) rfl rfl d18_19 fun T212 h212 X212 e212 W212 => ?_
 have Fw212 := cc210.same W212
 have KK212 := KK209.wr W212 (Or.inl (List.mem_of_getElem? (i := 0) rfl))
 have ZN212 := Nat.le_trans ZN209 (Keep.of_wr W212).1
 have NN212 := Fr.snoc X212 NN209 P1
 refine c_sh 22 [] rfl rfl ?_
 have cc213 := (P5.other W209 (Or.inl P4)).other W212 (Or.inr (slot_ne (Or.inl (gw hw 23 rfl)) (Or.inl (gw hw 86 rfl)) (by decide) (t := .int) (t' := .int) (by decide) (by decide)))
 have cc214 := (P7.other W209 (Or.inl P4)).other W212 (Or.inr (slot_ne (Or.inl (gw hw 26 rfl)) (Or.inl (gw hw 86 rfl)) (by decide) (t := (.array (.object "java/lang/Object"))) (t' := .int) (by decide) (by decide)))
 have cc215 := (P8.wr W209).wr W212
 have cc216 := VV209.other W212 (Ne.symm P4)
 exact c_ret0 X212 hx hby hlk hret d18_22 (by decide) e212 ⟨rfl, NN212, KK212, cc213, Fw212, cc214, cc215, cc216, P10⟩
def QX12 (Z : State) (a1 a2 b : Addr) (k : ClassId) (v0 v1 : Addr) (h0 : Heap) (n0 : Nat) (v : Option Value) (h : Heap) (L : List Loc) : Prop := v = some (.int (1 : Int32)) ∧ Fr n0 L ∧ Keep h0 h [a1, b] ∧ Fld Z h a1 "java/util/AbstractList" "modCount" "I" (.int (3 : Int32)) ∧ Fld Z h a1 "java/util/ArrayList" "size" "I" (.int (3 : Int32)) ∧ Fld Z h a1 "java/util/ArrayList" "elementData" "[Ljava/lang/Object;" (.ref b) ∧ Exa Z h b "[Ljava/lang/Object;" ∧ Arv Z h b k (.object "java/lang/Object") (10 : Int32) [(.ref v0), (.ref v1), (.ref a2), .null, .null, .null, .null, .null, .null, .null] .null ∧ Ovr Z k "java/lang/Object"
theorem rmX12 {l : Launch} {Z : State} {a0 : Array Value} (hw : HW Z a0) (a1 a2 b : Addr) (k : ClassId) (v0 v1 : Addr) (h0 : Heap) (n0 : Nat) (Z0 : n0 ≤ h0.size) (P0 : Exa Z h0 a1 "java/util/ArrayList") (P1 : n0 ≤ a1) (P2 : eS Z h0 a2) (P3 : Fld Z h0 a1 "java/util/AbstractList" "modCount" "I" (.int (2 : Int32))) (P4 : Fld Z h0 a1 "java/util/ArrayList" "size" "I" (.int (2 : Int32))) (P5 : Fld Z h0 a1 "java/util/ArrayList" "elementData" "[Ljava/lang/Object;" (.ref b)) (P6 : Exa Z h0 b "[Ljava/lang/Object;") (P7 : Arv Z h0 b k (.object "java/lang/Object") (10 : Int32) [(.ref v0), (.ref v1), .null, .null, .null, .null, .null, .null, .null, .null] .null) (P8 : Ovr Z k "java/lang/Object") (P9 : n0 ≤ b) (P10 : a1 ≠ b) : own_M l Z ⟨"java/util/ArrayList", "add", "(Ljava/lang/Object;)Z"⟩ jdk_38_method_25_code 2 (some .boolean) (rmk 1 0 0 15) #[.ref a1, .ref a2] h0 (QX12 Z a1 a2 b k v0 v1 h0 n0) := by
 refine own_body rfl (plainFor_of_name pn_17) ?_
 intro p e s m below meth c s₁ hx hby hml hown hnm hlk hret X0 e0 hZ
 have N0 := Fr.nil n0
 show Go _ p e below s _ _ _ (s₁.setTop (mkF m 0 #[rv a1, rv a2] []))
 refine c_aloadN X0 hx hby d17_0 rfl rfl <| c_dup X0 hx hby d17_1 rfl <| c_getf X0 hx hby hZ hown (gw hw 130 rfl) (Via.of (gw hw 131 rfl)) e0 P3 d17_2 fun T228 X228 e228 => ?_
 refine c_sh 5 [.int 2, .ref a1] rfl rfl <| c_iconst X228 hx hby 1 d17_5 rfl <| c_iadd X228 hx hby d17_6 <| c_sh 7 [.int 3, .ref a1] rfl rfl <| c_putf X228 hx hby hZ hown (gw hw 130 rfl) (Via.of (gw hw 131 rfl)) e228 P3 P0 (Or.inl (gw hw 23 rfl)) (gw hw 2 rfl) .int (by decide) rfl rfl d17_7 fun T229 h229 X229 e229 W229 => ?_
 have Fw229 := P3.same W229
 have KK229 := (Keep.refl h0 [a1, b]).wr W229 (Or.inl (List.mem_of_getElem? (i := 0) rfl))
 have ZN229 := Nat.le_trans Z0 (Keep.of_wr W229).1
 have NN229 := Fr.snoc X229 N0 P1
 refine c_sh 10 [] rfl rfl <| c_aloadN X229 hx hby d17_10 rfl rfl <| c_aloadN X229 hx hby d17_11 rfl rfl <| c_aloadN X229 hx hby d17_12 rfl rfl ?_
 have cc230 := P5.other W229 (Or.inr (slot_ne (Or.inl (gw hw 26 rfl)) (Or.inl (gw hw 23 rfl)) (by decide) (t := (.array (.object "java/lang/Object"))) (t' := .int) (by decide) (by decide)))
 refine c_getf X229 hx hby hZ hown (gw hw 25 rfl) Via.refl e229 cc230 d17_13 fun T231 X231 e231 => ?_
 refine c_sh 16 [.ref b, .ref a2, .ref a1] rfl rfl <| c_aloadN X231 hx hby d17_16 rfl rfl ?_
 have cc232 := P4.other W229 (Or.inr (slot_ne (Or.inl (gw hw 86 rfl)) (Or.inl (gw hw 23 rfl)) (by decide) (t := .int) (t' := .int) (by decide) (by decide)))
 refine c_getf X231 hx hby hZ hown (gw hw 85 rfl) Via.refl e231 cc232 d17_17 fun T233 X233 e233 => ?_
 refine c_sh 20 [.int 2, .ref b, .ref a2, .ref a1] rfl rfl ?_
 have cc235 := P0.wr W229
 have cc236 := P2.wr W229
 have cc237 := P6.wr W229
 have cc238 := P7.other W229 (Ne.symm P10)
 obtain ⟨cq234, q234, q234'⟩ := cc235.cell
 obtain ⟨_, _, ⟨T234, L234, k234, n234⟩, -, X234, ⟨Lc234, hQ234, l234, y234, z234⟩, st234⟩ := X233.privateBack hx (y := (⟨"java/util/ArrayList", "add", "(Ljava/lang/Object;[Ljava/lang/Object;I)V"⟩ : MethodName)) hown (mvT hZ (gw hw 132 rfl)) (mvT hZ (gw hw 133 rfl)) (mvT hZ (gw hw 135 rfl)) (Cond.privateMethod_at (mvP hZ (gw hw 134 rfl) (args := #[]))) (mvT hZ (gw hw 136 rfl)) (by decide) (backOf (W := 0) (rmX32 hw a1 a2 b k v0 v1 h229 n0 ZN229 cc235 P1 cc236 P9 P10 Fw229 cc232 cc230 cc237 cc238 P8) hZ (gw hw 136 rfl) (gw hw 3 rfl) (by decide) (by decide)) (g := (mkF m 20 #[rv a1, rv a2] [.int 2, .ref b, .ref a2, .ref a1])) rfl (by rw [hml]; rfl) (Steps.refl _) (a := a1) (by rw [e233]; exact q234) q234' (argsL := [(.ref a2), (.ref b), (.int (2 : Int32))]) (rest := []) (lenOf pd_8 rfl) rfl (by show 2 * 0 + _ ≤ _; exact Nat.le_of_eq rfl) (hb hby d17_20) (fun _ _ => ⟨rfl, e233, (by decide : 0 + 0 ≤ _), (by decide : 0 + 0 ≤ _)⟩)
 dsimp only [Pt.U, Pt.locs, Pt.cells, Pt.slots] at X234 l234 y234 z234 st234 hQ234
 subst l234 y234 z234
 obtain ⟨rfl, N234q, K234, u234_1, u234_2, u234_3, u234_4, u234_5, u234_6⟩ := hQ234
 have N234 := Fr.app NN229 N234q
 have KK234 : Keep h0 T234.heap [a1, b] := KK229.trans K234 (allS (P := fun x => x ∈ [a1, b] ∨ h0.size ≤ x) (Or.inl (List.mem_of_getElem? (i := 0) rfl)) (allS (P := fun x => x ∈ [a1, b] ∨ h0.size ≤ x) (Or.inl (List.mem_of_getElem? (i := 1) rfl)) all0))
 have ZN234 : n0 ≤ T234.heap.size := Nat.le_trans ZN229 K234.1
 refine goT st234 ?_
 show Go _ p e below s _ _ _ (T234.setTop (mkF m 23 #[rv a1, rv a2] []))
 refine c_iconst X234 hx hby 1 d17_23 rfl ?_
 refine c_retI X234 hx hby hlk hret d17_24 rfl (by simp) (by decide) rfl ⟨rfl, N234, KK234, u234_1, u234_2, u234_3, u234_4, u234_5, u234_6⟩
theorem d11_0 : decode jdk_38_method_9_code 0 = .ok (.aload_n 0, 1) := by decide +kernel
theorem d11_1 : decode jdk_38_method_9_code 1 = .ok (.getfield 48, 3) := by decide +kernel
theorem d11_4 : decode jdk_38_method_9_code 4 = .ok (.ifCond .ne 7, 3) := by decide +kernel
theorem d11_7 : decode jdk_38_method_9_code 7 = .ok (.iconst 1, 1) := by decide +kernel
theorem d11_8 : decode jdk_38_method_9_code 8 = .ok (.goto 4, 3) := by decide +kernel
theorem d11_12 : decode jdk_38_method_9_code 12 = .ok (.ireturn, 1) := by decide +kernel
theorem pn_11 : plainName "java/util/ArrayList" = true := by first | (simp [plainName, overriddenIn]; done) | decide +kernel
def QIE0 (Z : State) (a1 : Addr) (h0 : Heap) (n0 : Nat) (v : Option Value) (h : Heap) (L : List Loc) : Prop := v = some (.int (1 : Int32)) ∧ Fr n0 L ∧ h = h0
theorem rmIE0 {l : Launch} {Z : State} {a0 : Array Value} (hw : HW Z a0) (a1 : Addr) (h0 : Heap) (n0 : Nat) (Z0 : n0 ≤ h0.size) (P0 : Fld Z h0 a1 "java/util/ArrayList" "size" "I" (.int (0 : Int32))) : own_M l Z ⟨"java/util/ArrayList", "isEmpty", "()Z"⟩ jdk_38_method_9_code 1 (some .boolean) (rmk 0 0 0 0) #[.ref a1] h0 (QIE0 Z a1 h0 n0) := by
 refine own_body rfl (plainFor_of_name pn_11) ?_
 intro p e s m below meth c s₁ hx hby hml hown hnm hlk hret X0 e0 hZ
 have N0 := Fr.nil n0
 show Go _ p e below s _ _ _ (s₁.setTop (mkF m 0 #[rv a1] []))
 refine c_aloadN X0 hx hby d11_0 rfl rfl <| c_getf X0 hx hby hZ hown (gw hw 85 rfl) Via.refl e0 P0 d11_1 fun T240 X240 e240 => ?_
 refine c_sh 4 [.int 0] rfl rfl <| c_ifNo X240 hx hby d11_4 ((if0 _ _).trans (teq (rfl : (0 : Int32) = (0 : Int32))).2) <| c_iconst X240 hx hby 1 d11_7 rfl <| c_goto X240 hx hby 12 d11_8 (by decide) ?_
 refine c_retI X240 hx hby hlk hret d11_12 rfl (by simp) (by decide) e240 ⟨rfl, N0, rfl⟩
theorem d11_11 : decode jdk_38_method_9_code 11 = .ok (.iconst 0, 1) := by decide +kernel
def QIE1 (Z : State) (a1 : Addr) (h0 : Heap) (n0 : Nat) (v : Option Value) (h : Heap) (L : List Loc) : Prop := v = some (.int (0 : Int32)) ∧ Fr n0 L ∧ h = h0
theorem rmIE1 {l : Launch} {Z : State} {a0 : Array Value} (hw : HW Z a0) (a1 : Addr) (h0 : Heap) (n0 : Nat) (Z0 : n0 ≤ h0.size) (P0 : Fld Z h0 a1 "java/util/ArrayList" "size" "I" (.int (1 : Int32))) : own_M l Z ⟨"java/util/ArrayList", "isEmpty", "()Z"⟩ jdk_38_method_9_code 1 (some .boolean) (rmk 0 0 0 0) #[.ref a1] h0 (QIE1 Z a1 h0 n0) := by
 refine own_body rfl (plainFor_of_name pn_11) ?_
 intro p e s m below meth c s₁ hx hby hml hown hnm hlk hret X0 e0 hZ
 have N0 := Fr.nil n0
 show Go _ p e below s _ _ _ (s₁.setTop (mkF m 0 #[rv a1] []))
 refine c_aloadN X0 hx hby d11_0 rfl rfl <| c_getf X0 hx hby hZ hown (gw hw 85 rfl) Via.refl e0 P0 d11_1 fun T242 X242 e242 => ?_
 refine c_sh 4 [.int 1] rfl rfl <| c_ifYes X242 hx hby 11 d11_4 (by decide) (by decide) <| c_iconst X242 hx hby 0 d11_11 rfl ?_
 refine c_retI X242 hx hby hlk hret d11_12 rfl (by simp) (by decide) e242 ⟨rfl, N0, rfl⟩
def QIE2 (Z : State) (a1 : Addr) (h0 : Heap) (n0 : Nat) (v : Option Value) (h : Heap) (L : List Loc) : Prop := v = some (.int (0 : Int32)) ∧ Fr n0 L ∧ h = h0
theorem rmIE2 {l : Launch} {Z : State} {a0 : Array Value} (hw : HW Z a0) (a1 : Addr) (h0 : Heap) (n0 : Nat) (Z0 : n0 ≤ h0.size) (P0 : Fld Z h0 a1 "java/util/ArrayList" "size" "I" (.int (2 : Int32))) : own_M l Z ⟨"java/util/ArrayList", "isEmpty", "()Z"⟩ jdk_38_method_9_code 1 (some .boolean) (rmk 0 0 0 0) #[.ref a1] h0 (QIE2 Z a1 h0 n0) := by
 refine own_body rfl (plainFor_of_name pn_11) ?_
 intro p e s m below meth c s₁ hx hby hml hown hnm hlk hret X0 e0 hZ
 have N0 := Fr.nil n0
 show Go _ p e below s _ _ _ (s₁.setTop (mkF m 0 #[rv a1] []))
 refine c_aloadN X0 hx hby d11_0 rfl rfl <| c_getf X0 hx hby hZ hown (gw hw 85 rfl) Via.refl e0 P0 d11_1 fun T244 X244 e244 => ?_
 refine c_sh 4 [.int 2] rfl rfl <| c_ifYes X244 hx hby 11 d11_4 (by decide) (by decide) <| c_iconst X244 hx hby 0 d11_11 rfl ?_
 refine c_retI X244 hx hby hlk hret d11_12 rfl (by simp) (by decide) e244 ⟨rfl, N0, rfl⟩
def QIE3 (Z : State) (a1 : Addr) (h0 : Heap) (n0 : Nat) (v : Option Value) (h : Heap) (L : List Loc) : Prop := v = some (.int (0 : Int32)) ∧ Fr n0 L ∧ h = h0
theorem rmIE3 {l : Launch} {Z : State} {a0 : Array Value} (hw : HW Z a0) (a1 : Addr) (h0 : Heap) (n0 : Nat) (Z0 : n0 ≤ h0.size) (P0 : Fld Z h0 a1 "java/util/ArrayList" "size" "I" (.int (3 : Int32))) : own_M l Z ⟨"java/util/ArrayList", "isEmpty", "()Z"⟩ jdk_38_method_9_code 1 (some .boolean) (rmk 0 0 0 0) #[.ref a1] h0 (QIE3 Z a1 h0 n0) := by
 refine own_body rfl (plainFor_of_name pn_11) ?_
 intro p e s m below meth c s₁ hx hby hml hown hnm hlk hret X0 e0 hZ
 have N0 := Fr.nil n0
 show Go _ p e below s _ _ _ (s₁.setTop (mkF m 0 #[rv a1] []))
 refine c_aloadN X0 hx hby d11_0 rfl rfl <| c_getf X0 hx hby hZ hown (gw hw 85 rfl) Via.refl e0 P0 d11_1 fun T246 X246 e246 => ?_
 refine c_sh 4 [.int 3] rfl rfl <| c_ifYes X246 hx hby 11 d11_4 (by decide) (by decide) <| c_iconst X246 hx hby 0 d11_11 rfl ?_
 refine c_retI X246 hx hby hlk hret d11_12 rfl (by simp) (by decide) e246 ⟨rfl, N0, rfl⟩
theorem d12_0 : decode jdk_40_method_36_code 0 = .ok (.getstatic 90, 3) := by decide +kernel
theorem d12_3 : decode jdk_40_method_36_code 3 = .ok (.areturn, 1) := by decide +kernel
theorem pn_12 : plainName "java/util/List" = true := by first | (simp [plainName, overriddenIn]; done) | decide +kernel
def Q12 (Z : State) (el : Addr) (h0 : Heap) (n0 : Nat) (v : Option Value) (h : Heap) (L : List Loc) : Prop := v = some (.ref el) ∧ Fr n0 L ∧ h = h0
theorem rm12 {l : Launch} {Z : State} {a0 : Array Value} (hw : HW Z a0) (el : Addr) (h0 : Heap) (n0 : Nat) (Z0 : n0 ≤ h0.size) (P0 : Sta Z Z.heap "java/util/ImmutableCollections" "EMPTY_LIST" "Ljava/util/ImmutableCollections$ListN;" (.ref el)) (P1 : Old Z n0 h0) : own_M l Z ⟨"java/util/List", "of", "()Ljava/util/List;"⟩ jdk_40_method_36_code 0 (some (.object "java/util/List")) (rmk 0 0 0 0) #[] h0 (Q12 Z el h0 n0) := by
 refine own_body rfl (plainFor_of_name pn_12) ?_
 intro p e s m below meth c s₁ hx hby hml hown hnm hlk hret X0 e0 hZ
 have N0 := Fr.nil n0
 show Go _ p e below s _ _ _ (s₁.setTop (mkF m 0 #[] []))
 refine c_gets X0 hx hby hZ hown (gw hw 90 rfl) Via.refl e0 (P0.ext P1.2) d12_0 fun T248 X248 e248 => ?_
 refine c_sh 3 [.ref el] rfl rfl ?_
 exact c_retA X248 hx hby hlk hret d12_3 rfl ⟨rfl, rfl⟩ (by decide) e248 ⟨rfl, N0, rfl⟩
theorem d28_0 : decode jdk_31_method_10_code 0 = .ok (.aload_n 0, 1) := by decide +kernel
theorem d28_1 : decode jdk_31_method_10_code 1 = .ok (.ifnonnull 11, 3) := by decide +kernel
theorem d28_12 : decode jdk_31_method_10_code 12 = .ok (.aload_n 0, 1) := by decide +kernel
theorem d28_13 : decode jdk_31_method_10_code 13 = .ok (.areturn, 1) := by decide +kernel
theorem pn_28 : plainName "java/util/Objects" = true := by first | (simp [plainName, overriddenIn]; done) | decide +kernel
def Q28 (Z : State) (a1 : Addr) (h0 : Heap) (n0 : Nat) (v : Option Value) (h : Heap) (L : List Loc) : Prop := v = some (.ref a1) ∧ Fr n0 L ∧ h = h0
theorem rm28 {l : Launch} {Z : State} {a0 : Array Value} (hw : HW Z a0) (a1 : Addr) (h0 : Heap) (n0 : Nat) (Z0 : n0 ≤ h0.size)  : own_M l Z ⟨"java/util/Objects", "requireNonNull", "(Ljava/lang/Object;)Ljava/lang/Object;"⟩ jdk_31_method_10_code 1 (some (.object "java/lang/Object")) (rmk 0 0 0 0) #[.ref a1] h0 (Q28 Z a1 h0 n0) := by
 refine own_body rfl (plainFor_of_name pn_28) ?_
 intro p e s m below meth c s₁ hx hby hml hown hnm hlk hret X0 e0 hZ
 have N0 := Fr.nil n0
 show Go _ p e below s _ _ _ (s₁.setTop (mkF m 0 #[rv a1] []))
 refine c_aloadN X0 hx hby d28_0 rfl rfl <| c_ifnonnullYes X0 hx hby 12 d28_1 (by decide) <| c_aloadN X0 hx hby d28_12 rfl rfl ?_
 exact c_retA X0 hx hby hlk hret d28_13 rfl ⟨rfl, rfl⟩ (by decide) e0 ⟨rfl, N0, rfl⟩
theorem d31_0 : decode jdk_47_method_1_code 0 = .ok (.aload_n 0, 1) := by decide +kernel
theorem d31_1 : decode jdk_47_method_1_code 1 = .ok (.invokespecial 1, 3) := by decide +kernel
theorem d31_4 : decode jdk_47_method_1_code 4 = .ok (.return_, 1) := by decide +kernel
theorem pn_31 : plainName "java/util/ImmutableCollections$AbstractImmutableCollection" = true := by first | (simp [plainName, overriddenIn]; done) | decide +kernel
def Q31 (Z : State) (a1 : Addr) (h0 : Heap) (n0 : Nat) (v : Option Value) (h : Heap) (L : List Loc) : Prop := v = none ∧ Fr n0 L ∧ h = h0
theorem rm31 {l : Launch} {Z : State} {a0 : Array Value} (hw : HW Z a0) (a1 : Addr) (h0 : Heap) (n0 : Nat) (Z0 : n0 ≤ h0.size)  : own_M l Z ⟨"java/util/ImmutableCollections$AbstractImmutableCollection", "<init>", "()V"⟩ jdk_47_method_1_code 1 none (rmk 2 0 0 24) #[.ref a1] h0 (Q31 Z a1 h0 n0) := by
 refine own_body rfl (plainFor_of_name pn_31) ?_
 intro p e s m below meth c s₁ hx hby hml hown hnm hlk hret X0 e0 hZ
 have N0 := Fr.nil n0
 show Go _ p e below s _ _ _ (s₁.setTop (mkF m 0 #[rv a1] []))
 refine c_aloadN X0 hx hby d31_0 rfl rfl <| c_init X0 hx hby hZ hown hml (gw hw 215 rfl) (gw hw 14 rfl) (gw hw 18 rfl) (gw hw 17 rfl) rfl e0 (rm3 hw a1 h0 n0 Z0 ) pd_4 rfl d31_1 [] rfl 0 (by decide) rfl rfl fun o250 T250 L250 X250 hQ250 => ?_
 obtain ⟨rfl, N250q, e250⟩ := hQ250
 have N250 := Fr.app N0 N250q
 refine c_sh 4 [] rfl rfl ?_
 exact c_ret0 X250 hx hby hlk hret d31_4 (by decide) e250 ⟨rfl, N250, rfl⟩
theorem d30_0 : decode jdk_46_method_1_code 0 = .ok (.aload_n 0, 1) := by decide +kernel
theorem d30_1 : decode jdk_46_method_1_code 1 = .ok (.invokespecial 1, 3) := by decide +kernel
theorem d30_4 : decode jdk_46_method_1_code 4 = .ok (.return_, 1) := by decide +kernel
theorem pn_30 : plainName "java/util/ImmutableCollections$AbstractImmutableList" = true := by first | (simp [plainName, overriddenIn]; done) | decide +kernel
def Q30 (Z : State) (a1 : Addr) (h0 : Heap) (n0 : Nat) (v : Option Value) (h : Heap) (L : List Loc) : Prop := v = none ∧ Fr n0 L ∧ h = h0
theorem rm30 {l : Launch} {Z : State} {a0 : Array Value} (hw : HW Z a0) (a1 : Addr) (h0 : Heap) (n0 : Nat) (Z0 : n0 ≤ h0.size)  : own_M l Z ⟨"java/util/ImmutableCollections$AbstractImmutableList", "<init>", "()V"⟩ jdk_46_method_1_code 1 none (rmk 3 0 0 36) #[.ref a1] h0 (Q30 Z a1 h0 n0) := by
 refine own_body rfl (plainFor_of_name pn_30) ?_
 intro p e s m below meth c s₁ hx hby hml hown hnm hlk hret X0 e0 hZ
 have N0 := Fr.nil n0
 show Go _ p e below s _ _ _ (s₁.setTop (mkF m 0 #[rv a1] []))
 refine c_aloadN X0 hx hby d30_0 rfl rfl <| c_init X0 hx hby hZ hown hml (gw hw 209 rfl) (gw hw 210 rfl) (gw hw 214 rfl) (gw hw 213 rfl) rfl e0 (rm31 hw a1 h0 n0 Z0 ) pd_4 rfl d30_1 [] rfl 0 (by decide) rfl rfl fun o252 T252 L252 X252 hQ252 => ?_
 obtain ⟨rfl, N252q, e252⟩ := hQ252
 have N252 := Fr.app N0 N252q
 refine c_sh 4 [] rfl rfl ?_
 exact c_ret0 X252 hx hby hlk hret d30_4 (by decide) e252 ⟨rfl, N252, rfl⟩
theorem d36_0 : decode jdk_44_method_1_code 0 = .ok (.aload_n 0, 1) := by decide +kernel
theorem d36_1 : decode jdk_44_method_1_code 1 = .ok (.invokespecial 1, 3) := by decide +kernel
theorem d36_4 : decode jdk_44_method_1_code 4 = .ok (.aload_n 0, 1) := by decide +kernel
theorem d36_5 : decode jdk_44_method_1_code 5 = .ok (.aload_n 1, 1) := by decide +kernel
theorem d36_6 : decode jdk_44_method_1_code 6 = .ok (.invokestatic 7, 3) := by decide +kernel
theorem d36_9 : decode jdk_44_method_1_code 9 = .ok (.putfield 13, 3) := by decide +kernel
theorem d36_12 : decode jdk_44_method_1_code 12 = .ok (.aload_n 0, 1) := by decide +kernel
theorem d36_13 : decode jdk_44_method_1_code 13 = .ok (.getstatic 19, 3) := by decide +kernel
theorem d36_16 : decode jdk_44_method_1_code 16 = .ok (.putfield 24, 3) := by decide +kernel
theorem d36_19 : decode jdk_44_method_1_code 19 = .ok (.return_, 1) := by decide +kernel
theorem pn_36 : plainName "java/util/ImmutableCollections$List12" = true := by first | (simp [plainName, overriddenIn]; done) | decide +kernel
theorem pd_9 : parseMethodDescriptor "(Ljava/lang/Object;)Ljava/lang/Object;" = some ⟨[(.object "java/lang/Object")], some (.object "java/lang/Object")⟩ := by decide +kernel
def Q36 (Z : State) (a1 a2 : Addr) (u1 u2 : Value) (em : Addr) (h0 : Heap) (n0 : Nat) (v : Option Value) (h : Heap) (L : List Loc) : Prop := v = none ∧ Fr n0 L ∧ Keep h0 h [a1]
theorem rm36 {l : Launch} {Z : State} {a0 : Array Value} (hw : HW Z a0) (a1 a2 : Addr) (u1 u2 : Value) (em : Addr) (h0 : Heap) (n0 : Nat) (Z0 : n0 ≤ h0.size) (P0 : Sta Z Z.heap "java/util/ImmutableCollections" "EMPTY" "Ljava/lang/Object;" (.ref em)) (P1 : Old Z n0 h0) (P2 : Exa Z h0 a1 "java/util/ImmutableCollections$List12") (P3 : n0 ≤ a1) (P4 : Fld Z h0 a1 "java/util/ImmutableCollections$List12" "e0" "Ljava/lang/Object;" u1) (P5 : Fld Z h0 a1 "java/util/ImmutableCollections$List12" "e1" "Ljava/lang/Object;" u2) : own_M l Z ⟨"java/util/ImmutableCollections$List12", "<init>", "(Ljava/lang/Object;)V"⟩ jdk_44_method_1_code 2 none (rmk 4 0 0 48) #[.ref a1, .ref a2] h0 (Q36 Z a1 a2 u1 u2 em h0 n0) := by
 refine own_body rfl (plainFor_of_name pn_36) ?_
 intro p e s m below meth c s₁ hx hby hml hown hnm hlk hret X0 e0 hZ
 have N0 := Fr.nil n0
 show Go _ p e below s _ _ _ (s₁.setTop (mkF m 0 #[rv a1, rv a2] []))
 refine c_aloadN X0 hx hby d36_0 rfl rfl <| c_init X0 hx hby hZ hown hml (gw hw 241 rfl) (gw hw 204 rfl) (gw hw 208 rfl) (gw hw 207 rfl) rfl e0 (rm30 hw a1 h0 n0 Z0 ) pd_4 rfl d36_1 [] rfl 0 (by decide) rfl rfl fun o260 T260 L260 X260 hQ260 => ?_
 obtain ⟨rfl, N260q, e260⟩ := hQ260
 have N260 := Fr.app N0 N260q
 refine c_sh 4 [] rfl rfl <| c_aloadN X260 hx hby d36_4 rfl rfl <| c_aloadN X260 hx hby d36_5 rfl rfl <| c_callS X260 hx hby hZ hown hml (gw hw 245 rfl) (gw hw 194 rfl) (gw hw 195 rfl) (gw hw 196 rfl) e260 (rm28 hw a2 h0 n0 Z0 ) pd_9 rfl d36_6 [.ref a1] rfl 1 (by decide) rfl rfl fun o261 T261 L261 X261 hQ261 => ?_
 obtain ⟨rfl, N261q, e261⟩ := hQ261
 have N261 := Fr.app N260 N261q
 refine c_sh 9 [.ref a2, .ref a1] rfl rfl <| c_putf X261 hx hby hZ hown (gw hw 246 rfl) Via.refl e261 P4 P2 (Or.inr ⟨(gw hw 247 rfl), rfl, hnm⟩) (gw hw 235 rfl) (.object "java/lang/Object") (by decide) rfl rfl d36_9 fun T262 h262 X262 e262 W262 => ?_
 have Fw262 := P4.same W262
 have KK262 := (Keep.refl h0 [a1]).wr W262 (Or.inl (List.mem_of_getElem? (i := 0) rfl))
 have ZN262 := Nat.le_trans Z0 (Keep.of_wr W262).1
 have NN262 := Fr.snoc X262 N261 P3
 have OL262 := P1.wr W262 P3
 refine c_sh 12 [] rfl rfl <| c_aloadN X262 hx hby d36_12 rfl rfl ?_
 obtain ⟨T263, X263, e263, st263⟩ := getS2 X262 hx hZ hown (Or.inr (gw hw 253 rfl)) Via.refl e262 (P0.ext OL262.2) (g := (mkF m 13 #[rv a1, rv a2] [.ref a1])) rfl (hb hby d36_13)
 refine go st263 ?_
 show Go _ p e below s _ _ _ (T263.setTop (mkF m 16 #[rv a1, rv a2] [.ref em, .ref a1]))
 have cc264 := P5.other W262 (Or.inr (slot_ne (Or.inr (gw hw 249 rfl)) (Or.inr (gw hw 247 rfl)) (by decide) (t := (.object "java/lang/Object")) (t' := (.object "java/lang/Object")) (by decide) (by decide)))
 have cc265 := P2.wr W262
 refine c_putf X263 hx hby hZ hown (gw hw 248 rfl) Via.refl e263 cc264 cc265 (Or.inr ⟨(gw hw 249 rfl), rfl, hnm⟩) (gw hw 235 rfl) (.object "java/lang/Object") (by decide) rfl rfl d36_16 fun T266 h266 X266 e266 W266 => ?_
 have Fw266 := cc264.same W266
 have KK266 := KK262.wr W266 (Or.inl (List.mem_of_getElem? (i := 0) rfl))
 have ZN266 := Nat.le_trans ZN262 (Keep.of_wr W266).1
 have NN266 := Fr.snoc X266 NN262 P3
 have OL266 := OL262.wr W266 P3
 refine c_sh 19 [] rfl rfl ?_
 exact c_ret0 X266 hx hby hlk hret d36_19 (by decide) e266 ⟨rfl, NN266, KK266⟩
theorem d35_0 : decode jdk_44_method_2_code 0 = .ok (.aload_n 0, 1) := by decide +kernel
theorem d35_1 : decode jdk_44_method_2_code 1 = .ok (.invokespecial 1, 3) := by decide +kernel
theorem d35_4 : decode jdk_44_method_2_code 4 = .ok (.aload_n 0, 1) := by decide +kernel
theorem d35_5 : decode jdk_44_method_2_code 5 = .ok (.aload_n 1, 1) := by decide +kernel
theorem d35_6 : decode jdk_44_method_2_code 6 = .ok (.invokestatic 7, 3) := by decide +kernel
theorem d35_9 : decode jdk_44_method_2_code 9 = .ok (.putfield 13, 3) := by decide +kernel
theorem d35_12 : decode jdk_44_method_2_code 12 = .ok (.aload_n 0, 1) := by decide +kernel
theorem d35_13 : decode jdk_44_method_2_code 13 = .ok (.aload_n 2, 1) := by decide +kernel
theorem d35_14 : decode jdk_44_method_2_code 14 = .ok (.invokestatic 7, 3) := by decide +kernel
theorem d35_17 : decode jdk_44_method_2_code 17 = .ok (.putfield 24, 3) := by decide +kernel
theorem d35_20 : decode jdk_44_method_2_code 20 = .ok (.return_, 1) := by decide +kernel
theorem pn_35 : plainName "java/util/ImmutableCollections$List12" = true := by first | (simp [plainName, overriddenIn]; done) | decide +kernel
def Q35 (Z : State) (a1 a2 a3 : Addr) (u1 u2 : Value) (h0 : Heap) (n0 : Nat) (v : Option Value) (h : Heap) (L : List Loc) : Prop := v = none ∧ Fr n0 L ∧ Keep h0 h [a1]
theorem rm35 {l : Launch} {Z : State} {a0 : Array Value} (hw : HW Z a0) (a1 a2 a3 : Addr) (u1 u2 : Value) (h0 : Heap) (n0 : Nat) (Z0 : n0 ≤ h0.size) (P0 : Exa Z h0 a1 "java/util/ImmutableCollections$List12") (P1 : n0 ≤ a1) (P2 : Fld Z h0 a1 "java/util/ImmutableCollections$List12" "e0" "Ljava/lang/Object;" u1) (P3 : Fld Z h0 a1 "java/util/ImmutableCollections$List12" "e1" "Ljava/lang/Object;" u2) : own_M l Z ⟨"java/util/ImmutableCollections$List12", "<init>", "(Ljava/lang/Object;Ljava/lang/Object;)V"⟩ jdk_44_method_2_code 3 none (rmk 4 0 0 48) #[.ref a1, .ref a2, .ref a3] h0 (Q35 Z a1 a2 a3 u1 u2 h0 n0) := by
 refine own_body rfl (plainFor_of_name pn_35) ?_
 intro p e s m below meth c s₁ hx hby hml hown hnm hlk hret X0 e0 hZ
 have N0 := Fr.nil n0
 show Go _ p e below s _ _ _ (s₁.setTop (mkF m 0 #[rv a1, rv a2, rv a3] []))
 refine c_aloadN X0 hx hby d35_0 rfl rfl <| c_init X0 hx hby hZ hown hml (gw hw 241 rfl) (gw hw 204 rfl) (gw hw 208 rfl) (gw hw 207 rfl) rfl e0 (rm30 hw a1 h0 n0 Z0 ) pd_4 rfl d35_1 [] rfl 0 (by decide) rfl rfl fun o274 T274 L274 X274 hQ274 => ?_
 obtain ⟨rfl, N274q, e274⟩ := hQ274
 have N274 := Fr.app N0 N274q
 refine c_sh 4 [] rfl rfl <| c_aloadN X274 hx hby d35_4 rfl rfl <| c_aloadN X274 hx hby d35_5 rfl rfl <| c_callS X274 hx hby hZ hown hml (gw hw 245 rfl) (gw hw 194 rfl) (gw hw 195 rfl) (gw hw 196 rfl) e274 (rm28 hw a2 h0 n0 Z0 ) pd_9 rfl d35_6 [.ref a1] rfl 1 (by decide) rfl rfl fun o275 T275 L275 X275 hQ275 => ?_
 obtain ⟨rfl, N275q, e275⟩ := hQ275
 have N275 := Fr.app N274 N275q
 refine c_sh 9 [.ref a2, .ref a1] rfl rfl <| c_putf X275 hx hby hZ hown (gw hw 246 rfl) Via.refl e275 P2 P0 (Or.inr ⟨(gw hw 247 rfl), rfl, hnm⟩) (gw hw 235 rfl) (.object "java/lang/Object") (by decide) rfl rfl d35_9 fun T276 h276 X276 e276 W276 => ?_
 have Fw276 := P2.same W276
 have KK276 := (Keep.refl h0 [a1]).wr W276 (Or.inl (List.mem_of_getElem? (i := 0) rfl))
 have ZN276 := Nat.le_trans Z0 (Keep.of_wr W276).1
 have NN276 := Fr.snoc X276 N275 P1
 refine c_sh 12 [] rfl rfl <| c_aloadN X276 hx hby d35_12 rfl rfl <| c_aloadN X276 hx hby d35_13 rfl rfl <| c_callS X276 hx hby hZ hown hml (gw hw 245 rfl) (gw hw 194 rfl) (gw hw 195 rfl) (gw hw 196 rfl) e276 (rm28 hw a3 h276 n0 ZN276 ) pd_9 rfl d35_14 [.ref a1] rfl 1 (by decide) rfl rfl fun o277 T277 L277 X277 hQ277 => ?_
 obtain ⟨rfl, N277q, e277⟩ := hQ277
 have N277 := Fr.app NN276 N277q
 refine c_sh 17 [.ref a3, .ref a1] rfl rfl ?_
 have cc278 := P3.other W276 (Or.inr (slot_ne (Or.inr (gw hw 249 rfl)) (Or.inr (gw hw 247 rfl)) (by decide) (t := (.object "java/lang/Object")) (t' := (.object "java/lang/Object")) (by decide) (by decide)))
 have cc279 := P0.wr W276
 refine c_putf X277 hx hby hZ hown (gw hw 248 rfl) Via.refl e277 cc278 cc279 (Or.inr ⟨(gw hw 249 rfl), rfl, hnm⟩) (gw hw 235 rfl) (.object "java/lang/Object") (by decide) rfl rfl d35_17 fun T280 h280 X280 e280 W280 => ?_
 have Fw280 := cc278.same W280
 have KK280 := KK276.wr W280 (Or.inl (List.mem_of_getElem? (i := 0) rfl))
 have ZN280 := Nat.le_trans ZN276 (Keep.of_wr W280).1
 have NN280 := Fr.snoc X280 N277 P1
 refine c_sh 20 [] rfl rfl ?_
 exact c_ret0 X280 hx hby hlk hret d35_20 (by decide) e280 ⟨rfl, NN280, KK280⟩
theorem d29_0 : decode jdk_45_method_1_code 0 = .ok (.aload_n 0, 1) := by decide +kernel
theorem d29_1 : decode jdk_45_method_1_code 1 = .ok (.invokespecial 1, 3) := by decide +kernel
theorem d29_4 : decode jdk_45_method_1_code 4 = .ok (.aload_n 0, 1) := by decide +kernel
theorem d29_5 : decode jdk_45_method_1_code 5 = .ok (.aload_n 1, 1) := by decide +kernel
theorem d29_6 : decode jdk_45_method_1_code 6 = .ok (.putfield 7, 3) := by decide +kernel
theorem d29_9 : decode jdk_45_method_1_code 9 = .ok (.aload_n 0, 1) := by decide +kernel
theorem d29_10 : decode jdk_45_method_1_code 10 = .ok (.iload_n 2, 1) := by decide +kernel
theorem d29_11 : decode jdk_45_method_1_code 11 = .ok (.putfield 13, 3) := by decide +kernel
theorem d29_14 : decode jdk_45_method_1_code 14 = .ok (.return_, 1) := by decide +kernel
theorem pn_29 : plainName "java/util/ImmutableCollections$ListN" = true := by first | (simp [plainName, overriddenIn]; done) | decide +kernel
def Q29 (Z : State) (a1 a2 : Addr) (u1 u2 : Value) (h0 : Heap) (n0 : Nat) (v : Option Value) (h : Heap) (L : List Loc) : Prop := v = none ∧ Fr n0 L ∧ Keep h0 h [a1]
theorem rm29 {l : Launch} {Z : State} {a0 : Array Value} (hw : HW Z a0) (a1 a2 : Addr) (u1 u2 : Value) (h0 : Heap) (n0 : Nat) (Z0 : n0 ≤ h0.size) (P0 : Exa Z h0 a1 "java/util/ImmutableCollections$ListN") (P1 : n0 ≤ a1) (P2 : Fld Z h0 a1 "java/util/ImmutableCollections$ListN" "elements" "[Ljava/lang/Object;" u1) (P3 : Fld Z h0 a1 "java/util/ImmutableCollections$ListN" "allowNulls" "Z" u2) : own_M l Z ⟨"java/util/ImmutableCollections$ListN", "<init>", "([Ljava/lang/Object;Z)V"⟩ jdk_45_method_1_code 3 none (rmk 4 0 0 48) #[.ref a1, .ref a2, .int 0] h0 (Q29 Z a1 a2 u1 u2 h0 n0) := by
 refine own_body rfl (plainFor_of_name pn_29) ?_
 intro p e s m below meth c s₁ hx hby hml hown hnm hlk hret X0 e0 hZ
 have N0 := Fr.nil n0
 show Go _ p e below s _ _ _ (s₁.setTop (mkF m 0 #[rv a1, rv a2, iv 0] []))
 refine c_aloadN X0 hx hby d29_0 rfl rfl <| c_init X0 hx hby hZ hown hml (gw hw 203 rfl) (gw hw 204 rfl) (gw hw 208 rfl) (gw hw 207 rfl) rfl e0 (rm30 hw a1 h0 n0 Z0 ) pd_4 rfl d29_1 [] rfl 0 (by decide) rfl rfl fun o286 T286 L286 X286 hQ286 => ?_
 obtain ⟨rfl, N286q, e286⟩ := hQ286
 have N286 := Fr.app N0 N286q
 refine c_sh 4 [] rfl rfl <| c_aloadN X286 hx hby d29_4 rfl rfl <| c_aloadN X286 hx hby d29_5 rfl rfl <| c_putf X286 hx hby hZ hown (gw hw 217 rfl) Via.refl e286 P2 P0 (Or.inr ⟨(gw hw 218 rfl), rfl, hnm⟩) (gw hw 197 rfl) (.array (.object "java/lang/Object")) (by decide) rfl rfl d29_6 fun T287 h287 X287 e287 W287 => ?_
 have Fw287 := P2.same W287
 have KK287 := (Keep.refl h0 [a1]).wr W287 (Or.inl (List.mem_of_getElem? (i := 0) rfl))
 have ZN287 := Nat.le_trans Z0 (Keep.of_wr W287).1
 have NN287 := Fr.snoc X287 N286 P1
 refine c_sh 9 [] rfl rfl <| c_aloadN X287 hx hby d29_9 rfl rfl <| c_iloadN X287 hx hby d29_10 rfl ?_
 have cc288 := P3.other W287 (Or.inr (slot_ne (Or.inr (gw hw 220 rfl)) (Or.inr (gw hw 218 rfl)) (by decide) (t := .boolean) (t' := (.array (.object "java/lang/Object"))) (by decide) (by decide)))
 have cc289 := P0.wr W287
 refine c_putn X287 hx hby hZ hown (gw hw 219 rfl) Via.refl e287 (.int 0) cc288 cc289 (Or.inr ⟨(gw hw 220 rfl), rfl, hnm⟩) (gw hw 197 rfl) .boolean (by decide) rfl rfl d29_11 fun T290 h290 X290 e290 W290 => ?_
 have Fw290 := cc288.same W290
 have KK290 := KK287.wr W290 (Or.inl (List.mem_of_getElem? (i := 0) rfl))
 have ZN290 := Nat.le_trans ZN287 (Keep.of_wr W290).1
 have NN290 := Fr.snoc X290 NN287 P1
 refine c_sh 14 [] rfl rfl ?_
 exact c_ret0 X290 hx hby hlk hret d29_14 (by decide) e290 ⟨rfl, NN290, KK290⟩
theorem d27_0 : decode jdk_56_method_4_code 0 = .ok (.aload_n 0, 1) := by decide +kernel
theorem d27_1 : decode jdk_56_method_4_code 1 = .ok (.arraylength, 1) := by decide +kernel
theorem d27_2 : decode jdk_56_method_4_code 2 = .ok (.anewarray 2, 3) := by decide +kernel
theorem d27_5 : decode jdk_56_method_4_code 5 = .ok (.astore_n 1, 1) := by decide +kernel
theorem d27_6 : decode jdk_56_method_4_code 6 = .ok (.iconst 0, 1) := by decide +kernel
theorem d27_7 : decode jdk_56_method_4_code 7 = .ok (.istore_n 2, 1) := by decide +kernel
theorem d27_8 : decode jdk_56_method_4_code 8 = .ok (.iload_n 2, 1) := by decide +kernel
theorem d27_9 : decode jdk_56_method_4_code 9 = .ok (.aload_n 0, 1) := by decide +kernel
theorem d27_10 : decode jdk_56_method_4_code 10 = .ok (.arraylength, 1) := by decide +kernel
theorem d27_11 : decode jdk_56_method_4_code 11 = .ok (.if_icmp .ge 18, 3) := by decide +kernel
theorem d27_14 : decode jdk_56_method_4_code 14 = .ok (.aload_n 1, 1) := by decide +kernel
theorem d27_15 : decode jdk_56_method_4_code 15 = .ok (.iload_n 2, 1) := by decide +kernel
theorem d27_16 : decode jdk_56_method_4_code 16 = .ok (.aload_n 0, 1) := by decide +kernel
theorem d27_17 : decode jdk_56_method_4_code 17 = .ok (.iload_n 2, 1) := by decide +kernel
theorem d27_18 : decode jdk_56_method_4_code 18 = .ok (.aaload, 1) := by decide +kernel
theorem d27_19 : decode jdk_56_method_4_code 19 = .ok (.invokestatic 37, 3) := by decide +kernel
theorem d27_22 : decode jdk_56_method_4_code 22 = .ok (.aastore, 1) := by decide +kernel
theorem d27_23 : decode jdk_56_method_4_code 23 = .ok (.iinc 2 1, 3) := by decide +kernel
theorem d27_26 : decode jdk_56_method_4_code 26 = .ok (.goto (-18), 3) := by decide +kernel
theorem d27_29 : decode jdk_56_method_4_code 29 = .ok (.new 12, 3) := by decide +kernel
theorem d27_32 : decode jdk_56_method_4_code 32 = .ok (.dup, 1) := by decide +kernel
theorem d27_33 : decode jdk_56_method_4_code 33 = .ok (.aload_n 1, 1) := by decide +kernel
theorem d27_34 : decode jdk_56_method_4_code 34 = .ok (.iconst 0, 1) := by decide +kernel
theorem d27_35 : decode jdk_56_method_4_code 35 = .ok (.invokespecial 43, 3) := by decide +kernel
theorem d27_38 : decode jdk_56_method_4_code 38 = .ok (.areturn, 1) := by decide +kernel
theorem pn_27 : plainName "java/util/ImmutableCollections" = true := by first | (simp [plainName, overriddenIn]; done) | decide +kernel
theorem pd_10 : parseMethodDescriptor "([Ljava/lang/Object;Z)V" = some ⟨[(.array (.object "java/lang/Object")), .boolean], none⟩ := by decide +kernel
def Q27 (Z : State) (a1 : Addr) (k : ClassId) (v0 v1 v2 : Addr) (h0 : Heap) (n0 : Nat) (v : Option Value) (h : Heap) (L : List Loc) : Prop := ∃ (b : Addr), v = some (.ref b) ∧ Fr n0 L ∧ Keep h0 h []
theorem rm27 {l : Launch} {Z : State} {a0 : Array Value} (hw : HW Z a0) (a1 : Addr) (k : ClassId) (v0 v1 v2 : Addr) (h0 : Heap) (n0 : Nat) (Z0 : n0 ≤ h0.size) (P0 : Arv Z h0 a1 k (.object "java/lang/Object") (3 : Int32) [(.ref v0), (.ref v1), (.ref v2)] .null) (P1 : eS Z h0 v0) (P2 : eS Z h0 v1) (P3 : eS Z h0 v2) : own_M l Z ⟨"java/util/ImmutableCollections", "listFromArray", "([Ljava/lang/Object;)Ljava/util/List;"⟩ jdk_56_method_4_code 3 (some (.object "java/util/List")) (rmk 5 2 5 63) #[.ref a1] h0 (Q27 Z a1 k v0 v1 v2 h0 n0) := by
 refine own_body rfl (plainFor_of_name pn_27) ?_
 intro p e s m below meth c s₁ hx hby hml hown hnm hlk hret X0 e0 hZ
 have N0 := Fr.nil n0
 show Go _ p e below s _ _ _ (s₁.setTop (mkF m 0 #[rv a1, .unset, .unset] []))
 refine c_aloadN X0 hx hby d27_0 rfl rfl <| c_alen X0 hx hby hZ e0 P0 d27_1 ?_
 obtain ⟨T312, h312, k312, X312, e312, E312, A312, AE312, O312, st312⟩ := newRE X0 hx hZ hown (gw hw 192 rfl) (gw hw 152 rfl) e0 (g := (mkF m 2 #[rv a1, .unset, .unset] [.int 3])) rfl (hb hby d27_2) rfl (by decide) (cap := 3) (by decide) (by decide) (by decide) (by decide) (ad := "[Ljava/lang/Object;") (by first | rfl | decide)
 obtain ⟨b312, g312⟩ : ∃ z, z = h0.size := ⟨_, rfl⟩
 rw [← g312] at A312 AE312 st312
 have G_b312 := Nat.le_trans Z0 (Nat.le_of_eq g312.symm)
 have KK312 := (Keep.refl h0 []).ext E312
 have ZN312 := Nat.le_trans Z0 E312.1
 have V312 : Arv Z h312 b312 k312 (.object "java/lang/Object") (3 : Int32) [.null, .null, .null] .null := (Arv.new A312 (by decide)).pad (pad_rep [] .null 3)
 refine go st312 ?_
 show Go _ p e below s _ _ _ (T312.setTop (mkF m 5 #[rv a1, .unset, .unset] [.ref b312]))
 refine c_astoreN X312 hx hby _ d27_5 rfl rfl <| c_iconst X312 hx hby 0 d27_6 rfl <| c_istoreN X312 hx hby #[rv a1, rv b312, iv 0] d27_7 rfl <| c_iloadN X312 hx hby d27_8 rfl <| c_aloadN X312 hx hby d27_9 rfl rfl ?_
 have cc313 := P0.ext E312
 refine c_alen X312 hx hby hZ e312 cc313 d27_10 <| c_icmpNo X312 hx hby d27_11 (by decide) <| c_aloadN X312 hx hby d27_14 rfl rfl <| c_iloadN X312 hx hby d27_15 rfl <| c_aloadN X312 hx hby d27_16 rfl rfl <| c_iloadN X312 hx hby d27_17 rfl <| c_aal X312 hx hby hZ e312 cc313 (by decide) (.ref v0) rfl rfl d27_18 <| c_callS X312 hx hby hZ hown hml (gw hw 193 rfl) (gw hw 194 rfl) (gw hw 195 rfl) (gw hw 196 rfl) e312 (rm28 hw v0 h312 n0 ZN312 ) pd_9 rfl d27_19 [.int 0, .ref b312] rfl 2 (by decide) rfl rfl fun o314 T314 L314 X314 hQ314 => ?_
 obtain ⟨rfl, N314q, e314⟩ := hQ314
 have N314 := Fr.app N0 N314q
 refine c_sh 22 [.ref v0, .int 0, .ref b312] rfl rfl ?_
 obtain ⟨cl315, Ar315, q315, Sz315, Nz315, Hs315, Gs315⟩ := id V312
 have hin315 : ¬ ((0 : Int32) < 0 ∨ cl315.slots.size ≤ ((0 : Int32)).toNatClampNeg) := inb_of Sz315 ⟨by decide, by decide⟩
 have cc316 := P1.ext E312
 obtain ⟨T315, h315, X315, e315, W315, st315⟩ := stR X314 hx hZ e314 Ar315 (j := (0 : Int32)) hin315 rfl (Sto.ofV Ar315 q315 O312 (Ins.of_exa cc316 (gw hw 153 rfl))) (g := (mkF m 22 #[rv a1, rv b312, iv 0] [.ref v0, .int 0, .ref b312])) rfl rfl (hb hby d27_22)
 have V315 := Arv.set Ar315 q315 Sz315 Nz315 Hs315 Gs315 rfl W315 0 rfl (Nat.le_of_ble_eq_true rfl)
 have VV315 : Arv Z h315 b312 k312 (.object "java/lang/Object") (3 : Int32) [(.ref v0), .null, .null] .null := V315
 have ne317 : a1 ≠ b312 := (Nat.ne_of_lt (Nat.lt_of_lt_of_le P0.lt (Nat.le_of_eq g312.symm)))
 have KK315 := KK312.wr W315 (Or.inr (Nat.le_trans (Keep.refl h0 []).1 (Nat.le_of_eq g312.symm)))
 have ZN315 := Nat.le_trans ZN312 (Keep.of_wr W315).1
 have NN315 := Fr.snoc X315 N314 G_b312
 refine go st315 ?_
 show Go _ p e below s _ _ _ (T315.setTop (mkF m 23 #[rv a1, rv b312, iv 0] []))
 refine c_iinc X315 hx hby #[rv a1, rv b312, iv 1] d27_23 rfl rfl <| c_goto X315 hx hby 8 d27_26 (by decide) <| c_iloadN X315 hx hby d27_8 rfl <| c_aloadN X315 hx hby d27_9 rfl rfl ?_
 have cc318 := cc313.other W315 ne317
 refine c_alen X315 hx hby hZ e315 cc318 d27_10 <| c_icmpNo X315 hx hby d27_11 (by decide) <| c_aloadN X315 hx hby d27_14 rfl rfl <| c_iloadN X315 hx hby d27_15 rfl <| c_aloadN X315 hx hby d27_16 rfl rfl <| c_iloadN X315 hx hby d27_17 rfl <| c_aal X315 hx hby hZ e315 cc318 (by decide) (.ref v1) rfl rfl d27_18 <| c_callS X315 hx hby hZ hown hml (gw hw 193 rfl) (gw hw 194 rfl) (gw hw 195 rfl) (gw hw 196 rfl) e315 (rm28 hw v1 h315 n0 ZN315 ) pd_9 rfl d27_19 [.int 1, .ref b312] rfl 2 (by decide) rfl rfl fun o319 T319 L319 X319 hQ319 => ?_
 obtain ⟨rfl, N319q, e319⟩ := hQ319
 have N319 := Fr.app NN315 N319q
 refine c_sh 22 [.ref v1, .int 1, .ref b312] rfl rfl ?_
 obtain ⟨cl320, Ar320, q320, Sz320, Nz320, Hs320, Gs320⟩ := id VV315
 have hin320 : ¬ ((1 : Int32) < 0 ∨ cl320.slots.size ≤ ((1 : Int32)).toNatClampNeg) := inb_of Sz320 ⟨by decide, by decide⟩
 have cc321 := (P2.ext E312).wr W315
 obtain ⟨T320, h320, X320, e320, W320, st320⟩ := stR X319 hx hZ e319 Ar320 (j := (1 : Int32)) hin320 rfl (Sto.ofV Ar320 q320 O312 (Ins.of_exa cc321 (gw hw 153 rfl))) (g := (mkF m 22 #[rv a1, rv b312, iv 1] [.ref v1, .int 1, .ref b312])) rfl rfl (hb hby d27_22)
 have V320 := Arv.set Ar320 q320 Sz320 Nz320 Hs320 Gs320 rfl W320 1 rfl (Nat.le_of_ble_eq_true rfl)
 have VV320 : Arv Z h320 b312 k312 (.object "java/lang/Object") (3 : Int32) [(.ref v0), (.ref v1), .null] .null := V320
 have KK320 := KK315.wr W320 (Or.inr (Nat.le_trans (Keep.refl h0 []).1 (Nat.le_of_eq g312.symm)))
 have ZN320 := Nat.le_trans ZN315 (Keep.of_wr W320).1
 have NN320 := Fr.snoc X320 N319 G_b312
 refine go st320 ?_
 show Go _ p e below s _ _ _ (T320.setTop (mkF m 23 #[rv a1, rv b312, iv 1] []))
 refine c_iinc X320 hx hby #[rv a1, rv b312, iv 2] d27_23 rfl rfl <| c_goto X320 hx hby 8 d27_26 (by decide) <| c_iloadN X320 hx hby d27_8 rfl <| c_aloadN X320 hx hby d27_9 rfl rfl ?_
 have cc322 := cc318.other W320 ne317
 refine c_alen X320 hx hby hZ e320 cc322 d27_10 <| c_icmpNo X320 hx hby d27_11 (by decide) <| c_aloadN X320 hx hby d27_14 rfl rfl <| c_iloadN X320 hx hby d27_15 rfl <| c_aloadN X320 hx hby d27_16 rfl rfl <| c_iloadN X320 hx hby d27_17 rfl <| c_aal X320 hx hby hZ e320 cc322 (by decide) (.ref v2) rfl rfl d27_18 <| c_callS X320 hx hby hZ hown hml (gw hw 193 rfl) (gw hw 194 rfl) (gw hw 195 rfl) (gw hw 196 rfl) e320 (rm28 hw v2 h320 n0 ZN320 ) pd_9 rfl d27_19 [.int 2, .ref b312] rfl 2 (by decide) rfl rfl fun o323 T323 L323 X323 hQ323 => ?_
 obtain ⟨rfl, N323q, e323⟩ := hQ323
 have N323 := Fr.app NN320 N323q
 refine c_sh 22 [.ref v2, .int 2, .ref b312] rfl rfl ?_
 obtain ⟨cl324, Ar324, q324, Sz324, Nz324, Hs324, Gs324⟩ := id VV320
 have hin324 : ¬ ((2 : Int32) < 0 ∨ cl324.slots.size ≤ ((2 : Int32)).toNatClampNeg) := inb_of Sz324 ⟨by decide, by decide⟩
 have cc325 := ((P3.ext E312).wr W315).wr W320
 obtain ⟨T324, h324, X324, e324, W324, st324⟩ := stR X323 hx hZ e323 Ar324 (j := (2 : Int32)) hin324 rfl (Sto.ofV Ar324 q324 O312 (Ins.of_exa cc325 (gw hw 153 rfl))) (g := (mkF m 22 #[rv a1, rv b312, iv 2] [.ref v2, .int 2, .ref b312])) rfl rfl (hb hby d27_22)
 have V324 := Arv.set Ar324 q324 Sz324 Nz324 Hs324 Gs324 rfl W324 2 rfl (Nat.le_of_ble_eq_true rfl)
 have VV324 : Arv Z h324 b312 k312 (.object "java/lang/Object") (3 : Int32) [(.ref v0), (.ref v1), (.ref v2)] .null := V324
 have KK324 := KK320.wr W324 (Or.inr (Nat.le_trans (Keep.refl h0 []).1 (Nat.le_of_eq g312.symm)))
 have ZN324 := Nat.le_trans ZN320 (Keep.of_wr W324).1
 have NN324 := Fr.snoc X324 N323 G_b312
 refine go st324 ?_
 show Go _ p e below s _ _ _ (T324.setTop (mkF m 23 #[rv a1, rv b312, iv 2] []))
 refine c_iinc X324 hx hby #[rv a1, rv b312, iv 3] d27_23 rfl rfl <| c_goto X324 hx hby 8 d27_26 (by decide) <| c_iloadN X324 hx hby d27_8 rfl <| c_aloadN X324 hx hby d27_9 rfl rfl ?_
 have cc326 := cc322.other W324 ne317
 refine c_alen X324 hx hby hZ e324 cc326 d27_10 <| c_icmpYes X324 hx hby 29 d27_11 (by decide) (by decide) <| c_new X324 hx hby hZ hown (gw hw 75 rfl) (gw hw 197 rfl) (gw hw 198 rfl) e324 d27_29 (by decide) fun T327 h327 b327 g327 X327 e327 E327 A327 D327 => ?_
 have G_b327 := Nat.le_trans ZN324 (Nat.le_of_eq g327.symm)
 have KK327 := KK324.ext E327
 have ZN327 := Nat.le_trans ZN324 E327.1
 refine c_sh 32 [.ref b327] rfl rfl <| c_dup X327 hx hby d27_32 rfl <| c_aloadN X327 hx hby d27_33 rfl rfl <| c_iconst X327 hx hby 0 d27_34 rfl ?_
 have cc329 := show Fld Z h327 b327 "java/util/ImmutableCollections$ListN" "elements" "[Ljava/lang/Object;" .null from D327 (Or.inr (gw hw 218 rfl)) (ty := (.array (.object "java/lang/Object"))) (by decide)
 have cc330 := show Fld Z h327 b327 "java/util/ImmutableCollections$ListN" "allowNulls" "Z" (.int (0 : Int32)) from D327 (Or.inr (gw hw 220 rfl)) (ty := .boolean) (by decide)
 refine c_initN X327 hx hby hZ hown hml (gw hw 199 rfl) (gw hw 200 rfl) (gw hw 202 rfl) (gw hw 198 rfl) rfl e327 (rm29 hw b327 b312 .null (.int (0 : Int32)) h327 n0 ZN327 A327 G_b327 cc329 cc330) pd_10 rfl d27_35 [.ref b327] rfl 1 (by decide) rfl rfl fun o328 T328 L328 X328 hQ328 => ?_
 obtain ⟨rfl, N328q, K328⟩ := hQ328
 have N328 := Fr.app NN324 N328q
 have ne331 : a1 ≠ b327 := (Nat.ne_of_lt (Nat.lt_of_lt_of_le cc326.lt (Nat.le_of_eq g327.symm)))
 have ne332 : b312 ≠ b327 := (Nat.ne_of_lt (Nat.lt_of_lt_of_le (((AE312.wr W315).wr W320).wr W324).lt (Nat.le_of_eq g327.symm)))
 have KK328 := KK327.trans K328 (allS (P := fun x => x ∈ [] ∨ h0.size ≤ x) (Or.inr (Nat.le_trans KK324.1 (Nat.le_of_eq g327.symm))) all0)
 have ZN328 := Nat.le_trans ZN327 K328.1
 refine c_sh 38 [.ref b327] rfl rfl ?_
 exact c_retA X328 hx hby hlk hret d27_38 rfl ⟨rfl, rfl⟩ (by decide) rfl ⟨b327, rfl, N328, KK328⟩
theorem d10_0 : decode jdk_56_method_3_code 0 = .ok (.aload_n 0, 1) := by decide +kernel
theorem d10_1 : decode jdk_56_method_3_code 1 = .ok (.instanceof 10, 3) := by decide +kernel
theorem d10_4 : decode jdk_56_method_3_code 4 = .ok (.ifCond .ne 22, 3) := by decide +kernel
theorem d10_7 : decode jdk_56_method_3_code 7 = .ok (.aload_n 0, 1) := by decide +kernel
theorem d10_8 : decode jdk_56_method_3_code 8 = .ok (.instanceof 12, 3) := by decide +kernel
theorem d10_11 : decode jdk_56_method_3_code 11 = .ok (.ifCond .eq 20, 3) := by decide +kernel
theorem d10_31 : decode jdk_56_method_3_code 31 = .ok (.aload_n 0, 1) := by decide +kernel
theorem d10_32 : decode jdk_56_method_3_code 32 = .ok (.invokeinterface 20 1, 5) := by decide +kernel
theorem d10_37 : decode jdk_56_method_3_code 37 = .ok (.ifCond .eq 7, 3) := by decide +kernel
theorem d10_40 : decode jdk_56_method_3_code 40 = .ok (.invokestatic 26, 3) := by decide +kernel
theorem d10_43 : decode jdk_56_method_3_code 43 = .ok (.areturn, 1) := by decide +kernel
theorem pn_10 : plainName "java/util/ImmutableCollections" = true := by first | (simp [plainName, overriddenIn]; done) | decide +kernel
theorem pd_11 : parseMethodDescriptor "()Z" = some ⟨[], some .boolean⟩ := by decide +kernel
theorem pd_12 : parseMethodDescriptor "()Ljava/util/List;" = some ⟨[], some (.object "java/util/List")⟩ := by decide +kernel
def QLC0 (Z : State) (a1 el : Addr) (h0 : Heap) (n0 : Nat) (v : Option Value) (h : Heap) (L : List Loc) : Prop := v = some (.ref el) ∧ Fr n0 L ∧ h = h0
theorem rmLC0 {l : Launch} {Z : State} {a0 : Array Value} (hw : HW Z a0) (a1 el : Addr) (h0 : Heap) (n0 : Nat) (Z0 : n0 ≤ h0.size) (P0 : Sta Z Z.heap "java/util/ImmutableCollections" "EMPTY_LIST" "Ljava/util/ImmutableCollections$ListN;" (.ref el)) (P1 : Old Z n0 h0) (P2 : Exa Z h0 a1 "java/util/ArrayList") (P3 : Fld Z h0 a1 "java/util/ArrayList" "size" "I" (.int (0 : Int32))) : own_M l Z ⟨"java/util/ImmutableCollections", "listCopy", "(Ljava/util/Collection;)Ljava/util/List;"⟩ jdk_56_method_3_code 2 (some (.object "java/util/List")) (rmk 1 0 0 12) #[.ref a1] h0 (QLC0 Z a1 el h0 n0) := by
 refine own_body rfl (plainFor_of_name pn_10) ?_
 intro p e s m below meth c s₁ hx hby hml hown hnm hlk hret X0 e0 hZ
 have N0 := Fr.nil n0
 show Go _ p e below s _ _ _ (s₁.setTop (mkF m 0 #[rv a1, .unset] []))
 refine c_aloadN X0 hx hby d10_0 rfl rfl ?_
 obtain ⟨T337, X337, e337, st337⟩ := instNo X0 hx hZ hown (gw hw 70 rfl) e0 P2 (own_no (gw hw 71 rfl) (gw hw 235 rfl) (NS.step (gw hw 71 rfl) (NS.step (gw hw 72 rfl) (NS.step (gw hw 73 rfl) (own_nsroot (gw hw 74 rfl) (gw hw 235 rfl) (by decide)) (by decide)) (by decide)) (by decide)) (by decide)) (g := (mkF m 1 #[rv a1, .unset] [.ref a1])) rfl rfl (hb hby d10_1)
 refine go st337 ?_
 show Go _ p e below s _ _ _ (T337.setTop (mkF m 4 #[rv a1, .unset] [.int 0]))
 refine c_ifNo X337 hx hby d10_4 ((if0 _ _).trans (teq (rfl : (0 : Int32) = (0 : Int32))).2) <| c_aloadN X337 hx hby d10_7 rfl rfl ?_
 obtain ⟨T338, X338, e338, st338⟩ := instNo X337 hx hZ hown (gw hw 75 rfl) e337 P2 (own_no (gw hw 71 rfl) (gw hw 197 rfl) (NS.step (gw hw 71 rfl) (NS.step (gw hw 72 rfl) (NS.step (gw hw 73 rfl) (own_nsroot (gw hw 74 rfl) (gw hw 197 rfl) (by decide)) (by decide)) (by decide)) (by decide)) (by decide)) (g := (mkF m 8 #[rv a1, .unset] [.ref a1])) rfl rfl (hb hby d10_8)
 refine go st338 ?_
 show Go _ p e below s _ _ _ (T338.setTop (mkF m 11 #[rv a1, .unset] [.int 0]))
 refine c_ifYes X338 hx hby 31 d10_11 ((if0 _ _).trans (teq (rfl : (0 : Int32) = (0 : Int32))).1) (by decide) <| c_aloadN X338 hx hby d10_31 rfl rfl ?_
 obtain ⟨cq339, kq339, q339a, q339b, q339c⟩ := isOf hZ e338 P2
 obtain ⟨_, _, ⟨T339, L339, k339, n339⟩, -, X339, ⟨Lc339, hQ339, l339, y339, z339⟩, st339⟩ := X338.interfaceBack hx (xi := (⟨"java/util/Collection", "isEmpty", "()Z"⟩ : MethodName)) (y := (⟨"java/util/ArrayList", "isEmpty", "()Z"⟩ : MethodName)) hown (mvT hZ (gw hw 76 rfl)) (mvT hZ (gw hw 77 rfl)) (mvT hZ (gw hw 78 rfl)) (mvT hZ (gw hw 79 rfl)) (mvT hZ (gw hw 80 rfl)) (mvT hZ (gw hw 81 rfl)) (mvT hZ (gw hw 82 rfl)) (mvT hZ (gw hw 83 rfl)) (by decide) (backOf (W := 0) (rmIE0 hw a1 h0 n0 Z0 P3) hZ (gw hw 84 rfl) (gw hw 3 rfl) (by decide) (by decide)) q339a q339b q339c (g := (mkF m 32 #[rv a1, .unset] [.ref a1])) rfl (by rw [hml]; rfl) (Steps.refl _) (argsL := []) (rest := []) (lenOf pd_11 rfl) rfl (by show 2 * 0 + _ ≤ _; exact Nat.le_of_eq rfl) (hb hby d10_32) (fun _ _ => ⟨rfl, e338, (by decide : 0 + 0 ≤ _), (by decide : 0 + 0 ≤ _)⟩)
 dsimp only [Pt.U, Pt.locs, Pt.cells, Pt.slots] at X339 l339 y339 z339 st339 hQ339
 subst l339 y339 z339
 obtain ⟨rfl, N339q, e339⟩ := hQ339
 have N339 := Fr.app N0 N339q
 refine goT st339 ?_
 show Go _ p e below s _ _ _ (T339.setTop (mkF m 37 #[rv a1, .unset] [.int 1]))
 refine c_ifNo X339 hx hby d10_37 (by decide) <| c_callS X339 hx hby hZ hown hml (gw hw 87 rfl) (gw hw 88 rfl) (gw hw 64 rfl) (gw hw 89 rfl) e339 (rm12 hw el h0 n0 Z0 P0 P1) pd_12 rfl d10_40 [] rfl 0 (by decide) rfl rfl fun o340 T340 L340 X340 hQ340 => ?_
 obtain ⟨rfl, N340q, e340⟩ := hQ340
 have N340 := Fr.app N339 N340q
 refine c_sh 43 [.ref el] rfl rfl ?_
 exact c_retA X340 hx hby hlk hret d10_43 rfl ⟨rfl, rfl⟩ (by decide) e340 ⟨rfl, N340, rfl⟩
theorem d9_0 : decode jdk_40_method_48_code 0 = .ok (.aload_n 0, 1) := by decide +kernel
theorem d9_1 : decode jdk_40_method_48_code 1 = .ok (.invokestatic 112, 3) := by decide +kernel
theorem d9_4 : decode jdk_40_method_48_code 4 = .ok (.areturn, 1) := by decide +kernel
theorem pn_9 : plainName "java/util/List" = true := by first | (simp [plainName, overriddenIn]; done) | decide +kernel
theorem pd_13 : parseMethodDescriptor "(Ljava/util/Collection;)Ljava/util/List;" = some ⟨[(.object "java/util/Collection")], some (.object "java/util/List")⟩ := by decide +kernel
def QCO0 (Z : State) (a1 el : Addr) (h0 : Heap) (n0 : Nat) (v : Option Value) (h : Heap) (L : List Loc) : Prop := v = some (.ref el) ∧ Fr n0 L ∧ h = h0
theorem rmCO0 {l : Launch} {Z : State} {a0 : Array Value} (hw : HW Z a0) (a1 el : Addr) (h0 : Heap) (n0 : Nat) (Z0 : n0 ≤ h0.size) (P0 : Sta Z Z.heap "java/util/ImmutableCollections" "EMPTY_LIST" "Ljava/util/ImmutableCollections$ListN;" (.ref el)) (P1 : Old Z n0 h0) (P2 : Exa Z h0 a1 "java/util/ArrayList") (P3 : Fld Z h0 a1 "java/util/ArrayList" "size" "I" (.int (0 : Int32))) : own_M l Z ⟨"java/util/List", "copyOf", "(Ljava/util/Collection;)Ljava/util/List;"⟩ jdk_40_method_48_code 1 (some (.object "java/util/List")) (rmk 2 0 0 25) #[.ref a1] h0 (QCO0 Z a1 el h0 n0) := by
 refine own_body rfl (plainFor_of_name pn_9) ?_
 intro p e s m below meth c s₁ hx hby hml hown hnm hlk hret X0 e0 hZ
 have N0 := Fr.nil n0
 show Go _ p e below s _ _ _ (s₁.setTop (mkF m 0 #[rv a1] []))
 refine c_aloadN X0 hx hby d9_0 rfl rfl <| c_callS X0 hx hby hZ hown hml (gw hw 66 rfl) (gw hw 67 rfl) (gw hw 68 rfl) (gw hw 69 rfl) e0 (rmLC0 hw a1 el h0 n0 Z0 P0 P1 P2 P3) pd_13 rfl d9_1 [] rfl 0 (by decide) rfl rfl fun o342 T342 L342 X342 hQ342 => ?_
 obtain ⟨rfl, N342q, e342⟩ := hQ342
 have N342 := Fr.app N0 N342q
 refine c_sh 4 [.ref el] rfl rfl ?_
 exact c_retA X342 hx hby hlk hret d9_4 rfl ⟨rfl, rfl⟩ (by decide) e342 ⟨rfl, N342, rfl⟩
theorem d25_0 : decode jdk_29_method_69_code 0 = .ok (.iload_n 0, 1) := by decide +kernel
theorem d25_1 : decode jdk_29_method_69_code 1 = .ok (.iload_n 1, 1) := by decide +kernel
theorem d25_2 : decode jdk_29_method_69_code 2 = .ok (.if_icmp .gt 7, 3) := by decide +kernel
theorem d25_9 : decode jdk_29_method_69_code 9 = .ok (.iload_n 1, 1) := by decide +kernel
theorem d25_10 : decode jdk_29_method_69_code 10 = .ok (.ireturn, 1) := by decide +kernel
def QMI1 (Z : State)  (h0 : Heap) (n0 : Nat) (v : Option Value) (h : Heap) (L : List Loc) : Prop := v = some (.int (1 : Int32)) ∧ Fr n0 L ∧ h = h0
theorem rmMI1 {l : Launch} {Z : State} {a0 : Array Value} (hw : HW Z a0)  (h0 : Heap) (n0 : Nat) (Z0 : n0 ≤ h0.size)  : own_M l Z ⟨"java/lang/Math", "min", "(II)I"⟩ jdk_29_method_69_code 2 (some .int) (rmk 0 0 0 0) #[.int 10, .int 1] h0 (QMI1 Z  h0 n0) := by
 refine own_body rfl (Jvm.Free.JP.mathPlain rfl (by decide +kernel)) ?_
 intro p e s m below meth c s₁ hx hby hml hown hnm hlk hret X0 e0 hZ
 have N0 := Fr.nil n0
 show Go _ p e below s _ _ _ (s₁.setTop (mkF m 0 #[iv 10, iv 1] []))
 refine c_iloadN X0 hx hby d25_0 rfl <| c_iloadN X0 hx hby d25_1 rfl <| c_icmpYes X0 hx hby 9 d25_2 (by decide) (by decide) <| c_iloadN X0 hx hby d25_9 rfl ?_
 refine c_retI X0 hx hby hlk hret d25_10 rfl (by simp) (by decide) e0 ⟨rfl, N0, rfl⟩
theorem d24_0 : decode jdk_65_method_120_code 0 = .ok (.aload_n 2, 1) := by decide +kernel
theorem d24_1 : decode jdk_65_method_120_code 1 = .ok (.ldc 110, 2) := by decide +kernel
theorem d24_3 : decode jdk_65_method_120_code 3 = .ok (.if_acmp .ne 10, 3) := by decide +kernel
theorem d24_6 : decode jdk_65_method_120_code 6 = .ok (.iload_n 1, 1) := by decide +kernel
theorem d24_7 : decode jdk_65_method_120_code 7 = .ok (.anewarray 2, 3) := by decide +kernel
theorem d24_10 : decode jdk_65_method_120_code 10 = .ok (.goto 14, 3) := by decide +kernel
theorem d24_24 : decode jdk_65_method_120_code 24 = .ok (.astore_n 3, 1) := by decide +kernel
theorem d24_25 : decode jdk_65_method_120_code 25 = .ok (.aload_n 0, 1) := by decide +kernel
theorem d24_26 : decode jdk_65_method_120_code 26 = .ok (.iconst 0, 1) := by decide +kernel
theorem d24_27 : decode jdk_65_method_120_code 27 = .ok (.aload_n 3, 1) := by decide +kernel
theorem d24_28 : decode jdk_65_method_120_code 28 = .ok (.iconst 0, 1) := by decide +kernel
theorem d24_29 : decode jdk_65_method_120_code 29 = .ok (.aload_n 0, 1) := by decide +kernel
theorem d24_30 : decode jdk_65_method_120_code 30 = .ok (.arraylength, 1) := by decide +kernel
theorem d24_31 : decode jdk_65_method_120_code 31 = .ok (.iload_n 1, 1) := by decide +kernel
theorem d24_32 : decode jdk_65_method_120_code 32 = .ok (.invokestatic 304, 3) := by decide +kernel
theorem d24_35 : decode jdk_65_method_120_code 35 = .ok (.invokestatic 150, 3) := by decide +kernel
theorem d24_38 : decode jdk_65_method_120_code 38 = .ok (.aload_n 3, 1) := by decide +kernel
theorem d24_39 : decode jdk_65_method_120_code 39 = .ok (.areturn, 1) := by decide +kernel
theorem pn_24 : plainName "java/util/Arrays" = true := by first | (simp [plainName, overriddenIn]; done) | decide +kernel
def QC31 (Z : State) (a1 mr : Addr) (k : ClassId) (v0 : Addr) (h0 : Heap) (n0 : Nat) (v : Option Value) (h : Heap) (L : List Loc) : Prop := ∃ (b : Addr), ∃ (k2 : ClassId), v = some (.ref b) ∧ Fr n0 L ∧ h0.size ≤ b ∧ n0 ≤ b ∧ Keep h0 h [] ∧ Exa Z h b "[Ljava/lang/Object;" ∧ Arv Z h b k2 (.object "java/lang/Object") (1 : Int32) [(.ref v0)] .null ∧ Ovr Z k2 "java/lang/Object"
theorem rmC31 {l : Launch} {Z : State} {a0 : Array Value} (hw : HW Z a0) (a1 mr : Addr) (k : ClassId) (v0 : Addr) (h0 : Heap) (n0 : Nat) (Z0 : n0 ≤ h0.size) (P0 : Exa Z h0 a1 "[Ljava/lang/Object;") (P1 : Arv Z h0 a1 k (.object "java/lang/Object") (10 : Int32) [(.ref v0), .null, .null, .null, .null, .null, .null, .null, .null, .null] .null) (P2 : eS Z h0 v0) (hm : own_Mir Z "[Ljava/lang/Object;" mr) : own_M l Z ⟨"java/util/Arrays", "copyOf", "([Ljava/lang/Object;ILjava/lang/Class;)[Ljava/lang/Object;"⟩ jdk_65_method_120_code 4 (some (.array (.object "java/lang/Object"))) (rmk 1 1 1 40) #[.ref a1, .int 1, .ref mr] h0 (QC31 Z a1 mr k v0 h0 n0) := by
 refine own_body rfl (plainFor_of_name pn_24) ?_
 intro p e s m below meth c s₁ hx hby hml hown hnm hlk hret X0 e0 hZ
 have N0 := Fr.nil n0
 show Go _ p e below s _ _ _ (s₁.setTop (mkF m 0 #[rv a1, iv 1, rv mr, .unset] []))
 refine c_aloadN X0 hx hby d24_0 rfl rfl ?_
 obtain ⟨T351, X351, e351, st351⟩ := own_ldcK X0 hx hZ hown (gw hw 177 rfl) hm e0 (g := (mkF m 1 #[rv a1, iv 1, rv mr, .unset] [.ref mr])) rfl (hb hby d24_1)
 refine go st351 ?_
 show Go _ p e below s _ _ _ (T351.setTop (mkF m 3 #[rv a1, iv 1, rv mr, .unset] [.ref mr, .ref mr]))
 refine go (fun _ => Jvm.RoadKit.acmp (g := (mkF m 3 #[rv a1, iv 1, rv mr, .unset] [.ref mr, .ref mr])) X351 hx rfl rfl rfl (pc0 := 3) (pc' := 6) (same := true) rfl (hb hby d24_3) rfl (decide_eq_true rfl) (by decide) (by decide)) ?_
 show Go _ p e below s _ _ _ (T351.setTop (mkF m 6 #[rv a1, iv 1, rv mr, .unset] []))
 refine c_iloadN X351 hx hby d24_6 rfl ?_
 obtain ⟨T352, h352, k352, X352, e352, E352, A352, AE352, O352, st352⟩ := newRE X351 hx hZ hown (gw hw 178 rfl) (gw hw 152 rfl) e351 (g := (mkF m 7 #[rv a1, iv 1, rv mr, .unset] [.int 1])) rfl (hb hby d24_7) rfl (by decide) (cap := 1) (by decide) (by decide) (by decide) (by decide) (ad := "[Ljava/lang/Object;") (by first | rfl | decide)
 obtain ⟨b352, g352⟩ : ∃ z, z = h0.size := ⟨_, rfl⟩
 rw [← g352] at A352 AE352 st352
 have G_b352 := Nat.le_trans Z0 (Nat.le_of_eq g352.symm)
 have KK352 := (Keep.refl h0 []).ext E352
 have ZN352 := Nat.le_trans Z0 E352.1
 have V352 : Arv Z h352 b352 k352 (.object "java/lang/Object") (1 : Int32) [.null] .null := (Arv.new A352 (by decide)).pad (pad_rep [] .null 1)
 refine go st352 ?_
 show Go _ p e below s _ _ _ (T352.setTop (mkF m 10 #[rv a1, iv 1, rv mr, .unset] [.ref b352]))
 refine c_goto X352 hx hby 24 d24_10 (by decide) <| c_astoreN X352 hx hby _ d24_24 rfl rfl <| c_aloadN X352 hx hby d24_25 rfl rfl <| c_iconst X352 hx hby 0 d24_26 rfl <| c_aloadN X352 hx hby d24_27 rfl rfl <| c_iconst X352 hx hby 0 d24_28 rfl <| c_aloadN X352 hx hby d24_29 rfl rfl <| c_shL #[rv a1, iv 1, rv mr, rv b352] rfl ?_
 have cc353 := P1.ext E352
 refine c_alen X352 hx hby hZ e352 cc353 d24_30 <| c_iloadN X352 hx hby d24_31 rfl <| c_callS X352 hx hby hZ hown hml (gw hw 179 rfl) (gw hw 180 rfl) (gw hw 149 rfl) (gw hw 181 rfl) e352 (rmMI1 hw  h352 n0 ZN352 ) pd_5 rfl d24_32 [.int 0, .ref b352, .int 0, .ref a1] rfl 4 (by decide) rfl rfl fun o354 T354 L354 X354 hQ354 => ?_
 obtain ⟨rfl, N354q, e354⟩ := hQ354
 have N354 := Fr.app N0 N354q
 refine c_sh 35 [.int 1, .int 0, .ref b352, .int 0, .ref a1] rfl rfl ?_
 obtain ⟨clb355, Arb355, qb355, -⟩ := id V352
 have cc356 := P2.ext E352
 obtain ⟨T355, h355, L355, X355, e355, N355, K355, A355, st355⟩ := cpA X354 hx hZ hown (gw hw 182 rfl) (gw hw 185 rfl) (gw hw 183 rfl) (gw hw 184 rfl) e354 cc353 V352 (us := [(.ref v0)]) (Or.inr ⟨rfl, rfl, ⟨Sto.ofV Arb355 qb355 O352 (Ins.of_exa cc356 (gw hw 153 rfl)), trivial⟩⟩) (by decide) (by decide) (by decide) (by decide) (by decide) rfl (by decide) N354 G_b352 (g := (mkF m 35 #[rv a1, iv 1, rv mr, rv b352] [.int 1, .int 0, .ref b352, .int 0, .ref a1])) rfl (by rw [hml]; rfl) rfl (hb hby d24_35) (by decide) (W := 0) (by show 2 * 0 + _ ≤ _; exact Nat.le_of_eq rfl) (by decide)
 have V355 : Arv Z h355 b352 k352 (.object "java/lang/Object") (1 : Int32) [(.ref v0)] .null := A355
 have ne357 : a1 ≠ b352 := (Nat.ne_of_lt (Nat.lt_of_lt_of_le P0.lt (Nat.le_of_eq g352.symm)))
 have KK355 := KK352.trans K355 (allS (P := fun x => x ∈ [] ∨ h0.size ≤ x) (Or.inr (Nat.le_trans (Keep.refl h0 []).1 (Nat.le_of_eq g352.symm))) all0)
 have ZN355 := Nat.le_trans ZN352 K355.1
 refine go st355 ?_
 show Go _ p e below s _ _ _ (T355.setTop (mkF m 38 #[rv a1, iv 1, rv mr, rv b352] []))
 refine c_aloadN X355 hx hby d24_38 rfl rfl ?_
 have cc358 := AE352.keep K355
 exact c_retA X355 hx hby hlk hret d24_39 rfl ⟨rfl, rfl⟩ (by decide) e355 ⟨b352, k352, rfl, N355, (Nat.le_trans (Keep.refl h0 []).1 (Nat.le_of_eq g352.symm)), G_b352, KK355, cc358, V355, O352⟩
theorem d23_0 : decode jdk_65_method_119_code 0 = .ok (.aload_n 0, 1) := by decide +kernel
theorem d23_1 : decode jdk_65_method_119_code 1 = .ok (.iload_n 1, 1) := by decide +kernel
theorem d23_2 : decode jdk_65_method_119_code 2 = .ok (.aload_n 0, 1) := by decide +kernel
theorem d23_3 : decode jdk_65_method_119_code 3 = .ok (.invokevirtual 86, 3) := by decide +kernel
theorem d23_6 : decode jdk_65_method_119_code 6 = .ok (.invokestatic 300, 3) := by decide +kernel
theorem d23_9 : decode jdk_65_method_119_code 9 = .ok (.areturn, 1) := by decide +kernel
theorem pn_23 : plainName "java/util/Arrays" = true := by first | (simp [plainName, overriddenIn]; done) | decide +kernel
theorem pd_14 : parseMethodDescriptor "([Ljava/lang/Object;ILjava/lang/Class;)[Ljava/lang/Object;" = some ⟨[(.array (.object "java/lang/Object")), .int, (.object "java/lang/Class")], some (.array (.object "java/lang/Object"))⟩ := by decide +kernel
def QC21 (Z : State) (a1 : Addr) (k : ClassId) (v0 mr : Addr) (h0 : Heap) (n0 : Nat) (v : Option Value) (h : Heap) (L : List Loc) : Prop := ∃ (b : Addr), ∃ (k2 : ClassId), v = some (.ref b) ∧ Fr n0 L ∧ h0.size ≤ b ∧ n0 ≤ b ∧ Keep h0 h [] ∧ Exa Z h b "[Ljava/lang/Object;" ∧ Arv Z h b k2 (.object "java/lang/Object") (1 : Int32) [(.ref v0)] .null ∧ Ovr Z k2 "java/lang/Object"
theorem rmC21 {l : Launch} {Z : State} {a0 : Array Value} (hw : HW Z a0) (a1 : Addr) (k : ClassId) (v0 mr : Addr) (h0 : Heap) (n0 : Nat) (Z0 : n0 ≤ h0.size) (P0 : Exa Z h0 a1 "[Ljava/lang/Object;") (P1 : Arv Z h0 a1 k (.object "java/lang/Object") (10 : Int32) [(.ref v0), .null, .null, .null, .null, .null, .null, .null, .null, .null] .null) (P2 : eS Z h0 v0) (hm : own_Mir Z "[Ljava/lang/Object;" mr) : own_M l Z ⟨"java/util/Arrays", "copyOf", "([Ljava/lang/Object;I)[Ljava/lang/Object;"⟩ jdk_65_method_119_code 2 (some (.array (.object "java/lang/Object"))) (rmk 2 1 1 55) #[.ref a1, .int 1] h0 (QC21 Z a1 k v0 mr h0 n0) := by
 refine own_body rfl (plainFor_of_name pn_23) ?_
 intro p e s m below meth c s₁ hx hby hml hown hnm hlk hret X0 e0 hZ
 have N0 := Fr.nil n0
 show Go _ p e below s _ _ _ (s₁.setTop (mkF m 0 #[rv a1, iv 1] []))
 refine c_aloadN X0 hx hby d23_0 rfl rfl <| c_iloadN X0 hx hby d23_1 rfl <| c_aloadN X0 hx hby d23_2 rfl rfl ?_
 obtain ⟨T361, X361, e361, st361⟩ := own_gcls X0 hx hZ hown (gw hw 168 rfl) (gw hw 169 rfl) (gw hw 74 rfl) (gw hw 171 rfl) (gw hw 170 rfl) (gw hw 172 rfl) e0 P0 hm (g := (mkF m 3 #[rv a1, iv 1] [.ref a1, .int 1, .ref a1])) rfl (by rw [hml]; rfl) rfl (hb hby d23_3) (by decide) (W := 2) (by show 2 * 0 + _ ≤ _; exact Nat.le_of_eq rfl) (by decide)
 refine go st361 ?_
 show Go _ p e below s _ _ _ (T361.setTop (mkF m 6 #[rv a1, iv 1] [.ref mr, .int 1, .ref a1]))
 refine c_callS X361 hx hby hZ hown hml (gw hw 174 rfl) (gw hw 175 rfl) (gw hw 166 rfl) (gw hw 176 rfl) e361 (rmC31 hw a1 mr k v0 h0 n0 Z0 P0 P1 P2 hm) pd_14 rfl d23_6 [] rfl 0 (by decide) rfl rfl fun o362 T362 L362 X362 hQ362 => ?_
 obtain ⟨b362, k2362, rfl, N362q, u362_0, u362_1, K362, u362_3, u362_4, u362_5⟩ := hQ362
 have N362 := Fr.app N0 N362q
 have G_b362 := Nat.le_trans Z0 u362_0
 have KK362 := (Keep.refl h0 []).trans K362 all0
 have ZN362 := Nat.le_trans Z0 K362.1
 refine c_sh 9 [.ref b362] rfl rfl ?_
 exact c_retA X362 hx hby hlk hret d23_9 rfl ⟨rfl, rfl⟩ (by decide) rfl ⟨b362, k2362, rfl, N362, (Nat.le_trans (Keep.refl h0 []).1 u362_0), u362_1, KK362, u362_3, u362_4, u362_5⟩
theorem d22_0 : decode jdk_38_method_16_code 0 = .ok (.aload_n 0, 1) := by decide +kernel
theorem d22_1 : decode jdk_38_method_16_code 1 = .ok (.getfield 9, 3) := by decide +kernel
theorem d22_4 : decode jdk_38_method_16_code 4 = .ok (.aload_n 0, 1) := by decide +kernel
theorem d22_5 : decode jdk_38_method_16_code 5 = .ok (.getfield 48, 3) := by decide +kernel
theorem d22_8 : decode jdk_38_method_16_code 8 = .ok (.invokestatic 66, 3) := by decide +kernel
theorem d22_11 : decode jdk_38_method_16_code 11 = .ok (.areturn, 1) := by decide +kernel
theorem pn_22 : plainName "java/util/ArrayList" = true := by first | (simp [plainName, overriddenIn]; done) | decide +kernel
theorem pd_15 : parseMethodDescriptor "([Ljava/lang/Object;I)[Ljava/lang/Object;" = some ⟨[(.array (.object "java/lang/Object")), .int], some (.array (.object "java/lang/Object"))⟩ := by decide +kernel
def QTA1 (Z : State) (a1 d : Addr) (k : ClassId) (v0 mr : Addr) (h0 : Heap) (n0 : Nat) (v : Option Value) (h : Heap) (L : List Loc) : Prop := ∃ (b : Addr), ∃ (k2 : ClassId), v = some (.ref b) ∧ Fr n0 L ∧ h0.size ≤ b ∧ n0 ≤ b ∧ Keep h0 h [] ∧ Exa Z h b "[Ljava/lang/Object;" ∧ Arv Z h b k2 (.object "java/lang/Object") (1 : Int32) [(.ref v0)] .null ∧ Ovr Z k2 "java/lang/Object"
theorem rmTA1 {l : Launch} {Z : State} {a0 : Array Value} (hw : HW Z a0) (a1 d : Addr) (k : ClassId) (v0 mr : Addr) (h0 : Heap) (n0 : Nat) (Z0 : n0 ≤ h0.size) (P0 : Fld Z h0 a1 "java/util/ArrayList" "size" "I" (.int (1 : Int32))) (P1 : Fld Z h0 a1 "java/util/ArrayList" "elementData" "[Ljava/lang/Object;" (.ref d)) (P2 : Exa Z h0 d "[Ljava/lang/Object;") (P3 : Arv Z h0 d k (.object "java/lang/Object") (10 : Int32) [(.ref v0), .null, .null, .null, .null, .null, .null, .null, .null, .null] .null) (P4 : eS Z h0 v0) (hm : own_Mir Z "[Ljava/lang/Object;" mr) : own_M l Z ⟨"java/util/ArrayList", "toArray", "()[Ljava/lang/Object;"⟩ jdk_38_method_16_code 1 (some (.array (.object "java/lang/Object"))) (rmk 3 1 1 68) #[.ref a1] h0 (QTA1 Z a1 d k v0 mr h0 n0) := by
 refine own_body rfl (plainFor_of_name pn_22) ?_
 intro p e s m below meth c s₁ hx hby hml hown hnm hlk hret X0 e0 hZ
 have N0 := Fr.nil n0
 show Go _ p e below s _ _ _ (s₁.setTop (mkF m 0 #[rv a1] []))
 refine c_aloadN X0 hx hby d22_0 rfl rfl <| c_getf X0 hx hby hZ hown (gw hw 25 rfl) Via.refl e0 P1 d22_1 fun T366 X366 e366 => ?_
 refine c_sh 4 [.ref d] rfl rfl <| c_aloadN X366 hx hby d22_4 rfl rfl <| c_getf X366 hx hby hZ hown (gw hw 85 rfl) Via.refl e366 P0 d22_5 fun T367 X367 e367 => ?_
 refine c_sh 8 [.int 1, .ref d] rfl rfl <| c_callS X367 hx hby hZ hown hml (gw hw 164 rfl) (gw hw 165 rfl) (gw hw 166 rfl) (gw hw 167 rfl) e367 (rmC21 hw d k v0 mr h0 n0 Z0 P2 P3 P4 hm) pd_15 rfl d22_8 [] rfl 0 (by decide) rfl rfl fun o368 T368 L368 X368 hQ368 => ?_
 obtain ⟨b368, k2368, rfl, N368q, u368_0, u368_1, K368, u368_3, u368_4, u368_5⟩ := hQ368
 have N368 := Fr.app N0 N368q
 have G_b368 := Nat.le_trans Z0 u368_0
 have KK368 := (Keep.refl h0 []).trans K368 all0
 have ZN368 := Nat.le_trans Z0 K368.1
 refine c_sh 11 [.ref b368] rfl rfl ?_
 exact c_retA X368 hx hby hlk hret d22_11 rfl ⟨rfl, rfl⟩ (by decide) rfl ⟨b368, k2368, rfl, N368, (Nat.le_trans (Keep.refl h0 []).1 u368_0), u368_1, KK368, u368_3, u368_4, u368_5⟩
theorem d26_0 : decode jdk_40_method_47_code 0 = .ok (.aload_n 0, 1) := by decide +kernel
theorem d26_1 : decode jdk_40_method_47_code 1 = .ok (.arraylength, 1) := by decide +kernel
theorem d26_2 : decode jdk_40_method_47_code 2 = .ok (.tableswitch 57 0 2 #[26, 32, 43], 26) := by decide +kernel
theorem d26_34 : decode jdk_40_method_47_code 34 = .ok (.new 96, 3) := by decide +kernel
theorem d26_37 : decode jdk_40_method_47_code 37 = .ok (.dup, 1) := by decide +kernel
theorem d26_38 : decode jdk_40_method_47_code 38 = .ok (.aload_n 0, 1) := by decide +kernel
theorem d26_39 : decode jdk_40_method_47_code 39 = .ok (.iconst 0, 1) := by decide +kernel
theorem d26_40 : decode jdk_40_method_47_code 40 = .ok (.aaload, 1) := by decide +kernel
theorem d26_41 : decode jdk_40_method_47_code 41 = .ok (.invokespecial 98, 3) := by decide +kernel
theorem d26_44 : decode jdk_40_method_47_code 44 = .ok (.areturn, 1) := by decide +kernel
theorem pn_26 : plainName "java/util/List" = true := by first | (simp [plainName, overriddenIn]; done) | decide +kernel
theorem pd_16 : parseMethodDescriptor "(Ljava/lang/Object;)V" = some ⟨[(.object "java/lang/Object")], none⟩ := by decide +kernel
def QLO1 (Z : State) (a1 : Addr) (k : ClassId) (v0 em : Addr) (h0 : Heap) (n0 : Nat) (v : Option Value) (h : Heap) (L : List Loc) : Prop := ∃ (b : Addr), v = some (.ref b) ∧ Fr n0 L ∧ Keep h0 h []
theorem rmLO1 {l : Launch} {Z : State} {a0 : Array Value} (hw : HW Z a0) (a1 : Addr) (k : ClassId) (v0 em : Addr) (h0 : Heap) (n0 : Nat) (Z0 : n0 ≤ h0.size) (P0 : Sta Z Z.heap "java/util/ImmutableCollections" "EMPTY" "Ljava/lang/Object;" (.ref em)) (P1 : Old Z n0 h0) (P2 : Arv Z h0 a1 k (.object "java/lang/Object") (1 : Int32) [(.ref v0)] .null) (P3 : eS Z h0 v0) : own_M l Z ⟨"java/util/List", "of", "([Ljava/lang/Object;)Ljava/util/List;"⟩ jdk_40_method_47_code 2 (some (.object "java/util/List")) (rmk 5 1 2 62) #[.ref a1] h0 (QLO1 Z a1 k v0 em h0 n0) := by
 refine own_body rfl (plainFor_of_name pn_26) ?_
 intro p e s m below meth c s₁ hx hby hml hown hnm hlk hret X0 e0 hZ
 have N0 := Fr.nil n0
 show Go _ p e below s _ _ _ (s₁.setTop (mkF m 0 #[rv a1, .unset] []))
 refine c_aloadN X0 hx hby d26_0 rfl rfl <| c_alen X0 hx hby hZ e0 P2 d26_1 ?_
 refine go (fun _ => XS.tswIn (i := (1 : Int32)) (rest := []) (pc0 := 2) (pc' := 34) (g := (mkF m 2 #[rv a1, .unset] [.int 1])) X0.here hx rfl rfl (hb hby d26_2) rfl (by decide) (o := 32) (by decide) (by decide) (by decide)) ?_
 show Go _ p e below s _ _ _ (s₁.setTop (mkF m 34 #[rv a1, .unset] []))
 refine c_new X0 hx hby hZ hown (gw hw 234 rfl) (gw hw 235 rfl) (gw hw 236 rfl) e0 d26_34 (by decide) fun T375 h375 b375 g375 X375 e375 E375 A375 D375 => ?_
 have G_b375 := Nat.le_trans Z0 (Nat.le_of_eq g375.symm)
 have KK375 := (Keep.refl h0 []).ext E375
 have ZN375 := Nat.le_trans Z0 E375.1
 have OL375 := P1.ext E375
 refine c_sh 37 [.ref b375] rfl rfl <| c_dup X375 hx hby d26_37 rfl <| c_aloadN X375 hx hby d26_38 rfl rfl <| c_iconst X375 hx hby 0 d26_39 rfl ?_
 have cc376 := P2.ext E375
 refine c_aal X375 hx hby hZ e375 cc376 (by decide) (.ref v0) rfl rfl d26_40 ?_
 have cc378 := show Fld Z h375 b375 "java/util/ImmutableCollections$List12" "e0" "Ljava/lang/Object;" .null from D375 (Or.inr (gw hw 247 rfl)) (ty := (.object "java/lang/Object")) (by decide)
 have cc379 := show Fld Z h375 b375 "java/util/ImmutableCollections$List12" "e1" "Ljava/lang/Object;" .null from D375 (Or.inr (gw hw 249 rfl)) (ty := (.object "java/lang/Object")) (by decide)
 refine c_init X375 hx hby hZ hown hml (gw hw 250 rfl) (gw hw 251 rfl) (gw hw 252 rfl) (gw hw 236 rfl) rfl e375 (rm36 hw b375 v0 .null .null em h375 n0 ZN375 P0 OL375 A375 G_b375 cc378 cc379) pd_16 rfl d26_41 [.ref b375] rfl 1 (by decide) rfl rfl fun o377 T377 L377 X377 hQ377 => ?_
 obtain ⟨rfl, N377q, K377⟩ := hQ377
 have N377 := Fr.app N0 N377q
 have ne380 : a1 ≠ b375 := (Nat.ne_of_lt (Nat.lt_of_lt_of_le P2.lt (Nat.le_of_eq g375.symm)))
 have KK377 := KK375.trans K377 (allS (P := fun x => x ∈ [] ∨ h0.size ≤ x) (Or.inr (Nat.le_trans (Keep.refl h0 []).1 (Nat.le_of_eq g375.symm))) all0)
 have ZN377 := Nat.le_trans ZN375 K377.1
 have OL377 := OL375.keep K377 (allS G_b375 all0)
 refine c_sh 44 [.ref b375] rfl rfl ?_
 exact c_retA X377 hx hby hlk hret d26_44 rfl ⟨rfl, rfl⟩ (by decide) rfl ⟨b375, rfl, N377, KK377⟩
theorem d10_44 : decode jdk_56_method_3_code 44 = .ok (.aload_n 0, 1) := by decide +kernel
theorem d10_45 : decode jdk_56_method_3_code 45 = .ok (.invokeinterface 30 1, 5) := by decide +kernel
theorem d10_50 : decode jdk_56_method_3_code 50 = .ok (.invokestatic 34, 3) := by decide +kernel
theorem d10_53 : decode jdk_56_method_3_code 53 = .ok (.areturn, 1) := by decide +kernel
theorem pd_17 : parseMethodDescriptor "([Ljava/lang/Object;)Ljava/util/List;" = some ⟨[(.array (.object "java/lang/Object"))], some (.object "java/util/List")⟩ := by decide +kernel
def QLC1 (Z : State) (a1 el d : Addr) (k : ClassId) (v0 mr em : Addr) (h0 : Heap) (n0 : Nat) (v : Option Value) (h : Heap) (L : List Loc) : Prop := ∃ (b : Addr), v = some (.ref b) ∧ Fr n0 L ∧ Keep h0 h []
theorem rmLC1 {l : Launch} {Z : State} {a0 : Array Value} (hw : HW Z a0) (a1 el d : Addr) (k : ClassId) (v0 mr em : Addr) (h0 : Heap) (n0 : Nat) (Z0 : n0 ≤ h0.size) (P0 : Sta Z Z.heap "java/util/ImmutableCollections" "EMPTY_LIST" "Ljava/util/ImmutableCollections$ListN;" (.ref el)) (P1 : Old Z n0 h0) (P2 : Exa Z h0 a1 "java/util/ArrayList") (P3 : Fld Z h0 a1 "java/util/ArrayList" "size" "I" (.int (1 : Int32))) (P4 : Fld Z h0 a1 "java/util/ArrayList" "elementData" "[Ljava/lang/Object;" (.ref d)) (P5 : Exa Z h0 d "[Ljava/lang/Object;") (P6 : Arv Z h0 d k (.object "java/lang/Object") (10 : Int32) [(.ref v0), .null, .null, .null, .null, .null, .null, .null, .null, .null] .null) (P7 : eS Z h0 v0) (P8 : Sta Z Z.heap "java/util/ImmutableCollections" "EMPTY" "Ljava/lang/Object;" (.ref em)) (hm : own_Mir Z "[Ljava/lang/Object;" mr) : own_M l Z ⟨"java/util/ImmutableCollections", "listCopy", "(Ljava/util/Collection;)Ljava/util/List;"⟩ jdk_56_method_3_code 2 (some (.object "java/util/List")) (rmk 6 2 3 80) #[.ref a1] h0 (QLC1 Z a1 el d k v0 mr em h0 n0) := by
 refine own_body rfl (plainFor_of_name pn_10) ?_
 intro p e s m below meth c s₁ hx hby hml hown hnm hlk hret X0 e0 hZ
 have N0 := Fr.nil n0
 show Go _ p e below s _ _ _ (s₁.setTop (mkF m 0 #[rv a1, .unset] []))
 refine c_aloadN X0 hx hby d10_0 rfl rfl ?_
 obtain ⟨T387, X387, e387, st387⟩ := instNo X0 hx hZ hown (gw hw 70 rfl) e0 P2 (own_no (gw hw 71 rfl) (gw hw 235 rfl) (NS.step (gw hw 71 rfl) (NS.step (gw hw 72 rfl) (NS.step (gw hw 73 rfl) (own_nsroot (gw hw 74 rfl) (gw hw 235 rfl) (by decide)) (by decide)) (by decide)) (by decide)) (by decide)) (g := (mkF m 1 #[rv a1, .unset] [.ref a1])) rfl rfl (hb hby d10_1)
 refine go st387 ?_
 show Go _ p e below s _ _ _ (T387.setTop (mkF m 4 #[rv a1, .unset] [.int 0]))
 refine c_ifNo X387 hx hby d10_4 ((if0 _ _).trans (teq (rfl : (0 : Int32) = (0 : Int32))).2) <| c_aloadN X387 hx hby d10_7 rfl rfl ?_
 obtain ⟨T388, X388, e388, st388⟩ := instNo X387 hx hZ hown (gw hw 75 rfl) e387 P2 (own_no (gw hw 71 rfl) (gw hw 197 rfl) (NS.step (gw hw 71 rfl) (NS.step (gw hw 72 rfl) (NS.step (gw hw 73 rfl) (own_nsroot (gw hw 74 rfl) (gw hw 197 rfl) (by decide)) (by decide)) (by decide)) (by decide)) (by decide)) (g := (mkF m 8 #[rv a1, .unset] [.ref a1])) rfl rfl (hb hby d10_8)
 refine go st388 ?_
 show Go _ p e below s _ _ _ (T388.setTop (mkF m 11 #[rv a1, .unset] [.int 0]))
 refine c_ifYes X388 hx hby 31 d10_11 ((if0 _ _).trans (teq (rfl : (0 : Int32) = (0 : Int32))).1) (by decide) <| c_aloadN X388 hx hby d10_31 rfl rfl ?_
 obtain ⟨cq389, kq389, q389a, q389b, q389c⟩ := isOf hZ e388 P2
 obtain ⟨_, _, ⟨T389, L389, k389, n389⟩, -, X389, ⟨Lc389, hQ389, l389, y389, z389⟩, st389⟩ := X388.interfaceBack hx (xi := (⟨"java/util/Collection", "isEmpty", "()Z"⟩ : MethodName)) (y := (⟨"java/util/ArrayList", "isEmpty", "()Z"⟩ : MethodName)) hown (mvT hZ (gw hw 76 rfl)) (mvT hZ (gw hw 77 rfl)) (mvT hZ (gw hw 78 rfl)) (mvT hZ (gw hw 79 rfl)) (mvT hZ (gw hw 80 rfl)) (mvT hZ (gw hw 81 rfl)) (mvT hZ (gw hw 82 rfl)) (mvT hZ (gw hw 83 rfl)) (by decide) (backOf (W := 0) (rmIE1 hw a1 h0 n0 Z0 P3) hZ (gw hw 84 rfl) (gw hw 3 rfl) (by decide) (by decide)) q389a q389b q389c (g := (mkF m 32 #[rv a1, .unset] [.ref a1])) rfl (by rw [hml]; rfl) (Steps.refl _) (argsL := []) (rest := []) (lenOf pd_11 rfl) rfl (by show 2 * 0 + _ ≤ _; exact Nat.le_of_eq rfl) (hb hby d10_32) (fun _ _ => ⟨rfl, e388, (by decide : 0 + 0 ≤ _), (by decide : 0 + 0 ≤ _)⟩)
 dsimp only [Pt.U, Pt.locs, Pt.cells, Pt.slots] at X389 l389 y389 z389 st389 hQ389
 subst l389 y389 z389
 obtain ⟨rfl, N389q, e389⟩ := hQ389
 have N389 := Fr.app N0 N389q
 refine goT st389 ?_
 show Go _ p e below s _ _ _ (T389.setTop (mkF m 37 #[rv a1, .unset] [.int 0]))
 refine c_ifYes X389 hx hby 44 d10_37 ((if0 _ _).trans (teq (rfl : (0 : Int32) = (0 : Int32))).1) (by decide) <| c_aloadN X389 hx hby d10_44 rfl rfl ?_
 obtain ⟨cq390, kq390, q390a, q390b, q390c⟩ := isOf hZ e389 P2
 obtain ⟨_, _, ⟨T390, L390, k390, n390⟩, -, X390, ⟨Lc390, hQ390, l390, y390, z390⟩, st390⟩ := X389.interfaceBack hx (xi := (⟨"java/util/Collection", "toArray", "()[Ljava/lang/Object;"⟩ : MethodName)) (y := (⟨"java/util/ArrayList", "toArray", "()[Ljava/lang/Object;"⟩ : MethodName)) hown (mvT hZ (gw hw 156 rfl)) (mvT hZ (gw hw 157 rfl)) (mvT hZ (gw hw 158 rfl)) (mvT hZ (gw hw 159 rfl)) (mvT hZ (gw hw 160 rfl)) (mvT hZ (gw hw 161 rfl)) (mvT hZ (gw hw 162 rfl)) (mvT hZ (gw hw 83 rfl)) (by decide) (backOf (W := 0) (rmTA1 hw a1 d k v0 mr h0 n0 Z0 P3 P4 P5 P6 P7 hm) hZ (gw hw 163 rfl) (gw hw 3 rfl) (by decide) (by decide)) q390a q390b q390c (g := (mkF m 45 #[rv a1, .unset] [.ref a1])) rfl (by rw [hml]; rfl) (Steps.refl _) (argsL := []) (rest := []) (lenOf pd_7 rfl) rfl (by show 2 * 0 + _ ≤ _; exact Nat.le_of_eq rfl) (hb hby d10_45) (fun _ _ => ⟨rfl, e389, (by decide : 0 + 1 ≤ _), (by decide : 0 + 1 ≤ _)⟩)
 dsimp only [Pt.U, Pt.locs, Pt.cells, Pt.slots] at X390 l390 y390 z390 st390 hQ390
 subst l390 y390 z390
 obtain ⟨b390, k2390, rfl, N390q, u390_0, u390_1, K390, u390_3, u390_4, u390_5⟩ := hQ390
 have N390 := Fr.app N389 N390q
 have G_b390 := Nat.le_trans Z0 u390_0
 have KK390 : Keep h0 T390.heap [] := (Keep.refl h0 []).trans K390 all0
 have ZN390 : n0 ≤ T390.heap.size := Nat.le_trans Z0 K390.1
 have OL390 := P1.keep K390 all0
 refine goT st390 ?_
 show Go _ p e below s _ _ _ (T390.setTop (mkF m 50 #[rv a1, .unset] [.ref b390]))
 have cc392 := P7.keep K390
 refine c_callS X390 hx hby hZ hown hml (gw hw 186 rfl) (gw hw 187 rfl) (gw hw 64 rfl) (gw hw 188 rfl) rfl (rmLO1 hw b390 k2390 v0 em (T390.heap) n0 ZN390 P8 OL390 u390_4 cc392) pd_17 rfl d10_50 [] rfl 0 (by decide) rfl rfl fun o391 T391 L391 X391 hQ391 => ?_
 obtain ⟨b391, rfl, N391q, K391⟩ := hQ391
 have N391 := Fr.app N390 N391q
 have KK391 := KK390.trans K391 all0
 have ZN391 := Nat.le_trans ZN390 K391.1
 have OL391 := OL390.keep K391 all0
 refine c_sh 53 [.ref b391] rfl rfl ?_
 exact c_retA X391 hx hby hlk hret d10_53 rfl ⟨rfl, rfl⟩ (by decide) rfl ⟨b391, rfl, N391, KK391⟩
def QCO1 (Z : State) (a1 el d : Addr) (k : ClassId) (v0 mr em : Addr) (h0 : Heap) (n0 : Nat) (v : Option Value) (h : Heap) (L : List Loc) : Prop := ∃ (b : Addr), v = some (.ref b) ∧ Fr n0 L ∧ Keep h0 h []
theorem rmCO1 {l : Launch} {Z : State} {a0 : Array Value} (hw : HW Z a0) (a1 el d : Addr) (k : ClassId) (v0 mr em : Addr) (h0 : Heap) (n0 : Nat) (Z0 : n0 ≤ h0.size) (P0 : Sta Z Z.heap "java/util/ImmutableCollections" "EMPTY_LIST" "Ljava/util/ImmutableCollections$ListN;" (.ref el)) (P1 : Old Z n0 h0) (P2 : Exa Z h0 a1 "java/util/ArrayList") (P3 : Fld Z h0 a1 "java/util/ArrayList" "size" "I" (.int (1 : Int32))) (P4 : Fld Z h0 a1 "java/util/ArrayList" "elementData" "[Ljava/lang/Object;" (.ref d)) (P5 : Exa Z h0 d "[Ljava/lang/Object;") (P6 : Arv Z h0 d k (.object "java/lang/Object") (10 : Int32) [(.ref v0), .null, .null, .null, .null, .null, .null, .null, .null, .null] .null) (P7 : eS Z h0 v0) (P8 : Sta Z Z.heap "java/util/ImmutableCollections" "EMPTY" "Ljava/lang/Object;" (.ref em)) (hm : own_Mir Z "[Ljava/lang/Object;" mr) : own_M l Z ⟨"java/util/List", "copyOf", "(Ljava/util/Collection;)Ljava/util/List;"⟩ jdk_40_method_48_code 1 (some (.object "java/util/List")) (rmk 7 2 3 93) #[.ref a1] h0 (QCO1 Z a1 el d k v0 mr em h0 n0) := by
 refine own_body rfl (plainFor_of_name pn_9) ?_
 intro p e s m below meth c s₁ hx hby hml hown hnm hlk hret X0 e0 hZ
 have N0 := Fr.nil n0
 show Go _ p e below s _ _ _ (s₁.setTop (mkF m 0 #[rv a1] []))
 refine c_aloadN X0 hx hby d9_0 rfl rfl <| c_callS X0 hx hby hZ hown hml (gw hw 66 rfl) (gw hw 67 rfl) (gw hw 68 rfl) (gw hw 69 rfl) e0 (rmLC1 hw a1 el d k v0 mr em h0 n0 Z0 P0 P1 P2 P3 P4 P5 P6 P7 P8 hm) pd_13 rfl d9_1 [] rfl 0 (by decide) rfl rfl fun o394 T394 L394 X394 hQ394 => ?_
 obtain ⟨b394, rfl, N394q, K394⟩ := hQ394
 have N394 := Fr.app N0 N394q
 have KK394 := (Keep.refl h0 []).trans K394 all0
 have ZN394 := Nat.le_trans Z0 K394.1
 have OL394 := P1.keep K394 all0
 refine c_sh 4 [.ref b394] rfl rfl ?_
 exact c_retA X394 hx hby hlk hret d9_4 rfl ⟨rfl, rfl⟩ (by decide) rfl ⟨b394, rfl, N394, KK394⟩
def QMI2 (Z : State)  (h0 : Heap) (n0 : Nat) (v : Option Value) (h : Heap) (L : List Loc) : Prop := v = some (.int (2 : Int32)) ∧ Fr n0 L ∧ h = h0
theorem rmMI2 {l : Launch} {Z : State} {a0 : Array Value} (hw : HW Z a0)  (h0 : Heap) (n0 : Nat) (Z0 : n0 ≤ h0.size)  : own_M l Z ⟨"java/lang/Math", "min", "(II)I"⟩ jdk_29_method_69_code 2 (some .int) (rmk 0 0 0 0) #[.int 10, .int 2] h0 (QMI2 Z  h0 n0) := by
 refine own_body rfl (Jvm.Free.JP.mathPlain rfl (by decide +kernel)) ?_
 intro p e s m below meth c s₁ hx hby hml hown hnm hlk hret X0 e0 hZ
 have N0 := Fr.nil n0
 show Go _ p e below s _ _ _ (s₁.setTop (mkF m 0 #[iv 10, iv 2] []))
 refine c_iloadN X0 hx hby d25_0 rfl <| c_iloadN X0 hx hby d25_1 rfl <| c_icmpYes X0 hx hby 9 d25_2 (by decide) (by decide) <| c_iloadN X0 hx hby d25_9 rfl ?_
 refine c_retI X0 hx hby hlk hret d25_10 rfl (by simp) (by decide) e0 ⟨rfl, N0, rfl⟩
def QC32 (Z : State) (a1 mr : Addr) (k : ClassId) (v0 v1 : Addr) (h0 : Heap) (n0 : Nat) (v : Option Value) (h : Heap) (L : List Loc) : Prop := ∃ (b : Addr), ∃ (k2 : ClassId), v = some (.ref b) ∧ Fr n0 L ∧ h0.size ≤ b ∧ n0 ≤ b ∧ Keep h0 h [] ∧ Exa Z h b "[Ljava/lang/Object;" ∧ Arv Z h b k2 (.object "java/lang/Object") (2 : Int32) [(.ref v0), (.ref v1)] .null ∧ Ovr Z k2 "java/lang/Object"
theorem rmC32 {l : Launch} {Z : State} {a0 : Array Value} (hw : HW Z a0) (a1 mr : Addr) (k : ClassId) (v0 v1 : Addr) (h0 : Heap) (n0 : Nat) (Z0 : n0 ≤ h0.size) (P0 : Exa Z h0 a1 "[Ljava/lang/Object;") (P1 : Arv Z h0 a1 k (.object "java/lang/Object") (10 : Int32) [(.ref v0), (.ref v1), .null, .null, .null, .null, .null, .null, .null, .null] .null) (P2 : eS Z h0 v0) (P3 : eS Z h0 v1) (hm : own_Mir Z "[Ljava/lang/Object;" mr) : own_M l Z ⟨"java/util/Arrays", "copyOf", "([Ljava/lang/Object;ILjava/lang/Class;)[Ljava/lang/Object;"⟩ jdk_65_method_120_code 4 (some (.array (.object "java/lang/Object"))) (rmk 1 1 2 40) #[.ref a1, .int 2, .ref mr] h0 (QC32 Z a1 mr k v0 v1 h0 n0) := by
 refine own_body rfl (plainFor_of_name pn_24) ?_
 intro p e s m below meth c s₁ hx hby hml hown hnm hlk hret X0 e0 hZ
 have N0 := Fr.nil n0
 show Go _ p e below s _ _ _ (s₁.setTop (mkF m 0 #[rv a1, iv 2, rv mr, .unset] []))
 refine c_aloadN X0 hx hby d24_0 rfl rfl ?_
 obtain ⟨T404, X404, e404, st404⟩ := own_ldcK X0 hx hZ hown (gw hw 177 rfl) hm e0 (g := (mkF m 1 #[rv a1, iv 2, rv mr, .unset] [.ref mr])) rfl (hb hby d24_1)
 refine go st404 ?_
 show Go _ p e below s _ _ _ (T404.setTop (mkF m 3 #[rv a1, iv 2, rv mr, .unset] [.ref mr, .ref mr]))
 refine go (fun _ => Jvm.RoadKit.acmp (g := (mkF m 3 #[rv a1, iv 2, rv mr, .unset] [.ref mr, .ref mr])) X404 hx rfl rfl rfl (pc0 := 3) (pc' := 6) (same := true) rfl (hb hby d24_3) rfl (decide_eq_true rfl) (by decide) (by decide)) ?_
 show Go _ p e below s _ _ _ (T404.setTop (mkF m 6 #[rv a1, iv 2, rv mr, .unset] []))
 refine c_iloadN X404 hx hby d24_6 rfl ?_
 obtain ⟨T405, h405, k405, X405, e405, E405, A405, AE405, O405, st405⟩ := newRE X404 hx hZ hown (gw hw 178 rfl) (gw hw 152 rfl) e404 (g := (mkF m 7 #[rv a1, iv 2, rv mr, .unset] [.int 2])) rfl (hb hby d24_7) rfl (by decide) (cap := 2) (by decide) (by decide) (by decide) (by decide) (ad := "[Ljava/lang/Object;") (by first | rfl | decide)
 obtain ⟨b405, g405⟩ : ∃ z, z = h0.size := ⟨_, rfl⟩
 rw [← g405] at A405 AE405 st405
 have G_b405 := Nat.le_trans Z0 (Nat.le_of_eq g405.symm)
 have KK405 := (Keep.refl h0 []).ext E405
 have ZN405 := Nat.le_trans Z0 E405.1
 have V405 : Arv Z h405 b405 k405 (.object "java/lang/Object") (2 : Int32) [.null, .null] .null := (Arv.new A405 (by decide)).pad (pad_rep [] .null 2)
 refine go st405 ?_
 show Go _ p e below s _ _ _ (T405.setTop (mkF m 10 #[rv a1, iv 2, rv mr, .unset] [.ref b405]))
 refine c_goto X405 hx hby 24 d24_10 (by decide) <| c_astoreN X405 hx hby _ d24_24 rfl rfl <| c_aloadN X405 hx hby d24_25 rfl rfl <| c_iconst X405 hx hby 0 d24_26 rfl <| c_aloadN X405 hx hby d24_27 rfl rfl <| c_iconst X405 hx hby 0 d24_28 rfl <| c_aloadN X405 hx hby d24_29 rfl rfl <| c_shL #[rv a1, iv 2, rv mr, rv b405] rfl ?_
 have cc406 := P1.ext E405
 refine c_alen X405 hx hby hZ e405 cc406 d24_30 <| c_iloadN X405 hx hby d24_31 rfl <| c_callS X405 hx hby hZ hown hml (gw hw 179 rfl) (gw hw 180 rfl) (gw hw 149 rfl) (gw hw 181 rfl) e405 (rmMI2 hw  h405 n0 ZN405 ) pd_5 rfl d24_32 [.int 0, .ref b405, .int 0, .ref a1] rfl 4 (by decide) rfl rfl fun o407 T407 L407 X407 hQ407 => ?_
 obtain ⟨rfl, N407q, e407⟩ := hQ407
 have N407 := Fr.app N0 N407q
 refine c_sh 35 [.int 2, .int 0, .ref b405, .int 0, .ref a1] rfl rfl ?_
 obtain ⟨clb408, Arb408, qb408, -⟩ := id V405
 have cc409 := P3.ext E405
 have cc410 := P2.ext E405
 obtain ⟨T408, h408, L408, X408, e408, N408, K408, A408, st408⟩ := cpA X407 hx hZ hown (gw hw 182 rfl) (gw hw 185 rfl) (gw hw 183 rfl) (gw hw 184 rfl) e407 cc406 V405 (us := [(.ref v0), (.ref v1)]) (Or.inr ⟨rfl, rfl, ⟨Sto.ofV Arb408 qb408 O405 (Ins.of_exa cc410 (gw hw 153 rfl)), ⟨Sto.ofV Arb408 qb408 O405 (Ins.of_exa cc409 (gw hw 153 rfl)), trivial⟩⟩⟩) (by decide) (by decide) (by decide) (by decide) (by decide) rfl (by decide) N407 G_b405 (g := (mkF m 35 #[rv a1, iv 2, rv mr, rv b405] [.int 2, .int 0, .ref b405, .int 0, .ref a1])) rfl (by rw [hml]; rfl) rfl (hb hby d24_35) (by decide) (W := 0) (by show 2 * 0 + _ ≤ _; exact Nat.le_of_eq rfl) (by decide)
 have V408 : Arv Z h408 b405 k405 (.object "java/lang/Object") (2 : Int32) [(.ref v0), (.ref v1)] .null := A408
 have ne411 : a1 ≠ b405 := (Nat.ne_of_lt (Nat.lt_of_lt_of_le P0.lt (Nat.le_of_eq g405.symm)))
 have KK408 := KK405.trans K408 (allS (P := fun x => x ∈ [] ∨ h0.size ≤ x) (Or.inr (Nat.le_trans (Keep.refl h0 []).1 (Nat.le_of_eq g405.symm))) all0)
 have ZN408 := Nat.le_trans ZN405 K408.1
 refine go st408 ?_
 show Go _ p e below s _ _ _ (T408.setTop (mkF m 38 #[rv a1, iv 2, rv mr, rv b405] []))
 refine c_aloadN X408 hx hby d24_38 rfl rfl ?_
 have cc412 := AE405.keep K408
 exact c_retA X408 hx hby hlk hret d24_39 rfl ⟨rfl, rfl⟩ (by decide) e408 ⟨b405, k405, rfl, N408, (Nat.le_trans (Keep.refl h0 []).1 (Nat.le_of_eq g405.symm)), G_b405, KK408, cc412, V408, O405⟩
def QC22 (Z : State) (a1 : Addr) (k : ClassId) (v0 v1 mr : Addr) (h0 : Heap) (n0 : Nat) (v : Option Value) (h : Heap) (L : List Loc) : Prop := ∃ (b : Addr), ∃ (k2 : ClassId), v = some (.ref b) ∧ Fr n0 L ∧ h0.size ≤ b ∧ n0 ≤ b ∧ Keep h0 h [] ∧ Exa Z h b "[Ljava/lang/Object;" ∧ Arv Z h b k2 (.object "java/lang/Object") (2 : Int32) [(.ref v0), (.ref v1)] .null ∧ Ovr Z k2 "java/lang/Object"
theorem rmC22 {l : Launch} {Z : State} {a0 : Array Value} (hw : HW Z a0) (a1 : Addr) (k : ClassId) (v0 v1 mr : Addr) (h0 : Heap) (n0 : Nat) (Z0 : n0 ≤ h0.size) (P0 : Exa Z h0 a1 "[Ljava/lang/Object;") (P1 : Arv Z h0 a1 k (.object "java/lang/Object") (10 : Int32) [(.ref v0), (.ref v1), .null, .null, .null, .null, .null, .null, .null, .null] .null) (P2 : eS Z h0 v0) (P3 : eS Z h0 v1) (hm : own_Mir Z "[Ljava/lang/Object;" mr) : own_M l Z ⟨"java/util/Arrays", "copyOf", "([Ljava/lang/Object;I)[Ljava/lang/Object;"⟩ jdk_65_method_119_code 2 (some (.array (.object "java/lang/Object"))) (rmk 2 1 2 55) #[.ref a1, .int 2] h0 (QC22 Z a1 k v0 v1 mr h0 n0) := by
 refine own_body rfl (plainFor_of_name pn_23) ?_
 intro p e s m below meth c s₁ hx hby hml hown hnm hlk hret X0 e0 hZ
 have N0 := Fr.nil n0
 show Go _ p e below s _ _ _ (s₁.setTop (mkF m 0 #[rv a1, iv 2] []))
 refine c_aloadN X0 hx hby d23_0 rfl rfl <| c_iloadN X0 hx hby d23_1 rfl <| c_aloadN X0 hx hby d23_2 rfl rfl ?_
 obtain ⟨T415, X415, e415, st415⟩ := own_gcls X0 hx hZ hown (gw hw 168 rfl) (gw hw 169 rfl) (gw hw 74 rfl) (gw hw 171 rfl) (gw hw 170 rfl) (gw hw 172 rfl) e0 P0 hm (g := (mkF m 3 #[rv a1, iv 2] [.ref a1, .int 2, .ref a1])) rfl (by rw [hml]; rfl) rfl (hb hby d23_3) (by decide) (W := 2) (by show 2 * 0 + _ ≤ _; exact Nat.le_of_eq rfl) (by decide)
 refine go st415 ?_
 show Go _ p e below s _ _ _ (T415.setTop (mkF m 6 #[rv a1, iv 2] [.ref mr, .int 2, .ref a1]))
 refine c_callS X415 hx hby hZ hown hml (gw hw 174 rfl) (gw hw 175 rfl) (gw hw 166 rfl) (gw hw 176 rfl) e415 (rmC32 hw a1 mr k v0 v1 h0 n0 Z0 P0 P1 P2 P3 hm) pd_14 rfl d23_6 [] rfl 0 (by decide) rfl rfl fun o416 T416 L416 X416 hQ416 => ?_
 obtain ⟨b416, k2416, rfl, N416q, u416_0, u416_1, K416, u416_3, u416_4, u416_5⟩ := hQ416
 have N416 := Fr.app N0 N416q
 have G_b416 := Nat.le_trans Z0 u416_0
 have KK416 := (Keep.refl h0 []).trans K416 all0
 have ZN416 := Nat.le_trans Z0 K416.1
 refine c_sh 9 [.ref b416] rfl rfl ?_
 exact c_retA X416 hx hby hlk hret d23_9 rfl ⟨rfl, rfl⟩ (by decide) rfl ⟨b416, k2416, rfl, N416, (Nat.le_trans (Keep.refl h0 []).1 u416_0), u416_1, KK416, u416_3, u416_4, u416_5⟩
def QTA2 (Z : State) (a1 d : Addr) (k : ClassId) (v0 v1 mr : Addr) (h0 : Heap) (n0 : Nat) (v : Option Value) (h : Heap) (L : List Loc) : Prop := ∃ (b : Addr), ∃ (k2 : ClassId), v = some (.ref b) ∧ Fr n0 L ∧ h0.size ≤ b ∧ n0 ≤ b ∧ Keep h0 h [] ∧ Exa Z h b "[Ljava/lang/Object;" ∧ Arv Z h b k2 (.object "java/lang/Object") (2 : Int32) [(.ref v0), (.ref v1)] .null ∧ Ovr Z k2 "java/lang/Object"
theorem rmTA2 {l : Launch} {Z : State} {a0 : Array Value} (hw : HW Z a0) (a1 d : Addr) (k : ClassId) (v0 v1 mr : Addr) (h0 : Heap) (n0 : Nat) (Z0 : n0 ≤ h0.size) (P0 : Fld Z h0 a1 "java/util/ArrayList" "size" "I" (.int (2 : Int32))) (P1 : Fld Z h0 a1 "java/util/ArrayList" "elementData" "[Ljava/lang/Object;" (.ref d)) (P2 : Exa Z h0 d "[Ljava/lang/Object;") (P3 : Arv Z h0 d k (.object "java/lang/Object") (10 : Int32) [(.ref v0), (.ref v1), .null, .null, .null, .null, .null, .null, .null, .null] .null) (P4 : eS Z h0 v0) (P5 : eS Z h0 v1) (hm : own_Mir Z "[Ljava/lang/Object;" mr) : own_M l Z ⟨"java/util/ArrayList", "toArray", "()[Ljava/lang/Object;"⟩ jdk_38_method_16_code 1 (some (.array (.object "java/lang/Object"))) (rmk 3 1 2 68) #[.ref a1] h0 (QTA2 Z a1 d k v0 v1 mr h0 n0) := by
 refine own_body rfl (plainFor_of_name pn_22) ?_
 intro p e s m below meth c s₁ hx hby hml hown hnm hlk hret X0 e0 hZ
 have N0 := Fr.nil n0
 show Go _ p e below s _ _ _ (s₁.setTop (mkF m 0 #[rv a1] []))
 refine c_aloadN X0 hx hby d22_0 rfl rfl <| c_getf X0 hx hby hZ hown (gw hw 25 rfl) Via.refl e0 P1 d22_1 fun T420 X420 e420 => ?_
 refine c_sh 4 [.ref d] rfl rfl <| c_aloadN X420 hx hby d22_4 rfl rfl <| c_getf X420 hx hby hZ hown (gw hw 85 rfl) Via.refl e420 P0 d22_5 fun T421 X421 e421 => ?_
 refine c_sh 8 [.int 2, .ref d] rfl rfl <| c_callS X421 hx hby hZ hown hml (gw hw 164 rfl) (gw hw 165 rfl) (gw hw 166 rfl) (gw hw 167 rfl) e421 (rmC22 hw d k v0 v1 mr h0 n0 Z0 P2 P3 P4 P5 hm) pd_15 rfl d22_8 [] rfl 0 (by decide) rfl rfl fun o422 T422 L422 X422 hQ422 => ?_
 obtain ⟨b422, k2422, rfl, N422q, u422_0, u422_1, K422, u422_3, u422_4, u422_5⟩ := hQ422
 have N422 := Fr.app N0 N422q
 have G_b422 := Nat.le_trans Z0 u422_0
 have KK422 := (Keep.refl h0 []).trans K422 all0
 have ZN422 := Nat.le_trans Z0 K422.1
 refine c_sh 11 [.ref b422] rfl rfl ?_
 exact c_retA X422 hx hby hlk hret d22_11 rfl ⟨rfl, rfl⟩ (by decide) rfl ⟨b422, k2422, rfl, N422, (Nat.le_trans (Keep.refl h0 []).1 u422_0), u422_1, KK422, u422_3, u422_4, u422_5⟩
theorem d26_45 : decode jdk_40_method_47_code 45 = .ok (.new 96, 3) := by decide +kernel
theorem d26_48 : decode jdk_40_method_47_code 48 = .ok (.dup, 1) := by decide +kernel
theorem d26_49 : decode jdk_40_method_47_code 49 = .ok (.aload_n 0, 1) := by decide +kernel
theorem d26_50 : decode jdk_40_method_47_code 50 = .ok (.iconst 0, 1) := by decide +kernel
theorem d26_51 : decode jdk_40_method_47_code 51 = .ok (.aaload, 1) := by decide +kernel
theorem d26_52 : decode jdk_40_method_47_code 52 = .ok (.aload_n 0, 1) := by decide +kernel
theorem d26_53 : decode jdk_40_method_47_code 53 = .ok (.iconst 1, 1) := by decide +kernel
theorem d26_54 : decode jdk_40_method_47_code 54 = .ok (.aaload, 1) := by decide +kernel
theorem d26_55 : decode jdk_40_method_47_code 55 = .ok (.invokespecial 100, 3) := by decide +kernel
theorem d26_58 : decode jdk_40_method_47_code 58 = .ok (.areturn, 1) := by decide +kernel
theorem pd_18 : parseMethodDescriptor "(Ljava/lang/Object;Ljava/lang/Object;)V" = some ⟨[(.object "java/lang/Object"), (.object "java/lang/Object")], none⟩ := by decide +kernel
def QLO2 (Z : State) (a1 : Addr) (k : ClassId) (v0 v1 em : Addr) (h0 : Heap) (n0 : Nat) (v : Option Value) (h : Heap) (L : List Loc) : Prop := ∃ (b : Addr), v = some (.ref b) ∧ Fr n0 L ∧ Keep h0 h []
theorem rmLO2 {l : Launch} {Z : State} {a0 : Array Value} (hw : HW Z a0) (a1 : Addr) (k : ClassId) (v0 v1 em : Addr) (h0 : Heap) (n0 : Nat) (Z0 : n0 ≤ h0.size) (P0 : Sta Z Z.heap "java/util/ImmutableCollections" "EMPTY" "Ljava/lang/Object;" (.ref em)) (P1 : Old Z n0 h0) (P2 : Arv Z h0 a1 k (.object "java/lang/Object") (2 : Int32) [(.ref v0), (.ref v1)] .null) (P3 : eS Z h0 v0) (P4 : eS Z h0 v1) : own_M l Z ⟨"java/util/List", "of", "([Ljava/lang/Object;)Ljava/util/List;"⟩ jdk_40_method_47_code 2 (some (.object "java/util/List")) (rmk 5 1 2 63) #[.ref a1] h0 (QLO2 Z a1 k v0 v1 em h0 n0) := by
 refine own_body rfl (plainFor_of_name pn_26) ?_
 intro p e s m below meth c s₁ hx hby hml hown hnm hlk hret X0 e0 hZ
 have N0 := Fr.nil n0
 show Go _ p e below s _ _ _ (s₁.setTop (mkF m 0 #[rv a1, .unset] []))
 refine c_aloadN X0 hx hby d26_0 rfl rfl <| c_alen X0 hx hby hZ e0 P2 d26_1 ?_
 refine go (fun _ => XS.tswIn (i := (2 : Int32)) (rest := []) (pc0 := 2) (pc' := 45) (g := (mkF m 2 #[rv a1, .unset] [.int 2])) X0.here hx rfl rfl (hb hby d26_2) rfl (by decide) (o := 43) (by decide) (by decide) (by decide)) ?_
 show Go _ p e below s _ _ _ (s₁.setTop (mkF m 45 #[rv a1, .unset] []))
 refine c_new X0 hx hby hZ hown (gw hw 234 rfl) (gw hw 235 rfl) (gw hw 236 rfl) e0 d26_45 (by decide) fun T429 h429 b429 g429 X429 e429 E429 A429 D429 => ?_
 have G_b429 := Nat.le_trans Z0 (Nat.le_of_eq g429.symm)
 have KK429 := (Keep.refl h0 []).ext E429
 have ZN429 := Nat.le_trans Z0 E429.1
 have OL429 := P1.ext E429
 refine c_sh 48 [.ref b429] rfl rfl <| c_dup X429 hx hby d26_48 rfl <| c_aloadN X429 hx hby d26_49 rfl rfl <| c_iconst X429 hx hby 0 d26_50 rfl ?_
 have cc430 := P2.ext E429
 refine c_aal X429 hx hby hZ e429 cc430 (by decide) (.ref v0) rfl rfl d26_51 <| c_aloadN X429 hx hby d26_52 rfl rfl <| c_iconst X429 hx hby 1 d26_53 rfl <| c_aal X429 hx hby hZ e429 cc430 (by decide) (.ref v1) rfl rfl d26_54 ?_
 have cc432 := show Fld Z h429 b429 "java/util/ImmutableCollections$List12" "e0" "Ljava/lang/Object;" .null from D429 (Or.inr (gw hw 247 rfl)) (ty := (.object "java/lang/Object")) (by decide)
 have cc433 := show Fld Z h429 b429 "java/util/ImmutableCollections$List12" "e1" "Ljava/lang/Object;" .null from D429 (Or.inr (gw hw 249 rfl)) (ty := (.object "java/lang/Object")) (by decide)
 refine c_init X429 hx hby hZ hown hml (gw hw 237 rfl) (gw hw 238 rfl) (gw hw 240 rfl) (gw hw 236 rfl) rfl e429 (rm35 hw b429 v0 v1 .null .null h429 n0 ZN429 A429 G_b429 cc432 cc433) pd_18 rfl d26_55 [.ref b429] rfl 1 (by decide) rfl rfl fun o431 T431 L431 X431 hQ431 => ?_
 obtain ⟨rfl, N431q, K431⟩ := hQ431
 have N431 := Fr.app N0 N431q
 have ne434 : a1 ≠ b429 := (Nat.ne_of_lt (Nat.lt_of_lt_of_le P2.lt (Nat.le_of_eq g429.symm)))
 have KK431 := KK429.trans K431 (allS (P := fun x => x ∈ [] ∨ h0.size ≤ x) (Or.inr (Nat.le_trans (Keep.refl h0 []).1 (Nat.le_of_eq g429.symm))) all0)
 have ZN431 := Nat.le_trans ZN429 K431.1
 have OL431 := OL429.keep K431 (allS G_b429 all0)
 refine c_sh 58 [.ref b429] rfl rfl ?_
 exact c_retA X431 hx hby hlk hret d26_58 rfl ⟨rfl, rfl⟩ (by decide) rfl ⟨b429, rfl, N431, KK431⟩
def QLC2 (Z : State) (a1 el d : Addr) (k : ClassId) (v0 v1 mr em : Addr) (h0 : Heap) (n0 : Nat) (v : Option Value) (h : Heap) (L : List Loc) : Prop := ∃ (b : Addr), v = some (.ref b) ∧ Fr n0 L ∧ Keep h0 h []
theorem rmLC2 {l : Launch} {Z : State} {a0 : Array Value} (hw : HW Z a0) (a1 el d : Addr) (k : ClassId) (v0 v1 mr em : Addr) (h0 : Heap) (n0 : Nat) (Z0 : n0 ≤ h0.size) (P0 : Sta Z Z.heap "java/util/ImmutableCollections" "EMPTY_LIST" "Ljava/util/ImmutableCollections$ListN;" (.ref el)) (P1 : Old Z n0 h0) (P2 : Exa Z h0 a1 "java/util/ArrayList") (P3 : Fld Z h0 a1 "java/util/ArrayList" "size" "I" (.int (2 : Int32))) (P4 : Fld Z h0 a1 "java/util/ArrayList" "elementData" "[Ljava/lang/Object;" (.ref d)) (P5 : Exa Z h0 d "[Ljava/lang/Object;") (P6 : Arv Z h0 d k (.object "java/lang/Object") (10 : Int32) [(.ref v0), (.ref v1), .null, .null, .null, .null, .null, .null, .null, .null] .null) (P7 : eS Z h0 v0) (P8 : eS Z h0 v1) (P9 : Sta Z Z.heap "java/util/ImmutableCollections" "EMPTY" "Ljava/lang/Object;" (.ref em)) (hm : own_Mir Z "[Ljava/lang/Object;" mr) : own_M l Z ⟨"java/util/ImmutableCollections", "listCopy", "(Ljava/util/Collection;)Ljava/util/List;"⟩ jdk_56_method_3_code 2 (some (.object "java/util/List")) (rmk 6 2 4 80) #[.ref a1] h0 (QLC2 Z a1 el d k v0 v1 mr em h0 n0) := by
 refine own_body rfl (plainFor_of_name pn_10) ?_
 intro p e s m below meth c s₁ hx hby hml hown hnm hlk hret X0 e0 hZ
 have N0 := Fr.nil n0
 show Go _ p e below s _ _ _ (s₁.setTop (mkF m 0 #[rv a1, .unset] []))
 refine c_aloadN X0 hx hby d10_0 rfl rfl ?_
 obtain ⟨T442, X442, e442, st442⟩ := instNo X0 hx hZ hown (gw hw 70 rfl) e0 P2 (own_no (gw hw 71 rfl) (gw hw 235 rfl) (NS.step (gw hw 71 rfl) (NS.step (gw hw 72 rfl) (NS.step (gw hw 73 rfl) (own_nsroot (gw hw 74 rfl) (gw hw 235 rfl) (by decide)) (by decide)) (by decide)) (by decide)) (by decide)) (g := (mkF m 1 #[rv a1, .unset] [.ref a1])) rfl rfl (hb hby d10_1)
 refine go st442 ?_
 show Go _ p e below s _ _ _ (T442.setTop (mkF m 4 #[rv a1, .unset] [.int 0]))
 refine c_ifNo X442 hx hby d10_4 ((if0 _ _).trans (teq (rfl : (0 : Int32) = (0 : Int32))).2) <| c_aloadN X442 hx hby d10_7 rfl rfl ?_
 obtain ⟨T443, X443, e443, st443⟩ := instNo X442 hx hZ hown (gw hw 75 rfl) e442 P2 (own_no (gw hw 71 rfl) (gw hw 197 rfl) (NS.step (gw hw 71 rfl) (NS.step (gw hw 72 rfl) (NS.step (gw hw 73 rfl) (own_nsroot (gw hw 74 rfl) (gw hw 197 rfl) (by decide)) (by decide)) (by decide)) (by decide)) (by decide)) (g := (mkF m 8 #[rv a1, .unset] [.ref a1])) rfl rfl (hb hby d10_8)
 refine go st443 ?_
 show Go _ p e below s _ _ _ (T443.setTop (mkF m 11 #[rv a1, .unset] [.int 0]))
 refine c_ifYes X443 hx hby 31 d10_11 ((if0 _ _).trans (teq (rfl : (0 : Int32) = (0 : Int32))).1) (by decide) <| c_aloadN X443 hx hby d10_31 rfl rfl ?_
 obtain ⟨cq444, kq444, q444a, q444b, q444c⟩ := isOf hZ e443 P2
 obtain ⟨_, _, ⟨T444, L444, k444, n444⟩, -, X444, ⟨Lc444, hQ444, l444, y444, z444⟩, st444⟩ := X443.interfaceBack hx (xi := (⟨"java/util/Collection", "isEmpty", "()Z"⟩ : MethodName)) (y := (⟨"java/util/ArrayList", "isEmpty", "()Z"⟩ : MethodName)) hown (mvT hZ (gw hw 76 rfl)) (mvT hZ (gw hw 77 rfl)) (mvT hZ (gw hw 78 rfl)) (mvT hZ (gw hw 79 rfl)) (mvT hZ (gw hw 80 rfl)) (mvT hZ (gw hw 81 rfl)) (mvT hZ (gw hw 82 rfl)) (mvT hZ (gw hw 83 rfl)) (by decide) (backOf (W := 0) (rmIE2 hw a1 h0 n0 Z0 P3) hZ (gw hw 84 rfl) (gw hw 3 rfl) (by decide) (by decide)) q444a q444b q444c (g := (mkF m 32 #[rv a1, .unset] [.ref a1])) rfl (by rw [hml]; rfl) (Steps.refl _) (argsL := []) (rest := []) (lenOf pd_11 rfl) rfl (by show 2 * 0 + _ ≤ _; exact Nat.le_of_eq rfl) (hb hby d10_32) (fun _ _ => ⟨rfl, e443, (by decide : 0 + 0 ≤ _), (by decide : 0 + 0 ≤ _)⟩)
 dsimp only [Pt.U, Pt.locs, Pt.cells, Pt.slots] at X444 l444 y444 z444 st444 hQ444
 subst l444 y444 z444
 obtain ⟨rfl, N444q, e444⟩ := hQ444
 have N444 := Fr.app N0 N444q
 refine goT st444 ?_
 show Go _ p e below s _ _ _ (T444.setTop (mkF m 37 #[rv a1, .unset] [.int 0]))
 refine c_ifYes X444 hx hby 44 d10_37 ((if0 _ _).trans (teq (rfl : (0 : Int32) = (0 : Int32))).1) (by decide) <| c_aloadN X444 hx hby d10_44 rfl rfl ?_
 obtain ⟨cq445, kq445, q445a, q445b, q445c⟩ := isOf hZ e444 P2
 obtain ⟨_, _, ⟨T445, L445, k445, n445⟩, -, X445, ⟨Lc445, hQ445, l445, y445, z445⟩, st445⟩ := X444.interfaceBack hx (xi := (⟨"java/util/Collection", "toArray", "()[Ljava/lang/Object;"⟩ : MethodName)) (y := (⟨"java/util/ArrayList", "toArray", "()[Ljava/lang/Object;"⟩ : MethodName)) hown (mvT hZ (gw hw 156 rfl)) (mvT hZ (gw hw 157 rfl)) (mvT hZ (gw hw 158 rfl)) (mvT hZ (gw hw 159 rfl)) (mvT hZ (gw hw 160 rfl)) (mvT hZ (gw hw 161 rfl)) (mvT hZ (gw hw 162 rfl)) (mvT hZ (gw hw 83 rfl)) (by decide) (backOf (W := 0) (rmTA2 hw a1 d k v0 v1 mr h0 n0 Z0 P3 P4 P5 P6 P7 P8 hm) hZ (gw hw 163 rfl) (gw hw 3 rfl) (by decide) (by decide)) q445a q445b q445c (g := (mkF m 45 #[rv a1, .unset] [.ref a1])) rfl (by rw [hml]; rfl) (Steps.refl _) (argsL := []) (rest := []) (lenOf pd_7 rfl) rfl (by show 2 * 0 + _ ≤ _; exact Nat.le_of_eq rfl) (hb hby d10_45) (fun _ _ => ⟨rfl, e444, (by decide : 0 + 1 ≤ _), (by decide : 0 + 2 ≤ _)⟩)
 dsimp only [Pt.U, Pt.locs, Pt.cells, Pt.slots] at X445 l445 y445 z445 st445 hQ445
 subst l445 y445 z445
 obtain ⟨b445, k2445, rfl, N445q, u445_0, u445_1, K445, u445_3, u445_4, u445_5⟩ := hQ445
 have N445 := Fr.app N444 N445q
 have G_b445 := Nat.le_trans Z0 u445_0
 have KK445 : Keep h0 T445.heap [] := (Keep.refl h0 []).trans K445 all0
 have ZN445 : n0 ≤ T445.heap.size := Nat.le_trans Z0 K445.1
 have OL445 := P1.keep K445 all0
 refine goT st445 ?_
 show Go _ p e below s _ _ _ (T445.setTop (mkF m 50 #[rv a1, .unset] [.ref b445]))
 have cc447 := P7.keep K445
 have cc448 := P8.keep K445
 refine c_callS X445 hx hby hZ hown hml (gw hw 186 rfl) (gw hw 187 rfl) (gw hw 64 rfl) (gw hw 188 rfl) rfl (rmLO2 hw b445 k2445 v0 v1 em (T445.heap) n0 ZN445 P9 OL445 u445_4 cc447 cc448) pd_17 rfl d10_50 [] rfl 0 (by decide) rfl rfl fun o446 T446 L446 X446 hQ446 => ?_
 obtain ⟨b446, rfl, N446q, K446⟩ := hQ446
 have N446 := Fr.app N445 N446q
 have KK446 := KK445.trans K446 all0
 have ZN446 := Nat.le_trans ZN445 K446.1
 have OL446 := OL445.keep K446 all0
 refine c_sh 53 [.ref b446] rfl rfl ?_
 exact c_retA X446 hx hby hlk hret d10_53 rfl ⟨rfl, rfl⟩ (by decide) rfl ⟨b446, rfl, N446, KK446⟩
def QCO2 (Z : State) (a1 el d : Addr) (k : ClassId) (v0 v1 mr em : Addr) (h0 : Heap) (n0 : Nat) (v : Option Value) (h : Heap) (L : List Loc) : Prop := ∃ (b : Addr), v = some (.ref b) ∧ Fr n0 L ∧ Keep h0 h []
theorem rmCO2 {l : Launch} {Z : State} {a0 : Array Value} (hw : HW Z a0) (a1 el d : Addr) (k : ClassId) (v0 v1 mr em : Addr) (h0 : Heap) (n0 : Nat) (Z0 : n0 ≤ h0.size) (P0 : Sta Z Z.heap "java/util/ImmutableCollections" "EMPTY_LIST" "Ljava/util/ImmutableCollections$ListN;" (.ref el)) (P1 : Old Z n0 h0) (P2 : Exa Z h0 a1 "java/util/ArrayList") (P3 : Fld Z h0 a1 "java/util/ArrayList" "size" "I" (.int (2 : Int32))) (P4 : Fld Z h0 a1 "java/util/ArrayList" "elementData" "[Ljava/lang/Object;" (.ref d)) (P5 : Exa Z h0 d "[Ljava/lang/Object;") (P6 : Arv Z h0 d k (.object "java/lang/Object") (10 : Int32) [(.ref v0), (.ref v1), .null, .null, .null, .null, .null, .null, .null, .null] .null) (P7 : eS Z h0 v0) (P8 : eS Z h0 v1) (P9 : Sta Z Z.heap "java/util/ImmutableCollections" "EMPTY" "Ljava/lang/Object;" (.ref em)) (hm : own_Mir Z "[Ljava/lang/Object;" mr) : own_M l Z ⟨"java/util/List", "copyOf", "(Ljava/util/Collection;)Ljava/util/List;"⟩ jdk_40_method_48_code 1 (some (.object "java/util/List")) (rmk 7 2 4 93) #[.ref a1] h0 (QCO2 Z a1 el d k v0 v1 mr em h0 n0) := by
 refine own_body rfl (plainFor_of_name pn_9) ?_
 intro p e s m below meth c s₁ hx hby hml hown hnm hlk hret X0 e0 hZ
 have N0 := Fr.nil n0
 show Go _ p e below s _ _ _ (s₁.setTop (mkF m 0 #[rv a1] []))
 refine c_aloadN X0 hx hby d9_0 rfl rfl <| c_callS X0 hx hby hZ hown hml (gw hw 66 rfl) (gw hw 67 rfl) (gw hw 68 rfl) (gw hw 69 rfl) e0 (rmLC2 hw a1 el d k v0 v1 mr em h0 n0 Z0 P0 P1 P2 P3 P4 P5 P6 P7 P8 P9 hm) pd_13 rfl d9_1 [] rfl 0 (by decide) rfl rfl fun o450 T450 L450 X450 hQ450 => ?_
 obtain ⟨b450, rfl, N450q, K450⟩ := hQ450
 have N450 := Fr.app N0 N450q
 have KK450 := (Keep.refl h0 []).trans K450 all0
 have ZN450 := Nat.le_trans Z0 K450.1
 have OL450 := P1.keep K450 all0
 refine c_sh 4 [.ref b450] rfl rfl ?_
 exact c_retA X450 hx hby hlk hret d9_4 rfl ⟨rfl, rfl⟩ (by decide) rfl ⟨b450, rfl, N450, KK450⟩
def QMI3 (Z : State)  (h0 : Heap) (n0 : Nat) (v : Option Value) (h : Heap) (L : List Loc) : Prop := v = some (.int (3 : Int32)) ∧ Fr n0 L ∧ h = h0
theorem rmMI3 {l : Launch} {Z : State} {a0 : Array Value} (hw : HW Z a0)  (h0 : Heap) (n0 : Nat) (Z0 : n0 ≤ h0.size)  : own_M l Z ⟨"java/lang/Math", "min", "(II)I"⟩ jdk_29_method_69_code 2 (some .int) (rmk 0 0 0 0) #[.int 10, .int 3] h0 (QMI3 Z  h0 n0) := by
 refine own_body rfl (Jvm.Free.JP.mathPlain rfl (by decide +kernel)) ?_
 intro p e s m below meth c s₁ hx hby hml hown hnm hlk hret X0 e0 hZ
 have N0 := Fr.nil n0
 show Go _ p e below s _ _ _ (s₁.setTop (mkF m 0 #[iv 10, iv 3] []))
 refine c_iloadN X0 hx hby d25_0 rfl <| c_iloadN X0 hx hby d25_1 rfl <| c_icmpYes X0 hx hby 9 d25_2 (by decide) (by decide) <| c_iloadN X0 hx hby d25_9 rfl ?_
 refine c_retI X0 hx hby hlk hret d25_10 rfl (by simp) (by decide) e0 ⟨rfl, N0, rfl⟩
def QC33 (Z : State) (a1 mr : Addr) (k : ClassId) (v0 v1 v2 : Addr) (h0 : Heap) (n0 : Nat) (v : Option Value) (h : Heap) (L : List Loc) : Prop := ∃ (b : Addr), ∃ (k2 : ClassId), v = some (.ref b) ∧ Fr n0 L ∧ h0.size ≤ b ∧ n0 ≤ b ∧ Keep h0 h [] ∧ Exa Z h b "[Ljava/lang/Object;" ∧ Arv Z h b k2 (.object "java/lang/Object") (3 : Int32) [(.ref v0), (.ref v1), (.ref v2)] .null ∧ Ovr Z k2 "java/lang/Object"
theorem rmC33 {l : Launch} {Z : State} {a0 : Array Value} (hw : HW Z a0) (a1 mr : Addr) (k : ClassId) (v0 v1 v2 : Addr) (h0 : Heap) (n0 : Nat) (Z0 : n0 ≤ h0.size) (P0 : Exa Z h0 a1 "[Ljava/lang/Object;") (P1 : Arv Z h0 a1 k (.object "java/lang/Object") (10 : Int32) [(.ref v0), (.ref v1), (.ref v2), .null, .null, .null, .null, .null, .null, .null] .null) (P2 : eS Z h0 v0) (P3 : eS Z h0 v1) (P4 : eS Z h0 v2) (hm : own_Mir Z "[Ljava/lang/Object;" mr) : own_M l Z ⟨"java/util/Arrays", "copyOf", "([Ljava/lang/Object;ILjava/lang/Class;)[Ljava/lang/Object;"⟩ jdk_65_method_120_code 4 (some (.array (.object "java/lang/Object"))) (rmk 1 1 3 40) #[.ref a1, .int 3, .ref mr] h0 (QC33 Z a1 mr k v0 v1 v2 h0 n0) := by
 refine own_body rfl (plainFor_of_name pn_24) ?_
 intro p e s m below meth c s₁ hx hby hml hown hnm hlk hret X0 e0 hZ
 have N0 := Fr.nil n0
 show Go _ p e below s _ _ _ (s₁.setTop (mkF m 0 #[rv a1, iv 3, rv mr, .unset] []))
 refine c_aloadN X0 hx hby d24_0 rfl rfl ?_
 obtain ⟨T461, X461, e461, st461⟩ := own_ldcK X0 hx hZ hown (gw hw 177 rfl) hm e0 (g := (mkF m 1 #[rv a1, iv 3, rv mr, .unset] [.ref mr])) rfl (hb hby d24_1)
 refine go st461 ?_
 show Go _ p e below s _ _ _ (T461.setTop (mkF m 3 #[rv a1, iv 3, rv mr, .unset] [.ref mr, .ref mr]))
 refine go (fun _ => Jvm.RoadKit.acmp (g := (mkF m 3 #[rv a1, iv 3, rv mr, .unset] [.ref mr, .ref mr])) X461 hx rfl rfl rfl (pc0 := 3) (pc' := 6) (same := true) rfl (hb hby d24_3) rfl (decide_eq_true rfl) (by decide) (by decide)) ?_
 show Go _ p e below s _ _ _ (T461.setTop (mkF m 6 #[rv a1, iv 3, rv mr, .unset] []))
 refine c_iloadN X461 hx hby d24_6 rfl ?_
 obtain ⟨T462, h462, k462, X462, e462, E462, A462, AE462, O462, st462⟩ := newRE X461 hx hZ hown (gw hw 178 rfl) (gw hw 152 rfl) e461 (g := (mkF m 7 #[rv a1, iv 3, rv mr, .unset] [.int 3])) rfl (hb hby d24_7) rfl (by decide) (cap := 3) (by decide) (by decide) (by decide) (by decide) (ad := "[Ljava/lang/Object;") (by first | rfl | decide)
 obtain ⟨b462, g462⟩ : ∃ z, z = h0.size := ⟨_, rfl⟩
 rw [← g462] at A462 AE462 st462
 have G_b462 := Nat.le_trans Z0 (Nat.le_of_eq g462.symm)
 have KK462 := (Keep.refl h0 []).ext E462
 have ZN462 := Nat.le_trans Z0 E462.1
 have V462 : Arv Z h462 b462 k462 (.object "java/lang/Object") (3 : Int32) [.null, .null, .null] .null := (Arv.new A462 (by decide)).pad (pad_rep [] .null 3)
 refine go st462 ?_
 show Go _ p e below s _ _ _ (T462.setTop (mkF m 10 #[rv a1, iv 3, rv mr, .unset] [.ref b462]))
 refine c_goto X462 hx hby 24 d24_10 (by decide) <| c_astoreN X462 hx hby _ d24_24 rfl rfl <| c_aloadN X462 hx hby d24_25 rfl rfl <| c_iconst X462 hx hby 0 d24_26 rfl <| c_aloadN X462 hx hby d24_27 rfl rfl <| c_iconst X462 hx hby 0 d24_28 rfl <| c_aloadN X462 hx hby d24_29 rfl rfl <| c_shL #[rv a1, iv 3, rv mr, rv b462] rfl ?_
 have cc463 := P1.ext E462
 refine c_alen X462 hx hby hZ e462 cc463 d24_30 <| c_iloadN X462 hx hby d24_31 rfl <| c_callS X462 hx hby hZ hown hml (gw hw 179 rfl) (gw hw 180 rfl) (gw hw 149 rfl) (gw hw 181 rfl) e462 (rmMI3 hw  h462 n0 ZN462 ) pd_5 rfl d24_32 [.int 0, .ref b462, .int 0, .ref a1] rfl 4 (by decide) rfl rfl fun o464 T464 L464 X464 hQ464 => ?_
 obtain ⟨rfl, N464q, e464⟩ := hQ464
 have N464 := Fr.app N0 N464q
 refine c_sh 35 [.int 3, .int 0, .ref b462, .int 0, .ref a1] rfl rfl ?_
 obtain ⟨clb465, Arb465, qb465, -⟩ := id V462
 have cc466 := P4.ext E462
 have cc467 := P3.ext E462
 have cc468 := P2.ext E462
 obtain ⟨T465, h465, L465, X465, e465, N465, K465, A465, st465⟩ := cpA X464 hx hZ hown (gw hw 182 rfl) (gw hw 185 rfl) (gw hw 183 rfl) (gw hw 184 rfl) e464 cc463 V462 (us := [(.ref v0), (.ref v1), (.ref v2)]) (Or.inr ⟨rfl, rfl, ⟨Sto.ofV Arb465 qb465 O462 (Ins.of_exa cc468 (gw hw 153 rfl)), ⟨Sto.ofV Arb465 qb465 O462 (Ins.of_exa cc467 (gw hw 153 rfl)), ⟨Sto.ofV Arb465 qb465 O462 (Ins.of_exa cc466 (gw hw 153 rfl)), trivial⟩⟩⟩⟩) (by decide) (by decide) (by decide) (by decide) (by decide) rfl (by decide) N464 G_b462 (g := (mkF m 35 #[rv a1, iv 3, rv mr, rv b462] [.int 3, .int 0, .ref b462, .int 0, .ref a1])) rfl (by rw [hml]; rfl) rfl (hb hby d24_35) (by decide) (W := 0) (by show 2 * 0 + _ ≤ _; exact Nat.le_of_eq rfl) (by decide)
 have V465 : Arv Z h465 b462 k462 (.object "java/lang/Object") (3 : Int32) [(.ref v0), (.ref v1), (.ref v2)] .null := A465
 have ne469 : a1 ≠ b462 := (Nat.ne_of_lt (Nat.lt_of_lt_of_le P0.lt (Nat.le_of_eq g462.symm)))
 have KK465 := KK462.trans K465 (allS (P := fun x => x ∈ [] ∨ h0.size ≤ x) (Or.inr (Nat.le_trans (Keep.refl h0 []).1 (Nat.le_of_eq g462.symm))) all0)
 have ZN465 := Nat.le_trans ZN462 K465.1
 refine go st465 ?_
 show Go _ p e below s _ _ _ (T465.setTop (mkF m 38 #[rv a1, iv 3, rv mr, rv b462] []))
 refine c_aloadN X465 hx hby d24_38 rfl rfl ?_
 have cc470 := AE462.keep K465
 exact c_retA X465 hx hby hlk hret d24_39 rfl ⟨rfl, rfl⟩ (by decide) e465 ⟨b462, k462, rfl, N465, (Nat.le_trans (Keep.refl h0 []).1 (Nat.le_of_eq g462.symm)), G_b462, KK465, cc470, V465, O462⟩
def QC23 (Z : State) (a1 : Addr) (k : ClassId) (v0 v1 v2 mr : Addr) (h0 : Heap) (n0 : Nat) (v : Option Value) (h : Heap) (L : List Loc) : Prop := ∃ (b : Addr), ∃ (k2 : ClassId), v = some (.ref b) ∧ Fr n0 L ∧ h0.size ≤ b ∧ n0 ≤ b ∧ Keep h0 h [] ∧ Exa Z h b "[Ljava/lang/Object;" ∧ Arv Z h b k2 (.object "java/lang/Object") (3 : Int32) [(.ref v0), (.ref v1), (.ref v2)] .null ∧ Ovr Z k2 "java/lang/Object"
theorem rmC23 {l : Launch} {Z : State} {a0 : Array Value} (hw : HW Z a0) (a1 : Addr) (k : ClassId) (v0 v1 v2 mr : Addr) (h0 : Heap) (n0 : Nat) (Z0 : n0 ≤ h0.size) (P0 : Exa Z h0 a1 "[Ljava/lang/Object;") (P1 : Arv Z h0 a1 k (.object "java/lang/Object") (10 : Int32) [(.ref v0), (.ref v1), (.ref v2), .null, .null, .null, .null, .null, .null, .null] .null) (P2 : eS Z h0 v0) (P3 : eS Z h0 v1) (P4 : eS Z h0 v2) (hm : own_Mir Z "[Ljava/lang/Object;" mr) : own_M l Z ⟨"java/util/Arrays", "copyOf", "([Ljava/lang/Object;I)[Ljava/lang/Object;"⟩ jdk_65_method_119_code 2 (some (.array (.object "java/lang/Object"))) (rmk 2 1 3 55) #[.ref a1, .int 3] h0 (QC23 Z a1 k v0 v1 v2 mr h0 n0) := by
 refine own_body rfl (plainFor_of_name pn_23) ?_
 intro p e s m below meth c s₁ hx hby hml hown hnm hlk hret X0 e0 hZ
 have N0 := Fr.nil n0
 show Go _ p e below s _ _ _ (s₁.setTop (mkF m 0 #[rv a1, iv 3] []))
 refine c_aloadN X0 hx hby d23_0 rfl rfl <| c_iloadN X0 hx hby d23_1 rfl <| c_aloadN X0 hx hby d23_2 rfl rfl ?_
 obtain ⟨T473, X473, e473, st473⟩ := own_gcls X0 hx hZ hown (gw hw 168 rfl) (gw hw 169 rfl) (gw hw 74 rfl) (gw hw 171 rfl) (gw hw 170 rfl) (gw hw 172 rfl) e0 P0 hm (g := (mkF m 3 #[rv a1, iv 3] [.ref a1, .int 3, .ref a1])) rfl (by rw [hml]; rfl) rfl (hb hby d23_3) (by decide) (W := 2) (by show 2 * 0 + _ ≤ _; exact Nat.le_of_eq rfl) (by decide)
 refine go st473 ?_
 show Go _ p e below s _ _ _ (T473.setTop (mkF m 6 #[rv a1, iv 3] [.ref mr, .int 3, .ref a1]))
 refine c_callS X473 hx hby hZ hown hml (gw hw 174 rfl) (gw hw 175 rfl) (gw hw 166 rfl) (gw hw 176 rfl) e473 (rmC33 hw a1 mr k v0 v1 v2 h0 n0 Z0 P0 P1 P2 P3 P4 hm) pd_14 rfl d23_6 [] rfl 0 (by decide) rfl rfl fun o474 T474 L474 X474 hQ474 => ?_
 obtain ⟨b474, k2474, rfl, N474q, u474_0, u474_1, K474, u474_3, u474_4, u474_5⟩ := hQ474
 have N474 := Fr.app N0 N474q
 have G_b474 := Nat.le_trans Z0 u474_0
 have KK474 := (Keep.refl h0 []).trans K474 all0
 have ZN474 := Nat.le_trans Z0 K474.1
 refine c_sh 9 [.ref b474] rfl rfl ?_
 exact c_retA X474 hx hby hlk hret d23_9 rfl ⟨rfl, rfl⟩ (by decide) rfl ⟨b474, k2474, rfl, N474, (Nat.le_trans (Keep.refl h0 []).1 u474_0), u474_1, KK474, u474_3, u474_4, u474_5⟩
def QTA3 (Z : State) (a1 d : Addr) (k : ClassId) (v0 v1 v2 mr : Addr) (h0 : Heap) (n0 : Nat) (v : Option Value) (h : Heap) (L : List Loc) : Prop := ∃ (b : Addr), ∃ (k2 : ClassId), v = some (.ref b) ∧ Fr n0 L ∧ h0.size ≤ b ∧ n0 ≤ b ∧ Keep h0 h [] ∧ Exa Z h b "[Ljava/lang/Object;" ∧ Arv Z h b k2 (.object "java/lang/Object") (3 : Int32) [(.ref v0), (.ref v1), (.ref v2)] .null ∧ Ovr Z k2 "java/lang/Object"
theorem rmTA3 {l : Launch} {Z : State} {a0 : Array Value} (hw : HW Z a0) (a1 d : Addr) (k : ClassId) (v0 v1 v2 mr : Addr) (h0 : Heap) (n0 : Nat) (Z0 : n0 ≤ h0.size) (P0 : Fld Z h0 a1 "java/util/ArrayList" "size" "I" (.int (3 : Int32))) (P1 : Fld Z h0 a1 "java/util/ArrayList" "elementData" "[Ljava/lang/Object;" (.ref d)) (P2 : Exa Z h0 d "[Ljava/lang/Object;") (P3 : Arv Z h0 d k (.object "java/lang/Object") (10 : Int32) [(.ref v0), (.ref v1), (.ref v2), .null, .null, .null, .null, .null, .null, .null] .null) (P4 : eS Z h0 v0) (P5 : eS Z h0 v1) (P6 : eS Z h0 v2) (hm : own_Mir Z "[Ljava/lang/Object;" mr) : own_M l Z ⟨"java/util/ArrayList", "toArray", "()[Ljava/lang/Object;"⟩ jdk_38_method_16_code 1 (some (.array (.object "java/lang/Object"))) (rmk 3 1 3 68) #[.ref a1] h0 (QTA3 Z a1 d k v0 v1 v2 mr h0 n0) := by
 refine own_body rfl (plainFor_of_name pn_22) ?_
 intro p e s m below meth c s₁ hx hby hml hown hnm hlk hret X0 e0 hZ
 have N0 := Fr.nil n0
 show Go _ p e below s _ _ _ (s₁.setTop (mkF m 0 #[rv a1] []))
 refine c_aloadN X0 hx hby d22_0 rfl rfl <| c_getf X0 hx hby hZ hown (gw hw 25 rfl) Via.refl e0 P1 d22_1 fun T478 X478 e478 => ?_
 refine c_sh 4 [.ref d] rfl rfl <| c_aloadN X478 hx hby d22_4 rfl rfl <| c_getf X478 hx hby hZ hown (gw hw 85 rfl) Via.refl e478 P0 d22_5 fun T479 X479 e479 => ?_
 refine c_sh 8 [.int 3, .ref d] rfl rfl <| c_callS X479 hx hby hZ hown hml (gw hw 164 rfl) (gw hw 165 rfl) (gw hw 166 rfl) (gw hw 167 rfl) e479 (rmC23 hw d k v0 v1 v2 mr h0 n0 Z0 P2 P3 P4 P5 P6 hm) pd_15 rfl d22_8 [] rfl 0 (by decide) rfl rfl fun o480 T480 L480 X480 hQ480 => ?_
 obtain ⟨b480, k2480, rfl, N480q, u480_0, u480_1, K480, u480_3, u480_4, u480_5⟩ := hQ480
 have N480 := Fr.app N0 N480q
 have G_b480 := Nat.le_trans Z0 u480_0
 have KK480 := (Keep.refl h0 []).trans K480 all0
 have ZN480 := Nat.le_trans Z0 K480.1
 refine c_sh 11 [.ref b480] rfl rfl ?_
 exact c_retA X480 hx hby hlk hret d22_11 rfl ⟨rfl, rfl⟩ (by decide) rfl ⟨b480, k2480, rfl, N480, (Nat.le_trans (Keep.refl h0 []).1 u480_0), u480_1, KK480, u480_3, u480_4, u480_5⟩
theorem d26_59 : decode jdk_40_method_47_code 59 = .ok (.aload_n 0, 1) := by decide +kernel
theorem d26_60 : decode jdk_40_method_47_code 60 = .ok (.invokestatic 109, 3) := by decide +kernel
theorem d26_63 : decode jdk_40_method_47_code 63 = .ok (.areturn, 1) := by decide +kernel
def QLO3 (Z : State) (a1 : Addr) (k : ClassId) (v0 v1 v2 em : Addr) (h0 : Heap) (n0 : Nat) (v : Option Value) (h : Heap) (L : List Loc) : Prop := ∃ (b : Addr), v = some (.ref b) ∧ Fr n0 L ∧ Keep h0 h []
theorem rmLO3 {l : Launch} {Z : State} {a0 : Array Value} (hw : HW Z a0) (a1 : Addr) (k : ClassId) (v0 v1 v2 em : Addr) (h0 : Heap) (n0 : Nat) (Z0 : n0 ≤ h0.size) (P0 : Sta Z Z.heap "java/util/ImmutableCollections" "EMPTY" "Ljava/lang/Object;" (.ref em)) (P1 : Old Z n0 h0) (P2 : Arv Z h0 a1 k (.object "java/lang/Object") (3 : Int32) [(.ref v0), (.ref v1), (.ref v2)] .null) (P3 : eS Z h0 v0) (P4 : eS Z h0 v1) (P5 : eS Z h0 v2) : own_M l Z ⟨"java/util/List", "of", "([Ljava/lang/Object;)Ljava/util/List;"⟩ jdk_40_method_47_code 2 (some (.object "java/util/List")) (rmk 6 2 5 77) #[.ref a1] h0 (QLO3 Z a1 k v0 v1 v2 em h0 n0) := by
 refine own_body rfl (plainFor_of_name pn_26) ?_
 intro p e s m below meth c s₁ hx hby hml hown hnm hlk hret X0 e0 hZ
 have N0 := Fr.nil n0
 show Go _ p e below s _ _ _ (s₁.setTop (mkF m 0 #[rv a1, .unset] []))
 refine c_aloadN X0 hx hby d26_0 rfl rfl <| c_alen X0 hx hby hZ e0 P2 d26_1 ?_
 refine go (fun _ => XS.tswOut (i := (3 : Int32)) (rest := []) (pc0 := 2) (pc' := 59) (g := (mkF m 2 #[rv a1, .unset] [.int 3])) X0.here hx rfl rfl (hb hby d26_2) rfl (by decide) (by decide) (by decide)) ?_
 show Go _ p e below s _ _ _ (s₁.setTop (mkF m 59 #[rv a1, .unset] []))
 refine c_aloadN X0 hx hby d26_59 rfl rfl <| c_callS X0 hx hby hZ hown hml (gw hw 189 rfl) (gw hw 190 rfl) (gw hw 68 rfl) (gw hw 191 rfl) e0 (rm27 hw a1 k v0 v1 v2 h0 n0 Z0 P2 P3 P4 P5) pd_17 rfl d26_60 [] rfl 0 (by decide) rfl rfl fun o482 T482 L482 X482 hQ482 => ?_
 obtain ⟨b482, rfl, N482q, K482⟩ := hQ482
 have N482 := Fr.app N0 N482q
 have KK482 := (Keep.refl h0 []).trans K482 all0
 have ZN482 := Nat.le_trans Z0 K482.1
 have OL482 := P1.keep K482 all0
 refine c_sh 63 [.ref b482] rfl rfl ?_
 exact c_retA X482 hx hby hlk hret d26_63 rfl ⟨rfl, rfl⟩ (by decide) rfl ⟨b482, rfl, N482, KK482⟩
def QLC3 (Z : State) (a1 el d : Addr) (k : ClassId) (v0 v1 v2 mr em : Addr) (h0 : Heap) (n0 : Nat) (v : Option Value) (h : Heap) (L : List Loc) : Prop := ∃ (b : Addr), v = some (.ref b) ∧ Fr n0 L ∧ Keep h0 h []
theorem rmLC3 {l : Launch} {Z : State} {a0 : Array Value} (hw : HW Z a0) (a1 el d : Addr) (k : ClassId) (v0 v1 v2 mr em : Addr) (h0 : Heap) (n0 : Nat) (Z0 : n0 ≤ h0.size) (P0 : Sta Z Z.heap "java/util/ImmutableCollections" "EMPTY_LIST" "Ljava/util/ImmutableCollections$ListN;" (.ref el)) (P1 : Old Z n0 h0) (P2 : Exa Z h0 a1 "java/util/ArrayList") (P3 : Fld Z h0 a1 "java/util/ArrayList" "size" "I" (.int (3 : Int32))) (P4 : Fld Z h0 a1 "java/util/ArrayList" "elementData" "[Ljava/lang/Object;" (.ref d)) (P5 : Exa Z h0 d "[Ljava/lang/Object;") (P6 : Arv Z h0 d k (.object "java/lang/Object") (10 : Int32) [(.ref v0), (.ref v1), (.ref v2), .null, .null, .null, .null, .null, .null, .null] .null) (P7 : eS Z h0 v0) (P8 : eS Z h0 v1) (P9 : eS Z h0 v2) (P10 : Sta Z Z.heap "java/util/ImmutableCollections" "EMPTY" "Ljava/lang/Object;" (.ref em)) (hm : own_Mir Z "[Ljava/lang/Object;" mr) : own_M l Z ⟨"java/util/ImmutableCollections", "listCopy", "(Ljava/util/Collection;)Ljava/util/List;"⟩ jdk_56_method_3_code 2 (some (.object "java/util/List")) (rmk 7 3 8 90) #[.ref a1] h0 (QLC3 Z a1 el d k v0 v1 v2 mr em h0 n0) := by
 refine own_body rfl (plainFor_of_name pn_10) ?_
 intro p e s m below meth c s₁ hx hby hml hown hnm hlk hret X0 e0 hZ
 have N0 := Fr.nil n0
 show Go _ p e below s _ _ _ (s₁.setTop (mkF m 0 #[rv a1, .unset] []))
 refine c_aloadN X0 hx hby d10_0 rfl rfl ?_
 obtain ⟨T491, X491, e491, st491⟩ := instNo X0 hx hZ hown (gw hw 70 rfl) e0 P2 (own_no (gw hw 71 rfl) (gw hw 235 rfl) (NS.step (gw hw 71 rfl) (NS.step (gw hw 72 rfl) (NS.step (gw hw 73 rfl) (own_nsroot (gw hw 74 rfl) (gw hw 235 rfl) (by decide)) (by decide)) (by decide)) (by decide)) (by decide)) (g := (mkF m 1 #[rv a1, .unset] [.ref a1])) rfl rfl (hb hby d10_1)
 refine go st491 ?_
 show Go _ p e below s _ _ _ (T491.setTop (mkF m 4 #[rv a1, .unset] [.int 0]))
 refine c_ifNo X491 hx hby d10_4 ((if0 _ _).trans (teq (rfl : (0 : Int32) = (0 : Int32))).2) <| c_aloadN X491 hx hby d10_7 rfl rfl ?_
 obtain ⟨T492, X492, e492, st492⟩ := instNo X491 hx hZ hown (gw hw 75 rfl) e491 P2 (own_no (gw hw 71 rfl) (gw hw 197 rfl) (NS.step (gw hw 71 rfl) (NS.step (gw hw 72 rfl) (NS.step (gw hw 73 rfl) (own_nsroot (gw hw 74 rfl) (gw hw 197 rfl) (by decide)) (by decide)) (by decide)) (by decide)) (by decide)) (g := (mkF m 8 #[rv a1, .unset] [.ref a1])) rfl rfl (hb hby d10_8)
 refine go st492 ?_
 show Go _ p e below s _ _ _ (T492.setTop (mkF m 11 #[rv a1, .unset] [.int 0]))
 refine c_ifYes X492 hx hby 31 d10_11 ((if0 _ _).trans (teq (rfl : (0 : Int32) = (0 : Int32))).1) (by decide) <| c_aloadN X492 hx hby d10_31 rfl rfl ?_
 obtain ⟨cq493, kq493, q493a, q493b, q493c⟩ := isOf hZ e492 P2
 obtain ⟨_, _, ⟨T493, L493, k493, n493⟩, -, X493, ⟨Lc493, hQ493, l493, y493, z493⟩, st493⟩ := X492.interfaceBack hx (xi := (⟨"java/util/Collection", "isEmpty", "()Z"⟩ : MethodName)) (y := (⟨"java/util/ArrayList", "isEmpty", "()Z"⟩ : MethodName)) hown (mvT hZ (gw hw 76 rfl)) (mvT hZ (gw hw 77 rfl)) (mvT hZ (gw hw 78 rfl)) (mvT hZ (gw hw 79 rfl)) (mvT hZ (gw hw 80 rfl)) (mvT hZ (gw hw 81 rfl)) (mvT hZ (gw hw 82 rfl)) (mvT hZ (gw hw 83 rfl)) (by decide) (backOf (W := 0) (rmIE3 hw a1 h0 n0 Z0 P3) hZ (gw hw 84 rfl) (gw hw 3 rfl) (by decide) (by decide)) q493a q493b q493c (g := (mkF m 32 #[rv a1, .unset] [.ref a1])) rfl (by rw [hml]; rfl) (Steps.refl _) (argsL := []) (rest := []) (lenOf pd_11 rfl) rfl (by show 2 * 0 + _ ≤ _; exact Nat.le_of_eq rfl) (hb hby d10_32) (fun _ _ => ⟨rfl, e492, (by decide : 0 + 0 ≤ _), (by decide : 0 + 0 ≤ _)⟩)
 dsimp only [Pt.U, Pt.locs, Pt.cells, Pt.slots] at X493 l493 y493 z493 st493 hQ493
 subst l493 y493 z493
 obtain ⟨rfl, N493q, e493⟩ := hQ493
 have N493 := Fr.app N0 N493q
 refine goT st493 ?_
 show Go _ p e below s _ _ _ (T493.setTop (mkF m 37 #[rv a1, .unset] [.int 0]))
 refine c_ifYes X493 hx hby 44 d10_37 ((if0 _ _).trans (teq (rfl : (0 : Int32) = (0 : Int32))).1) (by decide) <| c_aloadN X493 hx hby d10_44 rfl rfl ?_
 obtain ⟨cq494, kq494, q494a, q494b, q494c⟩ := isOf hZ e493 P2
 obtain ⟨_, _, ⟨T494, L494, k494, n494⟩, -, X494, ⟨Lc494, hQ494, l494, y494, z494⟩, st494⟩ := X493.interfaceBack hx (xi := (⟨"java/util/Collection", "toArray", "()[Ljava/lang/Object;"⟩ : MethodName)) (y := (⟨"java/util/ArrayList", "toArray", "()[Ljava/lang/Object;"⟩ : MethodName)) hown (mvT hZ (gw hw 156 rfl)) (mvT hZ (gw hw 157 rfl)) (mvT hZ (gw hw 158 rfl)) (mvT hZ (gw hw 159 rfl)) (mvT hZ (gw hw 160 rfl)) (mvT hZ (gw hw 161 rfl)) (mvT hZ (gw hw 162 rfl)) (mvT hZ (gw hw 83 rfl)) (by decide) (backOf (W := 0) (rmTA3 hw a1 d k v0 v1 v2 mr h0 n0 Z0 P3 P4 P5 P6 P7 P8 P9 hm) hZ (gw hw 163 rfl) (gw hw 3 rfl) (by decide) (by decide)) q494a q494b q494c (g := (mkF m 45 #[rv a1, .unset] [.ref a1])) rfl (by rw [hml]; rfl) (Steps.refl _) (argsL := []) (rest := []) (lenOf pd_7 rfl) rfl (by show 2 * 0 + _ ≤ _; exact Nat.le_of_eq rfl) (hb hby d10_45) (fun _ _ => ⟨rfl, e493, (by decide : 0 + 1 ≤ _), (by decide : 0 + 3 ≤ _)⟩)
 dsimp only [Pt.U, Pt.locs, Pt.cells, Pt.slots] at X494 l494 y494 z494 st494 hQ494
 subst l494 y494 z494
 obtain ⟨b494, k2494, rfl, N494q, u494_0, u494_1, K494, u494_3, u494_4, u494_5⟩ := hQ494
 have N494 := Fr.app N493 N494q
 have G_b494 := Nat.le_trans Z0 u494_0
 have KK494 : Keep h0 T494.heap [] := (Keep.refl h0 []).trans K494 all0
 have ZN494 : n0 ≤ T494.heap.size := Nat.le_trans Z0 K494.1
 have OL494 := P1.keep K494 all0
 refine goT st494 ?_
 show Go _ p e below s _ _ _ (T494.setTop (mkF m 50 #[rv a1, .unset] [.ref b494]))
 have cc496 := P7.keep K494
 have cc497 := P8.keep K494
 have cc498 := P9.keep K494
 refine c_callS X494 hx hby hZ hown hml (gw hw 186 rfl) (gw hw 187 rfl) (gw hw 64 rfl) (gw hw 188 rfl) rfl (rmLO3 hw b494 k2494 v0 v1 v2 em (T494.heap) n0 ZN494 P10 OL494 u494_4 cc496 cc497 cc498) pd_17 rfl d10_50 [] rfl 0 (by decide) rfl rfl fun o495 T495 L495 X495 hQ495 => ?_
 obtain ⟨b495, rfl, N495q, K495⟩ := hQ495
 have N495 := Fr.app N494 N495q
 have KK495 := KK494.trans K495 all0
 have ZN495 := Nat.le_trans ZN494 K495.1
 have OL495 := OL494.keep K495 all0
 refine c_sh 53 [.ref b495] rfl rfl ?_
 exact c_retA X495 hx hby hlk hret d10_53 rfl ⟨rfl, rfl⟩ (by decide) rfl ⟨b495, rfl, N495, KK495⟩
def QCO3 (Z : State) (a1 el d : Addr) (k : ClassId) (v0 v1 v2 mr em : Addr) (h0 : Heap) (n0 : Nat) (v : Option Value) (h : Heap) (L : List Loc) : Prop := ∃ (b : Addr), v = some (.ref b) ∧ Fr n0 L ∧ Keep h0 h []
theorem rmCO3 {l : Launch} {Z : State} {a0 : Array Value} (hw : HW Z a0) (a1 el d : Addr) (k : ClassId) (v0 v1 v2 mr em : Addr) (h0 : Heap) (n0 : Nat) (Z0 : n0 ≤ h0.size) (P0 : Sta Z Z.heap "java/util/ImmutableCollections" "EMPTY_LIST" "Ljava/util/ImmutableCollections$ListN;" (.ref el)) (P1 : Old Z n0 h0) (P2 : Exa Z h0 a1 "java/util/ArrayList") (P3 : Fld Z h0 a1 "java/util/ArrayList" "size" "I" (.int (3 : Int32))) (P4 : Fld Z h0 a1 "java/util/ArrayList" "elementData" "[Ljava/lang/Object;" (.ref d)) (P5 : Exa Z h0 d "[Ljava/lang/Object;") (P6 : Arv Z h0 d k (.object "java/lang/Object") (10 : Int32) [(.ref v0), (.ref v1), (.ref v2), .null, .null, .null, .null, .null, .null, .null] .null) (P7 : eS Z h0 v0) (P8 : eS Z h0 v1) (P9 : eS Z h0 v2) (P10 : Sta Z Z.heap "java/util/ImmutableCollections" "EMPTY" "Ljava/lang/Object;" (.ref em)) (hm : own_Mir Z "[Ljava/lang/Object;" mr) : own_M l Z ⟨"java/util/List", "copyOf", "(Ljava/util/Collection;)Ljava/util/List;"⟩ jdk_40_method_48_code 1 (some (.object "java/util/List")) (rmk 8 3 8 103) #[.ref a1] h0 (QCO3 Z a1 el d k v0 v1 v2 mr em h0 n0) := by
 refine own_body rfl (plainFor_of_name pn_9) ?_
 intro p e s m below meth c s₁ hx hby hml hown hnm hlk hret X0 e0 hZ
 have N0 := Fr.nil n0
 show Go _ p e below s _ _ _ (s₁.setTop (mkF m 0 #[rv a1] []))
 refine c_aloadN X0 hx hby d9_0 rfl rfl <| c_callS X0 hx hby hZ hown hml (gw hw 66 rfl) (gw hw 67 rfl) (gw hw 68 rfl) (gw hw 69 rfl) e0 (rmLC3 hw a1 el d k v0 v1 v2 mr em h0 n0 Z0 P0 P1 P2 P3 P4 P5 P6 P7 P8 P9 P10 hm) pd_13 rfl d9_1 [] rfl 0 (by decide) rfl rfl fun o500 T500 L500 X500 hQ500 => ?_
 obtain ⟨b500, rfl, N500q, K500⟩ := hQ500
 have N500 := Fr.app N0 N500q
 have KK500 := (Keep.refl h0 []).trans K500 all0
 have ZN500 := Nat.le_trans Z0 K500.1
 have OL500 := P1.keep K500 all0
 refine c_sh 4 [.ref b500] rfl rfl ?_
 exact c_retA X500 hx hby hlk hret d9_4 rfl ⟨rfl, rfl⟩ (by decide) rfl ⟨b500, rfl, N500, KK500⟩
theorem d8_0 : decode prog_37_method_1_code 0 = .ok (.aload_n 0, 1) := by decide +kernel
theorem d8_1 : decode prog_37_method_1_code 1 = .ok (.invokespecial 1, 3) := by decide +kernel
theorem d8_4 : decode prog_37_method_1_code 4 = .ok (.aload_n 0, 1) := by decide +kernel
theorem d8_5 : decode prog_37_method_1_code 5 = .ok (.aload_n 1, 1) := by decide +kernel
theorem d8_6 : decode prog_37_method_1_code 6 = .ok (.putfield 7, 3) := by decide +kernel
theorem d8_9 : decode prog_37_method_1_code 9 = .ok (.aload_n 0, 1) := by decide +kernel
theorem d8_10 : decode prog_37_method_1_code 10 = .ok (.aload_n 2, 1) := by decide +kernel
theorem d8_11 : decode prog_37_method_1_code 11 = .ok (.invokestatic 13, 3) := by decide +kernel
theorem d8_14 : decode prog_37_method_1_code 14 = .ok (.putfield 19, 3) := by decide +kernel
theorem d8_17 : decode prog_37_method_1_code 17 = .ok (.aload_n 0, 1) := by decide +kernel
theorem d8_18 : decode prog_37_method_1_code 18 = .ok (.aload_n 3, 1) := by decide +kernel
theorem d8_19 : decode prog_37_method_1_code 19 = .ok (.invokevirtual 23, 3) := by decide +kernel
theorem d8_22 : decode prog_37_method_1_code 22 = .ok (.checkcast 24, 3) := by decide +kernel
theorem d8_25 : decode prog_37_method_1_code 25 = .ok (.putfield 29, 3) := by decide +kernel
theorem d8_28 : decode prog_37_method_1_code 28 = .ok (.aload_n 0, 1) := by decide +kernel
theorem d8_29 : decode prog_37_method_1_code 29 = .ok (.iload 4, 2) := by decide +kernel
theorem d8_31 : decode prog_37_method_1_code 31 = .ok (.putfield 32, 3) := by decide +kernel
theorem d8_34 : decode prog_37_method_1_code 34 = .ok (.aload_n 0, 1) := by decide +kernel
theorem d8_35 : decode prog_37_method_1_code 35 = .ok (.aload 5, 2) := by decide +kernel
theorem d8_37 : decode prog_37_method_1_code 37 = .ok (.invokestatic 13, 3) := by decide +kernel
theorem d8_40 : decode prog_37_method_1_code 40 = .ok (.putfield 36, 3) := by decide +kernel
theorem d8_43 : decode prog_37_method_1_code 43 = .ok (.return_, 1) := by decide +kernel
theorem pn_8 : plainName "com/example/raccordo/raccordo/flow/XmlElement" = true := by first | (simp [plainName, overriddenIn]; done) | decide +kernel
def QXI0 (Z : State) (a1 a2 a3 a4 a6 : Addr) (u1 u2 u3 u4 u5 : Value) (el : Addr) (k4 : ClassId) (h0 : Heap) (n0 : Nat) (v : Option Value) (h : Heap) (L : List Loc) : Prop := ∃ (b : Addr), v = none ∧ Fr n0 L ∧ h0.size ≤ b ∧ n0 ≤ b ∧ Keep h0 h [a1] ∧ Fld Z h a1 "com/example/raccordo/raccordo/flow/XmlElement" "attributeIndexes" "[I" (.ref b) ∧ Arv Z h b k4 .int (0 : Int32) [] (.int (0 : Int32))
theorem rmXI0 {l : Launch} {Z : State} {a0 : Array Value} (hw : HW Z a0) (a1 a2 a3 a4 a6 : Addr) (u1 u2 u3 u4 u5 : Value) (el : Addr) (k4 : ClassId) (h0 : Heap) (n0 : Nat) (Z0 : n0 ≤ h0.size) (P0 : Sta Z Z.heap "java/util/ImmutableCollections" "EMPTY_LIST" "Ljava/util/ImmutableCollections$ListN;" (.ref el)) (P1 : Old Z n0 h0) (P2 : Exa Z h0 a1 "com/example/raccordo/raccordo/flow/XmlElement") (P3 : n0 ≤ a1) (P4 : Fld Z h0 a1 "com/example/raccordo/raccordo/flow/XmlElement" "name" "Ljava/lang/String;" u1) (P5 : Fld Z h0 a1 "com/example/raccordo/raccordo/flow/XmlElement" "attributes" "Ljava/util/List;" u2) (P6 : Fld Z h0 a1 "com/example/raccordo/raccordo/flow/XmlElement" "attributeIndexes" "[I" u3) (P7 : Fld Z h0 a1 "com/example/raccordo/raccordo/flow/XmlElement" "textIndex" "I" u4) (P8 : Fld Z h0 a1 "com/example/raccordo/raccordo/flow/XmlElement" "children" "Ljava/util/List;" u5) (P9 : Exa Z h0 a3 "java/util/ArrayList") (P10 : Fld Z h0 a3 "java/util/ArrayList" "size" "I" (.int (0 : Int32))) (P11 : Exa Z h0 a6 "java/util/ArrayList") (P12 : Fld Z h0 a6 "java/util/ArrayList" "size" "I" (.int (0 : Int32))) (P13 : Exa Z h0 a4 "[I") (P14 : Arv Z h0 a4 k4 .int (0 : Int32) [] (.int (0 : Int32))) (P15 : a1 ≠ a3) (P16 : a1 ≠ a4) (P17 : a1 ≠ a6) : own_M l Z ⟨"com/example/raccordo/raccordo/flow/XmlElement", "<init>", "(Ljava/lang/String;Ljava/util/List;[IILjava/util/List;)V"⟩ prog_37_method_1_code 6 none (rmk 3 1 0 38) #[.ref a1, .ref a2, .ref a3, .ref a4, .int (-1), .ref a6] h0 (QXI0 Z a1 a2 a3 a4 a6 u1 u2 u3 u4 u5 el k4 h0 n0) := by
 refine own_body rfl (plainFor_of_name pn_8) ?_
 intro p e s m below meth c s₁ hx hby hml hown hnm hlk hret X0 e0 hZ
 have N0 := Fr.nil n0
 show Go _ p e below s _ _ _ (s₁.setTop (mkF m 0 #[rv a1, rv a2, rv a3, rv a4, iv (-1), rv a6] []))
 refine c_aloadN X0 hx hby d8_0 rfl rfl ?_
 obtain ⟨T528, X528, e528, st528⟩ := initO X0 hx hZ hown (gw hw 59 rfl) (gw hw 20 rfl) (gw hw 21 rfl) e0 (g := (mkF m 1 #[rv a1, rv a2, rv a3, rv a4, iv (-1), rv a6] [.ref a1])) rfl (by rw [hml]; rfl) rfl (hb hby d8_1) (by decide) (W := 0) (by show 2 * 0 + _ ≤ _; exact Nat.le_of_eq rfl) (by decide)
 refine go st528 ?_
 show Go _ p e below s _ _ _ (T528.setTop (mkF m 4 #[rv a1, rv a2, rv a3, rv a4, iv (-1), rv a6] []))
 refine c_aloadN X528 hx hby d8_4 rfl rfl <| c_aloadN X528 hx hby d8_5 rfl rfl <| c_putf X528 hx hby hZ hown (gw hw 60 rfl) Via.refl e528 P4 P2 (Or.inr ⟨(gw hw 61 rfl), rfl, hnm⟩) (gw hw 53 rfl) (.object "java/lang/String") (by decide) rfl rfl d8_6 fun T529 h529 X529 e529 W529 => ?_
 have Fw529 := P4.same W529
 have KK529 := (Keep.refl h0 [a1]).wr W529 (Or.inl (List.mem_of_getElem? (i := 0) rfl))
 have ZN529 := Nat.le_trans Z0 (Keep.of_wr W529).1
 have NN529 := Fr.snoc X529 N0 P3
 have OL529 := P1.wr W529 P3
 refine c_sh 9 [] rfl rfl <| c_aloadN X529 hx hby d8_9 rfl rfl <| c_aloadN X529 hx hby d8_10 rfl rfl ?_
 have cc531 := P9.wr W529
 have cc532 := P10.other W529 (Or.inl (Ne.symm P15))
 refine c_callS X529 hx hby hZ hown hml (gw hw 62 rfl) (gw hw 63 rfl) (gw hw 64 rfl) (gw hw 65 rfl) e529 (rmCO0 hw a3 el h529 n0 ZN529 P0 OL529 cc531 cc532) pd_13 rfl d8_11 [.ref a1] rfl 1 (by decide) rfl rfl fun o530 T530 L530 X530 hQ530 => ?_
 obtain ⟨rfl, N530q, e530⟩ := hQ530
 have N530 := Fr.app NN529 N530q
 refine c_sh 14 [.ref el, .ref a1] rfl rfl ?_
 have cc533 := P5.other W529 (Or.inr (slot_ne (Or.inr (gw hw 92 rfl)) (Or.inr (gw hw 61 rfl)) (by decide) (t := (.object "java/util/List")) (t' := (.object "java/lang/String")) (by decide) (by decide)))
 have cc534 := P2.wr W529
 refine c_putf X530 hx hby hZ hown (gw hw 91 rfl) Via.refl e530 cc533 cc534 (Or.inr ⟨(gw hw 92 rfl), rfl, hnm⟩) (gw hw 53 rfl) (.object "java/util/List") (by decide) rfl rfl d8_14 fun T535 h535 X535 e535 W535 => ?_
 have Fw535 := cc533.same W535
 have KK535 := KK529.wr W535 (Or.inl (List.mem_of_getElem? (i := 0) rfl))
 have ZN535 := Nat.le_trans ZN529 (Keep.of_wr W535).1
 have NN535 := Fr.snoc X535 N530 P3
 have OL535 := OL529.wr W535 P3
 refine c_sh 17 [] rfl rfl <| c_aloadN X535 hx hby d8_17 rfl rfl <| c_aloadN X535 hx hby d8_18 rfl rfl ?_
 have cc537 := (P14.other W529 (Ne.symm P16)).other W535 (Ne.symm P16)
 have cc538 := (P13.wr W529).wr W535
 obtain ⟨T536, h536, X536, e536, E536, A536, AE536, st536⟩ := cloneH X535 hx hZ (ad := "[I") hown (gw hw 93 rfl) (gw hw 94 rfl) (gw hw 98 rfl) (gw hw 96 rfl) (gw hw 97 rfl) (gw hw 99 rfl) e535 cc537.arh cc538 (g := (mkF m 19 #[rv a1, rv a2, rv a3, rv a4, iv (-1), rv a6] [.ref a4, .ref a1])) rfl (by rw [hml]; rfl) rfl (hb hby d8_19) (by decide) (W := 1) (cap := 0) (by show 2 * 0 + _ ≤ _; exact Nat.le_of_eq rfl) (by decide) (by decide) (by decide) (by decide)
 obtain ⟨b536, g536⟩ : ∃ z, z = h535.size := ⟨_, rfl⟩
 rw [← g536] at A536 AE536 st536
 have G_b536 := Nat.le_trans ZN535 (Nat.le_of_eq g536.symm)
 have KK536 := KK535.ext E536
 have ZN536 := Nat.le_trans ZN535 E536.1
 have OL536 := OL535.ext E536
 have V536 : Arv Z h536 b536 k4 .int (0 : Int32) [] (.int (0 : Int32)) := A536
 refine go st536 ?_
 show Go _ p e below s _ _ _ (T536.setTop (mkF m 22 #[rv a1, rv a2, rv a3, rv a4, iv (-1), rv a6] [.ref b536, .ref a1]))
 obtain ⟨T539, X539, e539, st539⟩ := castY X536 hx hZ hown (gw hw 100 rfl) e536 (Ins.self AE536) (g := (mkF m 22 #[rv a1, rv a2, rv a3, rv a4, iv (-1), rv a6] [.ref b536, .ref a1])) rfl rfl (hb hby d8_22)
 refine go st539 ?_
 show Go _ p e below s _ _ _ (T539.setTop (mkF m 25 #[rv a1, rv a2, rv a3, rv a4, iv (-1), rv a6] [.ref b536, .ref a1]))
 have cc540 := ((P6.other W529 (Or.inr (slot_ne (Or.inr (gw hw 103 rfl)) (Or.inr (gw hw 61 rfl)) (by decide) (t := (.array .int)) (t' := (.object "java/lang/String")) (by decide) (by decide)))).other W535 (Or.inr (slot_ne (Or.inr (gw hw 103 rfl)) (Or.inr (gw hw 92 rfl)) (by decide) (t := (.array .int)) (t' := (.object "java/util/List")) (by decide) (by decide)))).ext E536
 have cc541 := (cc534.wr W535).ext E536
 refine c_putf X539 hx hby hZ hown (gw hw 102 rfl) Via.refl e539 cc540 cc541 (Or.inr ⟨(gw hw 103 rfl), rfl, hnm⟩) (gw hw 53 rfl) (.array .int) (by decide) rfl rfl d8_25 fun T542 h542 X542 e542 W542 => ?_
 have Fw542 := cc540.same W542
 have ne543 : b536 ≠ a1 := (Ne.symm (Nat.ne_of_lt (Nat.lt_of_lt_of_le (cc534.wr W535).lt (Nat.le_of_eq g536.symm))))
 have KK542 := KK536.wr W542 (Or.inl (List.mem_of_getElem? (i := 0) rfl))
 have ZN542 := Nat.le_trans ZN536 (Keep.of_wr W542).1
 have NN542 := Fr.snoc X542 NN535 P3
 have OL542 := OL536.wr W542 P3
 refine c_sh 28 [] rfl rfl <| c_aloadN X542 hx hby d8_28 rfl rfl <| c_iload X542 hx hby d8_29 rfl ?_
 have cc544 := (((P7.other W529 (Or.inr (slot_ne (Or.inr (gw hw 105 rfl)) (Or.inr (gw hw 61 rfl)) (by decide) (t := .int) (t' := (.object "java/lang/String")) (by decide) (by decide)))).other W535 (Or.inr (slot_ne (Or.inr (gw hw 105 rfl)) (Or.inr (gw hw 92 rfl)) (by decide) (t := .int) (t' := (.object "java/util/List")) (by decide) (by decide)))).ext E536).other W542 (Or.inr (slot_ne (Or.inr (gw hw 105 rfl)) (Or.inr (gw hw 103 rfl)) (by decide) (t := .int) (t' := (.array .int)) (by decide) (by decide)))
 have cc545 := cc541.wr W542
 refine c_putf X542 hx hby hZ hown (gw hw 104 rfl) Via.refl e542 cc544 cc545 (Or.inr ⟨(gw hw 105 rfl), rfl, hnm⟩) (gw hw 53 rfl) .int (by decide) rfl rfl d8_31 fun T546 h546 X546 e546 W546 => ?_
 have Fw546 := cc544.same W546
 have KK546 := KK542.wr W546 (Or.inl (List.mem_of_getElem? (i := 0) rfl))
 have ZN546 := Nat.le_trans ZN542 (Keep.of_wr W546).1
 have NN546 := Fr.snoc X546 NN542 P3
 have OL546 := OL542.wr W546 P3
 refine c_sh 34 [] rfl rfl <| c_aloadN X546 hx hby d8_34 rfl rfl <| c_aload X546 hx hby d8_35 rfl rfl ?_
 have cc548 := ((((P11.wr W529).wr W535).ext E536).wr W542).wr W546
 have cc549 := ((((P12.other W529 (Or.inl (Ne.symm P17))).other W535 (Or.inl (Ne.symm P17))).ext E536).other W542 (Or.inl (Ne.symm P17))).other W546 (Or.inl (Ne.symm P17))
 refine c_callS X546 hx hby hZ hown hml (gw hw 62 rfl) (gw hw 63 rfl) (gw hw 64 rfl) (gw hw 65 rfl) e546 (rmCO0 hw a6 el h546 n0 ZN546 P0 OL546 cc548 cc549) pd_13 rfl d8_37 [.ref a1] rfl 1 (by decide) rfl rfl fun o547 T547 L547 X547 hQ547 => ?_
 obtain ⟨rfl, N547q, e547⟩ := hQ547
 have N547 := Fr.app NN546 N547q
 refine c_sh 40 [.ref el, .ref a1] rfl rfl ?_
 have cc550 := ((((P8.other W529 (Or.inr (slot_ne (Or.inr (gw hw 107 rfl)) (Or.inr (gw hw 61 rfl)) (by decide) (t := (.object "java/util/List")) (t' := (.object "java/lang/String")) (by decide) (by decide)))).other W535 (Or.inr (slot_ne (Or.inr (gw hw 107 rfl)) (Or.inr (gw hw 92 rfl)) (by decide) (t := (.object "java/util/List")) (t' := (.object "java/util/List")) (by decide) (by decide)))).ext E536).other W542 (Or.inr (slot_ne (Or.inr (gw hw 107 rfl)) (Or.inr (gw hw 103 rfl)) (by decide) (t := (.object "java/util/List")) (t' := (.array .int)) (by decide) (by decide)))).other W546 (Or.inr (slot_ne (Or.inr (gw hw 107 rfl)) (Or.inr (gw hw 105 rfl)) (by decide) (t := (.object "java/util/List")) (t' := .int) (by decide) (by decide)))
 have cc551 := cc545.wr W546
 refine c_putf X547 hx hby hZ hown (gw hw 106 rfl) Via.refl e547 cc550 cc551 (Or.inr ⟨(gw hw 107 rfl), rfl, hnm⟩) (gw hw 53 rfl) (.object "java/util/List") (by decide) rfl rfl d8_40 fun T552 h552 X552 e552 W552 => ?_
 have Fw552 := cc550.same W552
 have KK552 := KK546.wr W552 (Or.inl (List.mem_of_getElem? (i := 0) rfl))
 have ZN552 := Nat.le_trans ZN546 (Keep.of_wr W552).1
 have NN552 := Fr.snoc X552 N547 P3
 have OL552 := OL546.wr W552 P3
 refine c_sh 43 [] rfl rfl ?_
 have cc553 := (Fw542.other W546 (Or.inr (slot_ne (Or.inr (gw hw 103 rfl)) (Or.inr (gw hw 105 rfl)) (by decide) (t := (.array .int)) (t' := .int) (by decide) (by decide)))).other W552 (Or.inr (slot_ne (Or.inr (gw hw 103 rfl)) (Or.inr (gw hw 107 rfl)) (by decide) (t := (.array .int)) (t' := (.object "java/util/List")) (by decide) (by decide)))
 have cc554 := ((V536.other W542 ne543).other W546 ne543).other W552 ne543
 exact c_ret0 X552 hx hby hlk hret d8_43 (by decide) e552 ⟨b536, rfl, NN552, (Nat.le_trans KK535.1 (Nat.le_of_eq g536.symm)), G_b536, KK552, cc553, cc554⟩
def QXI1 (Z : State) (a1 a2 a3 a4 a6 : Addr) (u1 u2 u3 u4 u5 : Value) (el : Addr) (k4 : ClassId) (i0 : Int32) (d : Addr) (k : ClassId) (v0 mr em : Addr) (h0 : Heap) (n0 : Nat) (v : Option Value) (h : Heap) (L : List Loc) : Prop := ∃ (b : Addr), v = none ∧ Fr n0 L ∧ h0.size ≤ b ∧ n0 ≤ b ∧ Keep h0 h [a1] ∧ Fld Z h a1 "com/example/raccordo/raccordo/flow/XmlElement" "attributeIndexes" "[I" (.ref b) ∧ Arv Z h b k4 .int (1 : Int32) [(.int i0)] (.int (0 : Int32))
theorem rmXI1 {l : Launch} {Z : State} {a0 : Array Value} (hw : HW Z a0) (a1 a2 a3 a4 a6 : Addr) (u1 u2 u3 u4 u5 : Value) (el : Addr) (k4 : ClassId) (i0 : Int32) (d : Addr) (k : ClassId) (v0 mr em : Addr) (h0 : Heap) (n0 : Nat) (Z0 : n0 ≤ h0.size) (P0 : Sta Z Z.heap "java/util/ImmutableCollections" "EMPTY_LIST" "Ljava/util/ImmutableCollections$ListN;" (.ref el)) (P1 : Old Z n0 h0) (P2 : Exa Z h0 a1 "com/example/raccordo/raccordo/flow/XmlElement") (P3 : n0 ≤ a1) (P4 : Fld Z h0 a1 "com/example/raccordo/raccordo/flow/XmlElement" "name" "Ljava/lang/String;" u1) (P5 : Fld Z h0 a1 "com/example/raccordo/raccordo/flow/XmlElement" "attributes" "Ljava/util/List;" u2) (P6 : Fld Z h0 a1 "com/example/raccordo/raccordo/flow/XmlElement" "attributeIndexes" "[I" u3) (P7 : Fld Z h0 a1 "com/example/raccordo/raccordo/flow/XmlElement" "textIndex" "I" u4) (P8 : Fld Z h0 a1 "com/example/raccordo/raccordo/flow/XmlElement" "children" "Ljava/util/List;" u5) (P9 : Exa Z h0 a3 "java/util/ArrayList") (P10 : Fld Z h0 a3 "java/util/ArrayList" "size" "I" (.int (1 : Int32))) (P11 : Fld Z h0 a3 "java/util/ArrayList" "elementData" "[Ljava/lang/Object;" (.ref d)) (P12 : Exa Z h0 d "[Ljava/lang/Object;") (P13 : Arv Z h0 d k (.object "java/lang/Object") (10 : Int32) [(.ref v0), .null, .null, .null, .null, .null, .null, .null, .null, .null] .null) (P14 : eS Z h0 v0) (P15 : Sta Z Z.heap "java/util/ImmutableCollections" "EMPTY" "Ljava/lang/Object;" (.ref em)) (P16 : Exa Z h0 a6 "java/util/ArrayList") (P17 : Fld Z h0 a6 "java/util/ArrayList" "size" "I" (.int (0 : Int32))) (P18 : Exa Z h0 a4 "[I") (P19 : Arv Z h0 a4 k4 .int (1 : Int32) [(.int i0)] (.int (0 : Int32))) (P20 : a1 ≠ a3) (P21 : a1 ≠ a4) (P22 : a1 ≠ a6) (P23 : a1 ≠ d) (hm : own_Mir Z "[Ljava/lang/Object;" mr) : own_M l Z ⟨"com/example/raccordo/raccordo/flow/XmlElement", "<init>", "(Ljava/lang/String;Ljava/util/List;[IILjava/util/List;)V"⟩ prog_37_method_1_code 6 none (rmk 8 3 4 106) #[.ref a1, .ref a2, .ref a3, .ref a4, .int (-1), .ref a6] h0 (QXI1 Z a1 a2 a3 a4 a6 u1 u2 u3 u4 u5 el k4 i0 d k v0 mr em h0 n0) := by
 refine own_body rfl (plainFor_of_name pn_8) ?_
 intro p e s m below meth c s₁ hx hby hml hown hnm hlk hret X0 e0 hZ
 have N0 := Fr.nil n0
 show Go _ p e below s _ _ _ (s₁.setTop (mkF m 0 #[rv a1, rv a2, rv a3, rv a4, iv (-1), rv a6] []))
 refine c_aloadN X0 hx hby d8_0 rfl rfl ?_
 obtain ⟨T586, X586, e586, st586⟩ := initO X0 hx hZ hown (gw hw 59 rfl) (gw hw 20 rfl) (gw hw 21 rfl) e0 (g := (mkF m 1 #[rv a1, rv a2, rv a3, rv a4, iv (-1), rv a6] [.ref a1])) rfl (by rw [hml]; rfl) rfl (hb hby d8_1) (by decide) (W := 0) (by show 2 * 0 + _ ≤ _; exact Nat.le_of_eq rfl) (by decide)
 refine go st586 ?_
 show Go _ p e below s _ _ _ (T586.setTop (mkF m 4 #[rv a1, rv a2, rv a3, rv a4, iv (-1), rv a6] []))
 refine c_aloadN X586 hx hby d8_4 rfl rfl <| c_aloadN X586 hx hby d8_5 rfl rfl <| c_putf X586 hx hby hZ hown (gw hw 60 rfl) Via.refl e586 P4 P2 (Or.inr ⟨(gw hw 61 rfl), rfl, hnm⟩) (gw hw 53 rfl) (.object "java/lang/String") (by decide) rfl rfl d8_6 fun T587 h587 X587 e587 W587 => ?_
 have Fw587 := P4.same W587
 have KK587 := (Keep.refl h0 [a1]).wr W587 (Or.inl (List.mem_of_getElem? (i := 0) rfl))
 have ZN587 := Nat.le_trans Z0 (Keep.of_wr W587).1
 have NN587 := Fr.snoc X587 N0 P3
 have OL587 := P1.wr W587 P3
 refine c_sh 9 [] rfl rfl <| c_aloadN X587 hx hby d8_9 rfl rfl <| c_aloadN X587 hx hby d8_10 rfl rfl ?_
 have cc589 := P9.wr W587
 have cc590 := P10.other W587 (Or.inl (Ne.symm P20))
 have cc591 := P11.other W587 (Or.inl (Ne.symm P20))
 have cc592 := P12.wr W587
 have cc593 := P13.other W587 (Ne.symm P23)
 have cc594 := P14.wr W587
 refine c_callS X587 hx hby hZ hown hml (gw hw 62 rfl) (gw hw 63 rfl) (gw hw 64 rfl) (gw hw 65 rfl) e587 (rmCO1 hw a3 el d k v0 mr em h587 n0 ZN587 P0 OL587 cc589 cc590 cc591 cc592 cc593 cc594 P15 hm) pd_13 rfl d8_11 [.ref a1] rfl 1 (by decide) rfl rfl fun o588 T588 L588 X588 hQ588 => ?_
 obtain ⟨b588, rfl, N588q, K588⟩ := hQ588
 have N588 := Fr.app NN587 N588q
 have KK588 := KK587.trans K588 all0
 have ZN588 := Nat.le_trans ZN587 K588.1
 have OL588 := OL587.keep K588 all0
 refine c_sh 14 [.ref b588, .ref a1] rfl rfl ?_
 have cc595 := (P5.other W587 (Or.inr (slot_ne (Or.inr (gw hw 92 rfl)) (Or.inr (gw hw 61 rfl)) (by decide) (t := (.object "java/util/List")) (t' := (.object "java/lang/String")) (by decide) (by decide)))).keep K588 nin0
 have cc596 := (P2.wr W587).keep K588
 refine c_putf X588 hx hby hZ hown (gw hw 91 rfl) Via.refl rfl cc595 cc596 (Or.inr ⟨(gw hw 92 rfl), rfl, hnm⟩) (gw hw 53 rfl) (.object "java/util/List") (by decide) rfl rfl d8_14 fun T597 h597 X597 e597 W597 => ?_
 have Fw597 := cc595.same W597
 have KK597 := KK588.wr W597 (Or.inl (List.mem_of_getElem? (i := 0) rfl))
 have ZN597 := Nat.le_trans ZN588 (Keep.of_wr W597).1
 have NN597 := Fr.snoc X597 N588 P3
 have OL597 := OL588.wr W597 P3
 refine c_sh 17 [] rfl rfl <| c_aloadN X597 hx hby d8_17 rfl rfl <| c_aloadN X597 hx hby d8_18 rfl rfl ?_
 have cc599 := ((P19.other W587 (Ne.symm P21)).keep K588 nin0).other W597 (Ne.symm P21)
 have cc600 := ((P18.wr W587).keep K588).wr W597
 obtain ⟨T598, h598, X598, e598, E598, A598, AE598, st598⟩ := cloneH X597 hx hZ (ad := "[I") hown (gw hw 93 rfl) (gw hw 94 rfl) (gw hw 98 rfl) (gw hw 96 rfl) (gw hw 97 rfl) (gw hw 99 rfl) e597 cc599.arh cc600 (g := (mkF m 19 #[rv a1, rv a2, rv a3, rv a4, iv (-1), rv a6] [.ref a4, .ref a1])) rfl (by rw [hml]; rfl) rfl (hb hby d8_19) (by decide) (W := 1) (cap := 1) (by show 2 * 0 + _ ≤ _; exact Nat.le_of_eq rfl) (by decide) (by decide) (by decide) (by decide)
 obtain ⟨b598, g598⟩ : ∃ z, z = h597.size := ⟨_, rfl⟩
 rw [← g598] at A598 AE598 st598
 have G_b598 := Nat.le_trans ZN597 (Nat.le_of_eq g598.symm)
 have KK598 := KK597.ext E598
 have ZN598 := Nat.le_trans ZN597 E598.1
 have OL598 := OL597.ext E598
 have V598 : Arv Z h598 b598 k4 .int (1 : Int32) [(.int i0)] (.int (0 : Int32)) := A598
 refine go st598 ?_
 show Go _ p e below s _ _ _ (T598.setTop (mkF m 22 #[rv a1, rv a2, rv a3, rv a4, iv (-1), rv a6] [.ref b598, .ref a1]))
 obtain ⟨T601, X601, e601, st601⟩ := castY X598 hx hZ hown (gw hw 100 rfl) e598 (Ins.self AE598) (g := (mkF m 22 #[rv a1, rv a2, rv a3, rv a4, iv (-1), rv a6] [.ref b598, .ref a1])) rfl rfl (hb hby d8_22)
 refine go st601 ?_
 show Go _ p e below s _ _ _ (T601.setTop (mkF m 25 #[rv a1, rv a2, rv a3, rv a4, iv (-1), rv a6] [.ref b598, .ref a1]))
 have cc602 := (((P6.other W587 (Or.inr (slot_ne (Or.inr (gw hw 103 rfl)) (Or.inr (gw hw 61 rfl)) (by decide) (t := (.array .int)) (t' := (.object "java/lang/String")) (by decide) (by decide)))).keep K588 nin0).other W597 (Or.inr (slot_ne (Or.inr (gw hw 103 rfl)) (Or.inr (gw hw 92 rfl)) (by decide) (t := (.array .int)) (t' := (.object "java/util/List")) (by decide) (by decide)))).ext E598
 have cc603 := (cc596.wr W597).ext E598
 refine c_putf X601 hx hby hZ hown (gw hw 102 rfl) Via.refl e601 cc602 cc603 (Or.inr ⟨(gw hw 103 rfl), rfl, hnm⟩) (gw hw 53 rfl) (.array .int) (by decide) rfl rfl d8_25 fun T604 h604 X604 e604 W604 => ?_
 have Fw604 := cc602.same W604
 have ne605 : b598 ≠ a1 := (Ne.symm (Nat.ne_of_lt (Nat.lt_of_lt_of_le (cc596.wr W597).lt (Nat.le_of_eq g598.symm))))
 have KK604 := KK598.wr W604 (Or.inl (List.mem_of_getElem? (i := 0) rfl))
 have ZN604 := Nat.le_trans ZN598 (Keep.of_wr W604).1
 have NN604 := Fr.snoc X604 NN597 P3
 have OL604 := OL598.wr W604 P3
 refine c_sh 28 [] rfl rfl <| c_aloadN X604 hx hby d8_28 rfl rfl <| c_iload X604 hx hby d8_29 rfl ?_
 have cc606 := ((((P7.other W587 (Or.inr (slot_ne (Or.inr (gw hw 105 rfl)) (Or.inr (gw hw 61 rfl)) (by decide) (t := .int) (t' := (.object "java/lang/String")) (by decide) (by decide)))).keep K588 nin0).other W597 (Or.inr (slot_ne (Or.inr (gw hw 105 rfl)) (Or.inr (gw hw 92 rfl)) (by decide) (t := .int) (t' := (.object "java/util/List")) (by decide) (by decide)))).ext E598).other W604 (Or.inr (slot_ne (Or.inr (gw hw 105 rfl)) (Or.inr (gw hw 103 rfl)) (by decide) (t := .int) (t' := (.array .int)) (by decide) (by decide)))
 have cc607 := cc603.wr W604
 refine c_putf X604 hx hby hZ hown (gw hw 104 rfl) Via.refl e604 cc606 cc607 (Or.inr ⟨(gw hw 105 rfl), rfl, hnm⟩) (gw hw 53 rfl) .int (by decide) rfl rfl d8_31 fun T608 h608 X608 e608 W608 => ?_
 have Fw608 := cc606.same W608
 have KK608 := KK604.wr W608 (Or.inl (List.mem_of_getElem? (i := 0) rfl))
 have ZN608 := Nat.le_trans ZN604 (Keep.of_wr W608).1
 have NN608 := Fr.snoc X608 NN604 P3
 have OL608 := OL604.wr W608 P3
 refine c_sh 34 [] rfl rfl <| c_aloadN X608 hx hby d8_34 rfl rfl <| c_aload X608 hx hby d8_35 rfl rfl ?_
 have cc610 := (((((P16.wr W587).keep K588).wr W597).ext E598).wr W604).wr W608
 have cc611 := (((((P17.other W587 (Or.inl (Ne.symm P22))).keep K588 nin0).other W597 (Or.inl (Ne.symm P22))).ext E598).other W604 (Or.inl (Ne.symm P22))).other W608 (Or.inl (Ne.symm P22))
 refine c_callS X608 hx hby hZ hown hml (gw hw 62 rfl) (gw hw 63 rfl) (gw hw 64 rfl) (gw hw 65 rfl) e608 (rmCO0 hw a6 el h608 n0 ZN608 P0 OL608 cc610 cc611) pd_13 rfl d8_37 [.ref a1] rfl 1 (by decide) rfl rfl fun o609 T609 L609 X609 hQ609 => ?_
 obtain ⟨rfl, N609q, e609⟩ := hQ609
 have N609 := Fr.app NN608 N609q
 refine c_sh 40 [.ref el, .ref a1] rfl rfl ?_
 have cc612 := (((((P8.other W587 (Or.inr (slot_ne (Or.inr (gw hw 107 rfl)) (Or.inr (gw hw 61 rfl)) (by decide) (t := (.object "java/util/List")) (t' := (.object "java/lang/String")) (by decide) (by decide)))).keep K588 nin0).other W597 (Or.inr (slot_ne (Or.inr (gw hw 107 rfl)) (Or.inr (gw hw 92 rfl)) (by decide) (t := (.object "java/util/List")) (t' := (.object "java/util/List")) (by decide) (by decide)))).ext E598).other W604 (Or.inr (slot_ne (Or.inr (gw hw 107 rfl)) (Or.inr (gw hw 103 rfl)) (by decide) (t := (.object "java/util/List")) (t' := (.array .int)) (by decide) (by decide)))).other W608 (Or.inr (slot_ne (Or.inr (gw hw 107 rfl)) (Or.inr (gw hw 105 rfl)) (by decide) (t := (.object "java/util/List")) (t' := .int) (by decide) (by decide)))
 have cc613 := cc607.wr W608
 refine c_putf X609 hx hby hZ hown (gw hw 106 rfl) Via.refl e609 cc612 cc613 (Or.inr ⟨(gw hw 107 rfl), rfl, hnm⟩) (gw hw 53 rfl) (.object "java/util/List") (by decide) rfl rfl d8_40 fun T614 h614 X614 e614 W614 => ?_
 have Fw614 := cc612.same W614
 have KK614 := KK608.wr W614 (Or.inl (List.mem_of_getElem? (i := 0) rfl))
 have ZN614 := Nat.le_trans ZN608 (Keep.of_wr W614).1
 have NN614 := Fr.snoc X614 N609 P3
 have OL614 := OL608.wr W614 P3
 refine c_sh 43 [] rfl rfl ?_
 have cc615 := (Fw604.other W608 (Or.inr (slot_ne (Or.inr (gw hw 103 rfl)) (Or.inr (gw hw 105 rfl)) (by decide) (t := (.array .int)) (t' := .int) (by decide) (by decide)))).other W614 (Or.inr (slot_ne (Or.inr (gw hw 103 rfl)) (Or.inr (gw hw 107 rfl)) (by decide) (t := (.array .int)) (t' := (.object "java/util/List")) (by decide) (by decide)))
 have cc616 := ((V598.other W604 ne605).other W608 ne605).other W614 ne605
 exact c_ret0 X614 hx hby hlk hret d8_43 (by decide) e614 ⟨b598, rfl, NN614, (Nat.le_trans KK597.1 (Nat.le_of_eq g598.symm)), G_b598, KK614, cc615, cc616⟩
def QXI2 (Z : State) (a1 a2 a3 a4 a6 : Addr) (u1 u2 u3 u4 u5 : Value) (el : Addr) (k4 : ClassId) (i0 i1 : Int32) (d : Addr) (k : ClassId) (v0 v1 mr em : Addr) (h0 : Heap) (n0 : Nat) (v : Option Value) (h : Heap) (L : List Loc) : Prop := ∃ (b : Addr), v = none ∧ Fr n0 L ∧ h0.size ≤ b ∧ n0 ≤ b ∧ Keep h0 h [a1] ∧ Fld Z h a1 "com/example/raccordo/raccordo/flow/XmlElement" "attributeIndexes" "[I" (.ref b) ∧ Arv Z h b k4 .int (2 : Int32) [(.int i0), (.int i1)] (.int (0 : Int32))
theorem rmXI2 {l : Launch} {Z : State} {a0 : Array Value} (hw : HW Z a0) (a1 a2 a3 a4 a6 : Addr) (u1 u2 u3 u4 u5 : Value) (el : Addr) (k4 : ClassId) (i0 i1 : Int32) (d : Addr) (k : ClassId) (v0 v1 mr em : Addr) (h0 : Heap) (n0 : Nat) (Z0 : n0 ≤ h0.size) (P0 : Sta Z Z.heap "java/util/ImmutableCollections" "EMPTY_LIST" "Ljava/util/ImmutableCollections$ListN;" (.ref el)) (P1 : Old Z n0 h0) (P2 : Exa Z h0 a1 "com/example/raccordo/raccordo/flow/XmlElement") (P3 : n0 ≤ a1) (P4 : Fld Z h0 a1 "com/example/raccordo/raccordo/flow/XmlElement" "name" "Ljava/lang/String;" u1) (P5 : Fld Z h0 a1 "com/example/raccordo/raccordo/flow/XmlElement" "attributes" "Ljava/util/List;" u2) (P6 : Fld Z h0 a1 "com/example/raccordo/raccordo/flow/XmlElement" "attributeIndexes" "[I" u3) (P7 : Fld Z h0 a1 "com/example/raccordo/raccordo/flow/XmlElement" "textIndex" "I" u4) (P8 : Fld Z h0 a1 "com/example/raccordo/raccordo/flow/XmlElement" "children" "Ljava/util/List;" u5) (P9 : Exa Z h0 a3 "java/util/ArrayList") (P10 : Fld Z h0 a3 "java/util/ArrayList" "size" "I" (.int (2 : Int32))) (P11 : Fld Z h0 a3 "java/util/ArrayList" "elementData" "[Ljava/lang/Object;" (.ref d)) (P12 : Exa Z h0 d "[Ljava/lang/Object;") (P13 : Arv Z h0 d k (.object "java/lang/Object") (10 : Int32) [(.ref v0), (.ref v1), .null, .null, .null, .null, .null, .null, .null, .null] .null) (P14 : eS Z h0 v0) (P15 : eS Z h0 v1) (P16 : Sta Z Z.heap "java/util/ImmutableCollections" "EMPTY" "Ljava/lang/Object;" (.ref em)) (P17 : Exa Z h0 a6 "java/util/ArrayList") (P18 : Fld Z h0 a6 "java/util/ArrayList" "size" "I" (.int (0 : Int32))) (P19 : Exa Z h0 a4 "[I") (P20 : Arv Z h0 a4 k4 .int (2 : Int32) [(.int i0), (.int i1)] (.int (0 : Int32))) (P21 : a1 ≠ a3) (P22 : a1 ≠ a4) (P23 : a1 ≠ a6) (P24 : a1 ≠ d) (hm : own_Mir Z "[Ljava/lang/Object;" mr) : own_M l Z ⟨"com/example/raccordo/raccordo/flow/XmlElement", "<init>", "(Ljava/lang/String;Ljava/util/List;[IILjava/util/List;)V"⟩ prog_37_method_1_code 6 none (rmk 8 3 6 106) #[.ref a1, .ref a2, .ref a3, .ref a4, .int (-1), .ref a6] h0 (QXI2 Z a1 a2 a3 a4 a6 u1 u2 u3 u4 u5 el k4 i0 i1 d k v0 v1 mr em h0 n0) := by
 refine own_body rfl (plainFor_of_name pn_8) ?_
 intro p e s m below meth c s₁ hx hby hml hown hnm hlk hret X0 e0 hZ
 have N0 := Fr.nil n0
 show Go _ p e below s _ _ _ (s₁.setTop (mkF m 0 #[rv a1, rv a2, rv a3, rv a4, iv (-1), rv a6] []))
 refine c_aloadN X0 hx hby d8_0 rfl rfl ?_
 obtain ⟨T649, X649, e649, st649⟩ := initO X0 hx hZ hown (gw hw 59 rfl) (gw hw 20 rfl) (gw hw 21 rfl) e0 (g := (mkF m 1 #[rv a1, rv a2, rv a3, rv a4, iv (-1), rv a6] [.ref a1])) rfl (by rw [hml]; rfl) rfl (hb hby d8_1) (by decide) (W := 0) (by show 2 * 0 + _ ≤ _; exact Nat.le_of_eq rfl) (by decide)
 refine go st649 ?_
 show Go _ p e below s _ _ _ (T649.setTop (mkF m 4 #[rv a1, rv a2, rv a3, rv a4, iv (-1), rv a6] []))
 refine c_aloadN X649 hx hby d8_4 rfl rfl <| c_aloadN X649 hx hby d8_5 rfl rfl <| c_putf X649 hx hby hZ hown (gw hw 60 rfl) Via.refl e649 P4 P2 (Or.inr ⟨(gw hw 61 rfl), rfl, hnm⟩) (gw hw 53 rfl) (.object "java/lang/String") (by decide) rfl rfl d8_6 fun T650 h650 X650 e650 W650 => ?_
 have Fw650 := P4.same W650
 have KK650 := (Keep.refl h0 [a1]).wr W650 (Or.inl (List.mem_of_getElem? (i := 0) rfl))
 have ZN650 := Nat.le_trans Z0 (Keep.of_wr W650).1
 have NN650 := Fr.snoc X650 N0 P3
 have OL650 := P1.wr W650 P3
 refine c_sh 9 [] rfl rfl <| c_aloadN X650 hx hby d8_9 rfl rfl <| c_aloadN X650 hx hby d8_10 rfl rfl ?_
 have cc652 := P9.wr W650
 have cc653 := P10.other W650 (Or.inl (Ne.symm P21))
 have cc654 := P11.other W650 (Or.inl (Ne.symm P21))
 have cc655 := P12.wr W650
 have cc656 := P13.other W650 (Ne.symm P24)
 have cc657 := P14.wr W650
 have cc658 := P15.wr W650
 refine c_callS X650 hx hby hZ hown hml (gw hw 62 rfl) (gw hw 63 rfl) (gw hw 64 rfl) (gw hw 65 rfl) e650 (rmCO2 hw a3 el d k v0 v1 mr em h650 n0 ZN650 P0 OL650 cc652 cc653 cc654 cc655 cc656 cc657 cc658 P16 hm) pd_13 rfl d8_11 [.ref a1] rfl 1 (by decide) rfl rfl fun o651 T651 L651 X651 hQ651 => ?_
 obtain ⟨b651, rfl, N651q, K651⟩ := hQ651
 have N651 := Fr.app NN650 N651q
 have KK651 := KK650.trans K651 all0
 have ZN651 := Nat.le_trans ZN650 K651.1
 have OL651 := OL650.keep K651 all0
 refine c_sh 14 [.ref b651, .ref a1] rfl rfl ?_
 have cc659 := (P5.other W650 (Or.inr (slot_ne (Or.inr (gw hw 92 rfl)) (Or.inr (gw hw 61 rfl)) (by decide) (t := (.object "java/util/List")) (t' := (.object "java/lang/String")) (by decide) (by decide)))).keep K651 nin0
 have cc660 := (P2.wr W650).keep K651
 refine c_putf X651 hx hby hZ hown (gw hw 91 rfl) Via.refl rfl cc659 cc660 (Or.inr ⟨(gw hw 92 rfl), rfl, hnm⟩) (gw hw 53 rfl) (.object "java/util/List") (by decide) rfl rfl d8_14 fun T661 h661 X661 e661 W661 => ?_
 have Fw661 := cc659.same W661
 have KK661 := KK651.wr W661 (Or.inl (List.mem_of_getElem? (i := 0) rfl))
 have ZN661 := Nat.le_trans ZN651 (Keep.of_wr W661).1
 have NN661 := Fr.snoc X661 N651 P3
 have OL661 := OL651.wr W661 P3
 refine c_sh 17 [] rfl rfl <| c_aloadN X661 hx hby d8_17 rfl rfl <| c_aloadN X661 hx hby d8_18 rfl rfl ?_
 have cc663 := ((P20.other W650 (Ne.symm P22)).keep K651 nin0).other W661 (Ne.symm P22)
 have cc664 := ((P19.wr W650).keep K651).wr W661
 obtain ⟨T662, h662, X662, e662, E662, A662, AE662, st662⟩ := cloneH X661 hx hZ (ad := "[I") hown (gw hw 93 rfl) (gw hw 94 rfl) (gw hw 98 rfl) (gw hw 96 rfl) (gw hw 97 rfl) (gw hw 99 rfl) e661 cc663.arh cc664 (g := (mkF m 19 #[rv a1, rv a2, rv a3, rv a4, iv (-1), rv a6] [.ref a4, .ref a1])) rfl (by rw [hml]; rfl) rfl (hb hby d8_19) (by decide) (W := 1) (cap := 2) (by show 2 * 0 + _ ≤ _; exact Nat.le_of_eq rfl) (by decide) (by decide) (by decide) (by decide)
 obtain ⟨b662, g662⟩ : ∃ z, z = h661.size := ⟨_, rfl⟩
 rw [← g662] at A662 AE662 st662
 have G_b662 := Nat.le_trans ZN661 (Nat.le_of_eq g662.symm)
 have KK662 := KK661.ext E662
 have ZN662 := Nat.le_trans ZN661 E662.1
 have OL662 := OL661.ext E662
 have V662 : Arv Z h662 b662 k4 .int (2 : Int32) [(.int i0), (.int i1)] (.int (0 : Int32)) := A662
 refine go st662 ?_
 show Go _ p e below s _ _ _ (T662.setTop (mkF m 22 #[rv a1, rv a2, rv a3, rv a4, iv (-1), rv a6] [.ref b662, .ref a1]))
 obtain ⟨T665, X665, e665, st665⟩ := castY X662 hx hZ hown (gw hw 100 rfl) e662 (Ins.self AE662) (g := (mkF m 22 #[rv a1, rv a2, rv a3, rv a4, iv (-1), rv a6] [.ref b662, .ref a1])) rfl rfl (hb hby d8_22)
 refine go st665 ?_
 show Go _ p e below s _ _ _ (T665.setTop (mkF m 25 #[rv a1, rv a2, rv a3, rv a4, iv (-1), rv a6] [.ref b662, .ref a1]))
 have cc666 := (((P6.other W650 (Or.inr (slot_ne (Or.inr (gw hw 103 rfl)) (Or.inr (gw hw 61 rfl)) (by decide) (t := (.array .int)) (t' := (.object "java/lang/String")) (by decide) (by decide)))).keep K651 nin0).other W661 (Or.inr (slot_ne (Or.inr (gw hw 103 rfl)) (Or.inr (gw hw 92 rfl)) (by decide) (t := (.array .int)) (t' := (.object "java/util/List")) (by decide) (by decide)))).ext E662
 have cc667 := (cc660.wr W661).ext E662
 refine c_putf X665 hx hby hZ hown (gw hw 102 rfl) Via.refl e665 cc666 cc667 (Or.inr ⟨(gw hw 103 rfl), rfl, hnm⟩) (gw hw 53 rfl) (.array .int) (by decide) rfl rfl d8_25 fun T668 h668 X668 e668 W668 => ?_
 have Fw668 := cc666.same W668
 have ne669 : b662 ≠ a1 := (Ne.symm (Nat.ne_of_lt (Nat.lt_of_lt_of_le (cc660.wr W661).lt (Nat.le_of_eq g662.symm))))
 have KK668 := KK662.wr W668 (Or.inl (List.mem_of_getElem? (i := 0) rfl))
 have ZN668 := Nat.le_trans ZN662 (Keep.of_wr W668).1
 have NN668 := Fr.snoc X668 NN661 P3
 have OL668 := OL662.wr W668 P3
 refine c_sh 28 [] rfl rfl <| c_aloadN X668 hx hby d8_28 rfl rfl <| c_iload X668 hx hby d8_29 rfl ?_
 have cc670 := ((((P7.other W650 (Or.inr (slot_ne (Or.inr (gw hw 105 rfl)) (Or.inr (gw hw 61 rfl)) (by decide) (t := .int) (t' := (.object "java/lang/String")) (by decide) (by decide)))).keep K651 nin0).other W661 (Or.inr (slot_ne (Or.inr (gw hw 105 rfl)) (Or.inr (gw hw 92 rfl)) (by decide) (t := .int) (t' := (.object "java/util/List")) (by decide) (by decide)))).ext E662).other W668 (Or.inr (slot_ne (Or.inr (gw hw 105 rfl)) (Or.inr (gw hw 103 rfl)) (by decide) (t := .int) (t' := (.array .int)) (by decide) (by decide)))
 have cc671 := cc667.wr W668
 refine c_putf X668 hx hby hZ hown (gw hw 104 rfl) Via.refl e668 cc670 cc671 (Or.inr ⟨(gw hw 105 rfl), rfl, hnm⟩) (gw hw 53 rfl) .int (by decide) rfl rfl d8_31 fun T672 h672 X672 e672 W672 => ?_
 have Fw672 := cc670.same W672
 have KK672 := KK668.wr W672 (Or.inl (List.mem_of_getElem? (i := 0) rfl))
 have ZN672 := Nat.le_trans ZN668 (Keep.of_wr W672).1
 have NN672 := Fr.snoc X672 NN668 P3
 have OL672 := OL668.wr W672 P3
 refine c_sh 34 [] rfl rfl <| c_aloadN X672 hx hby d8_34 rfl rfl <| c_aload X672 hx hby d8_35 rfl rfl ?_
 have cc674 := (((((P17.wr W650).keep K651).wr W661).ext E662).wr W668).wr W672
 have cc675 := (((((P18.other W650 (Or.inl (Ne.symm P23))).keep K651 nin0).other W661 (Or.inl (Ne.symm P23))).ext E662).other W668 (Or.inl (Ne.symm P23))).other W672 (Or.inl (Ne.symm P23))
 refine c_callS X672 hx hby hZ hown hml (gw hw 62 rfl) (gw hw 63 rfl) (gw hw 64 rfl) (gw hw 65 rfl) e672 (rmCO0 hw a6 el h672 n0 ZN672 P0 OL672 cc674 cc675) pd_13 rfl d8_37 [.ref a1] rfl 1 (by decide) rfl rfl fun o673 T673 L673 X673 hQ673 => ?_
 obtain ⟨rfl, N673q, e673⟩ := hQ673
 have N673 := Fr.app NN672 N673q
 refine c_sh 40 [.ref el, .ref a1] rfl rfl ?_
 have cc676 := (((((P8.other W650 (Or.inr (slot_ne (Or.inr (gw hw 107 rfl)) (Or.inr (gw hw 61 rfl)) (by decide) (t := (.object "java/util/List")) (t' := (.object "java/lang/String")) (by decide) (by decide)))).keep K651 nin0).other W661 (Or.inr (slot_ne (Or.inr (gw hw 107 rfl)) (Or.inr (gw hw 92 rfl)) (by decide) (t := (.object "java/util/List")) (t' := (.object "java/util/List")) (by decide) (by decide)))).ext E662).other W668 (Or.inr (slot_ne (Or.inr (gw hw 107 rfl)) (Or.inr (gw hw 103 rfl)) (by decide) (t := (.object "java/util/List")) (t' := (.array .int)) (by decide) (by decide)))).other W672 (Or.inr (slot_ne (Or.inr (gw hw 107 rfl)) (Or.inr (gw hw 105 rfl)) (by decide) (t := (.object "java/util/List")) (t' := .int) (by decide) (by decide)))
 have cc677 := cc671.wr W672
 refine c_putf X673 hx hby hZ hown (gw hw 106 rfl) Via.refl e673 cc676 cc677 (Or.inr ⟨(gw hw 107 rfl), rfl, hnm⟩) (gw hw 53 rfl) (.object "java/util/List") (by decide) rfl rfl d8_40 fun T678 h678 X678 e678 W678 => ?_
 have Fw678 := cc676.same W678
 have KK678 := KK672.wr W678 (Or.inl (List.mem_of_getElem? (i := 0) rfl))
 have ZN678 := Nat.le_trans ZN672 (Keep.of_wr W678).1
 have NN678 := Fr.snoc X678 N673 P3
 have OL678 := OL672.wr W678 P3
 refine c_sh 43 [] rfl rfl ?_
 have cc679 := (Fw668.other W672 (Or.inr (slot_ne (Or.inr (gw hw 103 rfl)) (Or.inr (gw hw 105 rfl)) (by decide) (t := (.array .int)) (t' := .int) (by decide) (by decide)))).other W678 (Or.inr (slot_ne (Or.inr (gw hw 103 rfl)) (Or.inr (gw hw 107 rfl)) (by decide) (t := (.array .int)) (t' := (.object "java/util/List")) (by decide) (by decide)))
 have cc680 := ((V662.other W668 ne669).other W672 ne669).other W678 ne669
 exact c_ret0 X678 hx hby hlk hret d8_43 (by decide) e678 ⟨b662, rfl, NN678, (Nat.le_trans KK661.1 (Nat.le_of_eq g662.symm)), G_b662, KK678, cc679, cc680⟩
def QXI3 (Z : State) (a1 a2 a3 a4 a6 : Addr) (u1 u2 u3 u4 u5 : Value) (el : Addr) (k4 : ClassId) (i0 i1 i2 : Int32) (d : Addr) (k : ClassId) (v0 v1 v2 mr em : Addr) (h0 : Heap) (n0 : Nat) (v : Option Value) (h : Heap) (L : List Loc) : Prop := ∃ (b : Addr), v = none ∧ Fr n0 L ∧ h0.size ≤ b ∧ n0 ≤ b ∧ Keep h0 h [a1] ∧ Fld Z h a1 "com/example/raccordo/raccordo/flow/XmlElement" "attributeIndexes" "[I" (.ref b) ∧ Arv Z h b k4 .int (3 : Int32) [(.int i0), (.int i1), (.int i2)] (.int (0 : Int32))
theorem rmXI3 {l : Launch} {Z : State} {a0 : Array Value} (hw : HW Z a0) (a1 a2 a3 a4 a6 : Addr) (u1 u2 u3 u4 u5 : Value) (el : Addr) (k4 : ClassId) (i0 i1 i2 : Int32) (d : Addr) (k : ClassId) (v0 v1 v2 mr em : Addr) (h0 : Heap) (n0 : Nat) (Z0 : n0 ≤ h0.size) (P0 : Sta Z Z.heap "java/util/ImmutableCollections" "EMPTY_LIST" "Ljava/util/ImmutableCollections$ListN;" (.ref el)) (P1 : Old Z n0 h0) (P2 : Exa Z h0 a1 "com/example/raccordo/raccordo/flow/XmlElement") (P3 : n0 ≤ a1) (P4 : Fld Z h0 a1 "com/example/raccordo/raccordo/flow/XmlElement" "name" "Ljava/lang/String;" u1) (P5 : Fld Z h0 a1 "com/example/raccordo/raccordo/flow/XmlElement" "attributes" "Ljava/util/List;" u2) (P6 : Fld Z h0 a1 "com/example/raccordo/raccordo/flow/XmlElement" "attributeIndexes" "[I" u3) (P7 : Fld Z h0 a1 "com/example/raccordo/raccordo/flow/XmlElement" "textIndex" "I" u4) (P8 : Fld Z h0 a1 "com/example/raccordo/raccordo/flow/XmlElement" "children" "Ljava/util/List;" u5) (P9 : Exa Z h0 a3 "java/util/ArrayList") (P10 : Fld Z h0 a3 "java/util/ArrayList" "size" "I" (.int (3 : Int32))) (P11 : Fld Z h0 a3 "java/util/ArrayList" "elementData" "[Ljava/lang/Object;" (.ref d)) (P12 : Exa Z h0 d "[Ljava/lang/Object;") (P13 : Arv Z h0 d k (.object "java/lang/Object") (10 : Int32) [(.ref v0), (.ref v1), (.ref v2), .null, .null, .null, .null, .null, .null, .null] .null) (P14 : eS Z h0 v0) (P15 : eS Z h0 v1) (P16 : eS Z h0 v2) (P17 : Sta Z Z.heap "java/util/ImmutableCollections" "EMPTY" "Ljava/lang/Object;" (.ref em)) (P18 : Exa Z h0 a6 "java/util/ArrayList") (P19 : Fld Z h0 a6 "java/util/ArrayList" "size" "I" (.int (0 : Int32))) (P20 : Exa Z h0 a4 "[I") (P21 : Arv Z h0 a4 k4 .int (3 : Int32) [(.int i0), (.int i1), (.int i2)] (.int (0 : Int32))) (P22 : a1 ≠ a3) (P23 : a1 ≠ a4) (P24 : a1 ≠ a6) (P25 : a1 ≠ d) (hm : own_Mir Z "[Ljava/lang/Object;" mr) : own_M l Z ⟨"com/example/raccordo/raccordo/flow/XmlElement", "<init>", "(Ljava/lang/String;Ljava/util/List;[IILjava/util/List;)V"⟩ prog_37_method_1_code 6 none (rmk 9 4 11 116) #[.ref a1, .ref a2, .ref a3, .ref a4, .int (-1), .ref a6] h0 (QXI3 Z a1 a2 a3 a4 a6 u1 u2 u3 u4 u5 el k4 i0 i1 i2 d k v0 v1 v2 mr em h0 n0) := by
 refine own_body rfl (plainFor_of_name pn_8) ?_
 intro p e s m below meth c s₁ hx hby hml hown hnm hlk hret X0 e0 hZ
 have N0 := Fr.nil n0
 show Go _ p e below s _ _ _ (s₁.setTop (mkF m 0 #[rv a1, rv a2, rv a3, rv a4, iv (-1), rv a6] []))
 refine c_aloadN X0 hx hby d8_0 rfl rfl ?_
 obtain ⟨T714, X714, e714, st714⟩ := initO X0 hx hZ hown (gw hw 59 rfl) (gw hw 20 rfl) (gw hw 21 rfl) e0 (g := (mkF m 1 #[rv a1, rv a2, rv a3, rv a4, iv (-1), rv a6] [.ref a1])) rfl (by rw [hml]; rfl) rfl (hb hby d8_1) (by decide) (W := 0) (by show 2 * 0 + _ ≤ _; exact Nat.le_of_eq rfl) (by decide)
 refine go st714 ?_
 show Go _ p e below s _ _ _ (T714.setTop (mkF m 4 #[rv a1, rv a2, rv a3, rv a4, iv (-1), rv a6] []))
 refine c_aloadN X714 hx hby d8_4 rfl rfl <| c_aloadN X714 hx hby d8_5 rfl rfl <| c_putf X714 hx hby hZ hown (gw hw 60 rfl) Via.refl e714 P4 P2 (Or.inr ⟨(gw hw 61 rfl), rfl, hnm⟩) (gw hw 53 rfl) (.object "java/lang/String") (by decide) rfl rfl d8_6 fun T715 h715 X715 e715 W715 => ?_
 have Fw715 := P4.same W715
 have KK715 := (Keep.refl h0 [a1]).wr W715 (Or.inl (List.mem_of_getElem? (i := 0) rfl))
 have ZN715 := Nat.le_trans Z0 (Keep.of_wr W715).1
 have NN715 := Fr.snoc X715 N0 P3
 have OL715 := P1.wr W715 P3
 refine c_sh 9 [] rfl rfl <| c_aloadN X715 hx hby d8_9 rfl rfl <| c_aloadN X715 hx hby d8_10 rfl rfl ?_
 have cc717 := P9.wr W715
 have cc718 := P10.other W715 (Or.inl (Ne.symm P22))
 have cc719 := P11.other W715 (Or.inl (Ne.symm P22))
 have cc720 := P12.wr W715
 have cc721 := P13.other W715 (Ne.symm P25)
 have cc722 := P14.wr W715
 have cc723 := P15.wr W715
 have cc724 := P16.wr W715
 refine c_callS X715 hx hby hZ hown hml (gw hw 62 rfl) (gw hw 63 rfl) (gw hw 64 rfl) (gw hw 65 rfl) e715 (rmCO3 hw a3 el d k v0 v1 v2 mr em h715 n0 ZN715 P0 OL715 cc717 cc718 cc719 cc720 cc721 cc722 cc723 cc724 P17 hm) pd_13 rfl d8_11 [.ref a1] rfl 1 (by decide) rfl rfl fun o716 T716 L716 X716 hQ716 => ?_
 obtain ⟨b716, rfl, N716q, K716⟩ := hQ716
 have N716 := Fr.app NN715 N716q
 have KK716 := KK715.trans K716 all0
 have ZN716 := Nat.le_trans ZN715 K716.1
 have OL716 := OL715.keep K716 all0
 refine c_sh 14 [.ref b716, .ref a1] rfl rfl ?_
 have cc725 := (P5.other W715 (Or.inr (slot_ne (Or.inr (gw hw 92 rfl)) (Or.inr (gw hw 61 rfl)) (by decide) (t := (.object "java/util/List")) (t' := (.object "java/lang/String")) (by decide) (by decide)))).keep K716 nin0
 have cc726 := (P2.wr W715).keep K716
 refine c_putf X716 hx hby hZ hown (gw hw 91 rfl) Via.refl rfl cc725 cc726 (Or.inr ⟨(gw hw 92 rfl), rfl, hnm⟩) (gw hw 53 rfl) (.object "java/util/List") (by decide) rfl rfl d8_14 fun T727 h727 X727 e727 W727 => ?_
 have Fw727 := cc725.same W727
 have KK727 := KK716.wr W727 (Or.inl (List.mem_of_getElem? (i := 0) rfl))
 have ZN727 := Nat.le_trans ZN716 (Keep.of_wr W727).1
 have NN727 := Fr.snoc X727 N716 P3
 have OL727 := OL716.wr W727 P3
 refine c_sh 17 [] rfl rfl <| c_aloadN X727 hx hby d8_17 rfl rfl <| c_aloadN X727 hx hby d8_18 rfl rfl ?_
 have cc729 := ((P21.other W715 (Ne.symm P23)).keep K716 nin0).other W727 (Ne.symm P23)
 have cc730 := ((P20.wr W715).keep K716).wr W727
 obtain ⟨T728, h728, X728, e728, E728, A728, AE728, st728⟩ := cloneH X727 hx hZ (ad := "[I") hown (gw hw 93 rfl) (gw hw 94 rfl) (gw hw 98 rfl) (gw hw 96 rfl) (gw hw 97 rfl) (gw hw 99 rfl) e727 cc729.arh cc730 (g := (mkF m 19 #[rv a1, rv a2, rv a3, rv a4, iv (-1), rv a6] [.ref a4, .ref a1])) rfl (by rw [hml]; rfl) rfl (hb hby d8_19) (by decide) (W := 1) (cap := 3) (by show 2 * 0 + _ ≤ _; exact Nat.le_of_eq rfl) (by decide) (by decide) (by decide) (by decide)
 obtain ⟨b728, g728⟩ : ∃ z, z = h727.size := ⟨_, rfl⟩
 rw [← g728] at A728 AE728 st728
 have G_b728 := Nat.le_trans ZN727 (Nat.le_of_eq g728.symm)
 have KK728 := KK727.ext E728
 have ZN728 := Nat.le_trans ZN727 E728.1
 have OL728 := OL727.ext E728
 have V728 : Arv Z h728 b728 k4 .int (3 : Int32) [(.int i0), (.int i1), (.int i2)] (.int (0 : Int32)) := A728
 refine go st728 ?_
 show Go _ p e below s _ _ _ (T728.setTop (mkF m 22 #[rv a1, rv a2, rv a3, rv a4, iv (-1), rv a6] [.ref b728, .ref a1]))
 obtain ⟨T731, X731, e731, st731⟩ := castY X728 hx hZ hown (gw hw 100 rfl) e728 (Ins.self AE728) (g := (mkF m 22 #[rv a1, rv a2, rv a3, rv a4, iv (-1), rv a6] [.ref b728, .ref a1])) rfl rfl (hb hby d8_22)
 refine go st731 ?_
 show Go _ p e below s _ _ _ (T731.setTop (mkF m 25 #[rv a1, rv a2, rv a3, rv a4, iv (-1), rv a6] [.ref b728, .ref a1]))
 have cc732 := (((P6.other W715 (Or.inr (slot_ne (Or.inr (gw hw 103 rfl)) (Or.inr (gw hw 61 rfl)) (by decide) (t := (.array .int)) (t' := (.object "java/lang/String")) (by decide) (by decide)))).keep K716 nin0).other W727 (Or.inr (slot_ne (Or.inr (gw hw 103 rfl)) (Or.inr (gw hw 92 rfl)) (by decide) (t := (.array .int)) (t' := (.object "java/util/List")) (by decide) (by decide)))).ext E728
 have cc733 := (cc726.wr W727).ext E728
 refine c_putf X731 hx hby hZ hown (gw hw 102 rfl) Via.refl e731 cc732 cc733 (Or.inr ⟨(gw hw 103 rfl), rfl, hnm⟩) (gw hw 53 rfl) (.array .int) (by decide) rfl rfl d8_25 fun T734 h734 X734 e734 W734 => ?_
 have Fw734 := cc732.same W734
 have ne735 : b728 ≠ a1 := (Ne.symm (Nat.ne_of_lt (Nat.lt_of_lt_of_le (cc726.wr W727).lt (Nat.le_of_eq g728.symm))))
 have KK734 := KK728.wr W734 (Or.inl (List.mem_of_getElem? (i := 0) rfl))
 have ZN734 := Nat.le_trans ZN728 (Keep.of_wr W734).1
 have NN734 := Fr.snoc X734 NN727 P3
 have OL734 := OL728.wr W734 P3
 refine c_sh 28 [] rfl rfl <| c_aloadN X734 hx hby d8_28 rfl rfl <| c_iload X734 hx hby d8_29 rfl ?_
 have cc736 := ((((P7.other W715 (Or.inr (slot_ne (Or.inr (gw hw 105 rfl)) (Or.inr (gw hw 61 rfl)) (by decide) (t := .int) (t' := (.object "java/lang/String")) (by decide) (by decide)))).keep K716 nin0).other W727 (Or.inr (slot_ne (Or.inr (gw hw 105 rfl)) (Or.inr (gw hw 92 rfl)) (by decide) (t := .int) (t' := (.object "java/util/List")) (by decide) (by decide)))).ext E728).other W734 (Or.inr (slot_ne (Or.inr (gw hw 105 rfl)) (Or.inr (gw hw 103 rfl)) (by decide) (t := .int) (t' := (.array .int)) (by decide) (by decide)))
 have cc737 := cc733.wr W734
 refine c_putf X734 hx hby hZ hown (gw hw 104 rfl) Via.refl e734 cc736 cc737 (Or.inr ⟨(gw hw 105 rfl), rfl, hnm⟩) (gw hw 53 rfl) .int (by decide) rfl rfl d8_31 fun T738 h738 X738 e738 W738 => ?_
 have Fw738 := cc736.same W738
 have KK738 := KK734.wr W738 (Or.inl (List.mem_of_getElem? (i := 0) rfl))
 have ZN738 := Nat.le_trans ZN734 (Keep.of_wr W738).1
 have NN738 := Fr.snoc X738 NN734 P3
 have OL738 := OL734.wr W738 P3
 refine c_sh 34 [] rfl rfl <| c_aloadN X738 hx hby d8_34 rfl rfl <| c_aload X738 hx hby d8_35 rfl rfl ?_
 have cc740 := (((((P18.wr W715).keep K716).wr W727).ext E728).wr W734).wr W738
 have cc741 := (((((P19.other W715 (Or.inl (Ne.symm P24))).keep K716 nin0).other W727 (Or.inl (Ne.symm P24))).ext E728).other W734 (Or.inl (Ne.symm P24))).other W738 (Or.inl (Ne.symm P24))
 refine c_callS X738 hx hby hZ hown hml (gw hw 62 rfl) (gw hw 63 rfl) (gw hw 64 rfl) (gw hw 65 rfl) e738 (rmCO0 hw a6 el h738 n0 ZN738 P0 OL738 cc740 cc741) pd_13 rfl d8_37 [.ref a1] rfl 1 (by decide) rfl rfl fun o739 T739 L739 X739 hQ739 => ?_
 obtain ⟨rfl, N739q, e739⟩ := hQ739
 have N739 := Fr.app NN738 N739q
 refine c_sh 40 [.ref el, .ref a1] rfl rfl ?_
 have cc742 := (((((P8.other W715 (Or.inr (slot_ne (Or.inr (gw hw 107 rfl)) (Or.inr (gw hw 61 rfl)) (by decide) (t := (.object "java/util/List")) (t' := (.object "java/lang/String")) (by decide) (by decide)))).keep K716 nin0).other W727 (Or.inr (slot_ne (Or.inr (gw hw 107 rfl)) (Or.inr (gw hw 92 rfl)) (by decide) (t := (.object "java/util/List")) (t' := (.object "java/util/List")) (by decide) (by decide)))).ext E728).other W734 (Or.inr (slot_ne (Or.inr (gw hw 107 rfl)) (Or.inr (gw hw 103 rfl)) (by decide) (t := (.object "java/util/List")) (t' := (.array .int)) (by decide) (by decide)))).other W738 (Or.inr (slot_ne (Or.inr (gw hw 107 rfl)) (Or.inr (gw hw 105 rfl)) (by decide) (t := (.object "java/util/List")) (t' := .int) (by decide) (by decide)))
 have cc743 := cc737.wr W738
 refine c_putf X739 hx hby hZ hown (gw hw 106 rfl) Via.refl e739 cc742 cc743 (Or.inr ⟨(gw hw 107 rfl), rfl, hnm⟩) (gw hw 53 rfl) (.object "java/util/List") (by decide) rfl rfl d8_40 fun T744 h744 X744 e744 W744 => ?_
 have Fw744 := cc742.same W744
 have KK744 := KK738.wr W744 (Or.inl (List.mem_of_getElem? (i := 0) rfl))
 have ZN744 := Nat.le_trans ZN738 (Keep.of_wr W744).1
 have NN744 := Fr.snoc X744 N739 P3
 have OL744 := OL738.wr W744 P3
 refine c_sh 43 [] rfl rfl ?_
 have cc745 := (Fw734.other W738 (Or.inr (slot_ne (Or.inr (gw hw 103 rfl)) (Or.inr (gw hw 105 rfl)) (by decide) (t := (.array .int)) (t' := .int) (by decide) (by decide)))).other W744 (Or.inr (slot_ne (Or.inr (gw hw 103 rfl)) (Or.inr (gw hw 107 rfl)) (by decide) (t := (.array .int)) (t' := (.object "java/util/List")) (by decide) (by decide)))
 have cc746 := ((V728.other W734 ne735).other W738 ne735).other W744 ne735
 exact c_ret0 X744 hx hby hlk hret d8_43 (by decide) e744 ⟨b728, rfl, NN744, (Nat.le_trans KK727.1 (Nat.le_of_eq g728.symm)), G_b728, KK744, cc745, cc746⟩
theorem d33_0 : decode jdk_43_method_13_code 0 = .ok (.aload_n 0, 1) := by decide +kernel
theorem d33_1 : decode jdk_43_method_13_code 1 = .ok (.arraylength, 1) := by decide +kernel
theorem d33_2 : decode jdk_43_method_13_code 2 = .ok (.aload_n 1, 1) := by decide +kernel
theorem d33_3 : decode jdk_43_method_13_code 3 = .ok (.arraylength, 1) := by decide +kernel
theorem d33_4 : decode jdk_43_method_13_code 4 = .ok (.if_icmp .ne 30, 3) := by decide +kernel
theorem d33_7 : decode jdk_43_method_13_code 7 = .ok (.iconst 0, 1) := by decide +kernel
theorem d33_8 : decode jdk_43_method_13_code 8 = .ok (.istore_n 2, 1) := by decide +kernel
theorem d33_9 : decode jdk_43_method_13_code 9 = .ok (.iload_n 2, 1) := by decide +kernel
theorem d33_10 : decode jdk_43_method_13_code 10 = .ok (.aload_n 0, 1) := by decide +kernel
theorem d33_11 : decode jdk_43_method_13_code 11 = .ok (.arraylength, 1) := by decide +kernel
theorem d33_12 : decode jdk_43_method_13_code 12 = .ok (.if_icmp .ge 20, 3) := by decide +kernel
theorem d33_32 : decode jdk_43_method_13_code 32 = .ok (.iconst 1, 1) := by decide +kernel
theorem d33_33 : decode jdk_43_method_13_code 33 = .ok (.ireturn, 1) := by decide +kernel
theorem pn_33 : plainName "java/lang/StringLatin1" = true := by first | (simp [plainName, overriddenIn]; done) | decide +kernel
def QSE00t (Z : State) (b1 b2 : Addr) (k1 k2 : ClassId) (h0 : Heap) (n0 : Nat) (v : Option Value) (h : Heap) (L : List Loc) : Prop := v = some (.int (1 : Int32)) ∧ Fr n0 L ∧ h = h0
theorem rmSE00t {l : Launch} {Z : State} {a0 : Array Value} (hw : HW Z a0) (b1 b2 : Addr) (k1 k2 : ClassId) (h0 : Heap) (n0 : Nat) (Z0 : n0 ≤ h0.size) (P0 : vB Z h0 b1 k1 0 []) (P1 : vB Z h0 b2 k2 0 []) : own_M l Z ⟨"java/lang/StringLatin1", "equals", "([B[B)Z"⟩ jdk_43_method_13_code 3 (some .boolean) (rmk 0 0 0 0) #[.ref b1, .ref b2] h0 (QSE00t Z b1 b2 k1 k2 h0 n0) := by
 refine own_body rfl (plainFor_of_name pn_33) ?_
 intro p e s m below meth c s₁ hx hby hml hown hnm hlk hret X0 e0 hZ
 have N0 := Fr.nil n0
 show Go _ p e below s _ _ _ (s₁.setTop (mkF m 0 #[rv b1, rv b2, .unset] []))
 refine c_aloadN X0 hx hby d33_0 rfl rfl <| c_alen X0 hx hby hZ e0 P0 d33_1 <| c_aloadN X0 hx hby d33_2 rfl rfl <| c_alen X0 hx hby hZ e0 P1 d33_3 <| c_icmpNo X0 hx hby d33_4 (teq (rfl : (0 : Int32) = (0 : Int32))).2 <| c_iconst X0 hx hby 0 d33_7 rfl <| c_istoreN X0 hx hby _ d33_8 rfl <| c_iloadN X0 hx hby d33_9 rfl <| c_aloadN X0 hx hby d33_10 rfl rfl <| c_alen X0 hx hby hZ e0 P0 d33_11 <| c_icmpYes X0 hx hby 32 d33_12 (by decide) (by decide) <| c_iconst X0 hx hby 1 d33_32 rfl <| c_shL #[rv b1, rv b2, iv 0] rfl ?_
 refine c_retI X0 hx hby hlk hret d33_33 rfl (by simp) (by decide) e0 ⟨rfl, N0, rfl⟩
theorem d33_34 : decode jdk_43_method_13_code 34 = .ok (.iconst 0, 1) := by decide +kernel
theorem d33_35 : decode jdk_43_method_13_code 35 = .ok (.ireturn, 1) := by decide +kernel
def QSE01f (Z : State) (b1 b2 : Addr) (k1 k2 : ClassId) (y2 : Int32) (h0 : Heap) (n0 : Nat) (v : Option Value) (h : Heap) (L : List Loc) : Prop := v = some (.int (0 : Int32)) ∧ Fr n0 L ∧ h = h0
theorem rmSE01f {l : Launch} {Z : State} {a0 : Array Value} (hw : HW Z a0) (b1 b2 : Addr) (k1 k2 : ClassId) (y2 : Int32) (h0 : Heap) (n0 : Nat) (Z0 : n0 ≤ h0.size) (P0 : vB Z h0 b1 k1 0 []) (P1 : vB Z h0 b2 k2 1 [.int y2]) : own_M l Z ⟨"java/lang/StringLatin1", "equals", "([B[B)Z"⟩ jdk_43_method_13_code 3 (some .boolean) (rmk 0 0 0 0) #[.ref b1, .ref b2] h0 (QSE01f Z b1 b2 k1 k2 y2 h0 n0) := by
 refine own_body rfl (plainFor_of_name pn_33) ?_
 intro p e s m below meth c s₁ hx hby hml hown hnm hlk hret X0 e0 hZ
 have N0 := Fr.nil n0
 show Go _ p e below s _ _ _ (s₁.setTop (mkF m 0 #[rv b1, rv b2, .unset] []))
 refine c_aloadN X0 hx hby d33_0 rfl rfl <| c_alen X0 hx hby hZ e0 P0 d33_1 <| c_aloadN X0 hx hby d33_2 rfl rfl <| c_alen X0 hx hby hZ e0 P1 d33_3 <| c_icmpYes X0 hx hby 34 d33_4 (by decide) (by decide) <| c_iconst X0 hx hby 0 d33_34 rfl ?_
 refine c_retI X0 hx hby hlk hret d33_35 rfl (by simp) (by decide) e0 ⟨rfl, N0, rfl⟩
def QSE10f (Z : State) (b1 b2 : Addr) (k1 k2 : ClassId) (y1 : Int32) (h0 : Heap) (n0 : Nat) (v : Option Value) (h : Heap) (L : List Loc) : Prop := v = some (.int (0 : Int32)) ∧ Fr n0 L ∧ h = h0
theorem rmSE10f {l : Launch} {Z : State} {a0 : Array Value} (hw : HW Z a0) (b1 b2 : Addr) (k1 k2 : ClassId) (y1 : Int32) (h0 : Heap) (n0 : Nat) (Z0 : n0 ≤ h0.size) (P0 : vB Z h0 b1 k1 1 [.int y1]) (P1 : vB Z h0 b2 k2 0 []) : own_M l Z ⟨"java/lang/StringLatin1", "equals", "([B[B)Z"⟩ jdk_43_method_13_code 3 (some .boolean) (rmk 0 0 0 0) #[.ref b1, .ref b2] h0 (QSE10f Z b1 b2 k1 k2 y1 h0 n0) := by
 refine own_body rfl (plainFor_of_name pn_33) ?_
 intro p e s m below meth c s₁ hx hby hml hown hnm hlk hret X0 e0 hZ
 have N0 := Fr.nil n0
 show Go _ p e below s _ _ _ (s₁.setTop (mkF m 0 #[rv b1, rv b2, .unset] []))
 refine c_aloadN X0 hx hby d33_0 rfl rfl <| c_alen X0 hx hby hZ e0 P0 d33_1 <| c_aloadN X0 hx hby d33_2 rfl rfl <| c_alen X0 hx hby hZ e0 P1 d33_3 <| c_icmpYes X0 hx hby 34 d33_4 (by decide) (by decide) <| c_iconst X0 hx hby 0 d33_34 rfl ?_
 refine c_retI X0 hx hby hlk hret d33_35 rfl (by simp) (by decide) e0 ⟨rfl, N0, rfl⟩
theorem d33_15 : decode jdk_43_method_13_code 15 = .ok (.aload_n 0, 1) := by decide +kernel
theorem d33_16 : decode jdk_43_method_13_code 16 = .ok (.iload_n 2, 1) := by decide +kernel
theorem d33_17 : decode jdk_43_method_13_code 17 = .ok (.baload, 1) := by decide +kernel
theorem d33_18 : decode jdk_43_method_13_code 18 = .ok (.aload_n 1, 1) := by decide +kernel
theorem d33_19 : decode jdk_43_method_13_code 19 = .ok (.iload_n 2, 1) := by decide +kernel
theorem d33_20 : decode jdk_43_method_13_code 20 = .ok (.baload, 1) := by decide +kernel
theorem d33_21 : decode jdk_43_method_13_code 21 = .ok (.if_icmp .eq 5, 3) := by decide +kernel
theorem d33_26 : decode jdk_43_method_13_code 26 = .ok (.iinc 2 1, 3) := by decide +kernel
theorem d33_29 : decode jdk_43_method_13_code 29 = .ok (.goto (-20), 3) := by decide +kernel
def QSE11t (Z : State) (b1 b2 : Addr) (k1 k2 : ClassId) (y1 y2 : Int32) (h0 : Heap) (n0 : Nat) (v : Option Value) (h : Heap) (L : List Loc) : Prop := v = some (.int (1 : Int32)) ∧ Fr n0 L ∧ h = h0
theorem rmSE11t {l : Launch} {Z : State} {a0 : Array Value} (hw : HW Z a0) (b1 b2 : Addr) (k1 k2 : ClassId) (y1 y2 : Int32) (h0 : Heap) (n0 : Nat) (Z0 : n0 ≤ h0.size) (P0 : vB Z h0 b1 k1 1 [.int y1]) (P1 : vB Z h0 b2 k2 1 [.int y2]) (he : y1 = y2) : own_M l Z ⟨"java/lang/StringLatin1", "equals", "([B[B)Z"⟩ jdk_43_method_13_code 3 (some .boolean) (rmk 0 0 0 0) #[.ref b1, .ref b2] h0 (QSE11t Z b1 b2 k1 k2 y1 y2 h0 n0) := by
 refine own_body rfl (plainFor_of_name pn_33) ?_
 intro p e s m below meth c s₁ hx hby hml hown hnm hlk hret X0 e0 hZ
 have N0 := Fr.nil n0
 show Go _ p e below s _ _ _ (s₁.setTop (mkF m 0 #[rv b1, rv b2, .unset] []))
 refine c_aloadN X0 hx hby d33_0 rfl rfl <| c_alen X0 hx hby hZ e0 P0 d33_1 <| c_aloadN X0 hx hby d33_2 rfl rfl <| c_alen X0 hx hby hZ e0 P1 d33_3 <| c_icmpNo X0 hx hby d33_4 (teq (rfl : (1 : Int32) = (1 : Int32))).2 <| c_iconst X0 hx hby 0 d33_7 rfl <| c_istoreN X0 hx hby _ d33_8 rfl <| c_iloadN X0 hx hby d33_9 rfl <| c_aloadN X0 hx hby d33_10 rfl rfl <| c_alen X0 hx hby hZ e0 P0 d33_11 <| c_icmpNo X0 hx hby d33_12 (by decide) <| c_aloadN X0 hx hby d33_15 rfl rfl <| c_iloadN X0 hx hby d33_16 rfl <| c_bal X0 hx hby hZ e0 P0 (by decide) (.int y1) rfl d33_17 <| c_aloadN X0 hx hby d33_18 rfl rfl <| c_sh 19 _ rfl rfl <| c_iloadN X0 hx hby d33_19 rfl <| c_bal X0 hx hby hZ e0 P1 (by decide) (.int y2) rfl d33_20 <| c_icmpYes X0 hx hby 26 d33_21 (teq he).1 (by decide) <| c_iinc X0 hx hby #[rv b1, rv b2, iv 1] d33_26 rfl rfl <| c_goto X0 hx hby 9 d33_29 (by decide) <| c_iloadN X0 hx hby d33_9 rfl <| c_aloadN X0 hx hby d33_10 rfl rfl <| c_alen X0 hx hby hZ e0 P0 d33_11 <| c_icmpYes X0 hx hby 32 d33_12 (by decide) (by decide) <| c_iconst X0 hx hby 1 d33_32 rfl ?_
 refine c_retI X0 hx hby hlk hret d33_33 rfl (by simp) (by decide) e0 ⟨rfl, N0, rfl⟩
theorem d33_24 : decode jdk_43_method_13_code 24 = .ok (.iconst 0, 1) := by decide +kernel
theorem d33_25 : decode jdk_43_method_13_code 25 = .ok (.ireturn, 1) := by decide +kernel
def QSE11f (Z : State) (b1 b2 : Addr) (k1 k2 : ClassId) (y1 y2 : Int32) (h0 : Heap) (n0 : Nat) (v : Option Value) (h : Heap) (L : List Loc) : Prop := v = some (.int (0 : Int32)) ∧ Fr n0 L ∧ h = h0
theorem rmSE11f {l : Launch} {Z : State} {a0 : Array Value} (hw : HW Z a0) (b1 b2 : Addr) (k1 k2 : ClassId) (y1 y2 : Int32) (h0 : Heap) (n0 : Nat) (Z0 : n0 ≤ h0.size) (P0 : vB Z h0 b1 k1 1 [.int y1]) (P1 : vB Z h0 b2 k2 1 [.int y2]) (he : ¬ y1 = y2) : own_M l Z ⟨"java/lang/StringLatin1", "equals", "([B[B)Z"⟩ jdk_43_method_13_code 3 (some .boolean) (rmk 0 0 0 0) #[.ref b1, .ref b2] h0 (QSE11f Z b1 b2 k1 k2 y1 y2 h0 n0) := by
 refine own_body rfl (plainFor_of_name pn_33) ?_
 intro p e s m below meth c s₁ hx hby hml hown hnm hlk hret X0 e0 hZ
 have N0 := Fr.nil n0
 show Go _ p e below s _ _ _ (s₁.setTop (mkF m 0 #[rv b1, rv b2, .unset] []))
 refine c_aloadN X0 hx hby d33_0 rfl rfl <| c_alen X0 hx hby hZ e0 P0 d33_1 <| c_aloadN X0 hx hby d33_2 rfl rfl <| c_alen X0 hx hby hZ e0 P1 d33_3 <| c_icmpNo X0 hx hby d33_4 (teq (rfl : (1 : Int32) = (1 : Int32))).2 <| c_iconst X0 hx hby 0 d33_7 rfl <| c_istoreN X0 hx hby _ d33_8 rfl <| c_iloadN X0 hx hby d33_9 rfl <| c_aloadN X0 hx hby d33_10 rfl rfl <| c_alen X0 hx hby hZ e0 P0 d33_11 <| c_icmpNo X0 hx hby d33_12 (by decide) <| c_aloadN X0 hx hby d33_15 rfl rfl <| c_iloadN X0 hx hby d33_16 rfl <| c_bal X0 hx hby hZ e0 P0 (by decide) (.int y1) rfl d33_17 <| c_aloadN X0 hx hby d33_18 rfl rfl <| c_sh 19 _ rfl rfl <| c_iloadN X0 hx hby d33_19 rfl <| c_bal X0 hx hby hZ e0 P1 (by decide) (.int y2) rfl d33_20 <| c_icmpNo X0 hx hby d33_21 (feq he).1 <| c_iconst X0 hx hby 0 d33_24 rfl <| c_shL #[rv b1, rv b2, iv 0] rfl ?_
 refine c_retI X0 hx hby hlk hret d33_25 rfl (by simp) (by decide) e0 ⟨rfl, N0, rfl⟩
theorem d32_0 : decode jdk_42_method_66_code 0 = .ok (.aload_n 0, 1) := by decide +kernel
theorem d32_1 : decode jdk_42_method_66_code 1 = .ok (.aload_n 1, 1) := by decide +kernel
theorem d32_2 : decode jdk_42_method_66_code 2 = .ok (.if_acmp .ne 5, 3) := by decide +kernel
theorem d32_7 : decode jdk_42_method_66_code 7 = .ok (.aload_n 1, 1) := by decide +kernel
theorem d32_8 : decode jdk_42_method_66_code 8 = .ok (.instanceof 10, 3) := by decide +kernel
theorem d32_11 : decode jdk_42_method_66_code 11 = .ok (.ifCond .eq 43, 3) := by decide +kernel
theorem d32_14 : decode jdk_42_method_66_code 14 = .ok (.aload_n 1, 1) := by decide +kernel
theorem d32_15 : decode jdk_42_method_66_code 15 = .ok (.checkcast 10, 3) := by decide +kernel
theorem d32_18 : decode jdk_42_method_66_code 18 = .ok (.astore_n 2, 1) := by decide +kernel
theorem d32_19 : decode jdk_42_method_66_code 19 = .ok (.getstatic 38, 3) := by decide +kernel
theorem d32_22 : decode jdk_42_method_66_code 22 = .ok (.ifCond .eq 14, 3) := by decide +kernel
theorem d32_25 : decode jdk_42_method_66_code 25 = .ok (.aload_n 0, 1) := by decide +kernel
theorem d32_26 : decode jdk_42_method_66_code 26 = .ok (.getfield 15, 3) := by decide +kernel
theorem d32_29 : decode jdk_42_method_66_code 29 = .ok (.aload_n 2, 1) := by decide +kernel
theorem d32_30 : decode jdk_42_method_66_code 30 = .ok (.getfield 15, 3) := by decide +kernel
theorem d32_33 : decode jdk_42_method_66_code 33 = .ok (.if_icmp .ne 21, 3) := by decide +kernel
theorem d32_36 : decode jdk_42_method_66_code 36 = .ok (.aload_n 0, 1) := by decide +kernel
theorem d32_37 : decode jdk_42_method_66_code 37 = .ok (.getfield 9, 3) := by decide +kernel
theorem d32_40 : decode jdk_42_method_66_code 40 = .ok (.aload_n 2, 1) := by decide +kernel
theorem d32_41 : decode jdk_42_method_66_code 41 = .ok (.getfield 9, 3) := by decide +kernel
theorem d32_44 : decode jdk_42_method_66_code 44 = .ok (.invokestatic 541, 3) := by decide +kernel
theorem d32_47 : decode jdk_42_method_66_code 47 = .ok (.ifCond .eq 7, 3) := by decide +kernel
theorem d32_50 : decode jdk_42_method_66_code 50 = .ok (.iconst 1, 1) := by decide +kernel
theorem d32_51 : decode jdk_42_method_66_code 51 = .ok (.goto 4, 3) := by decide +kernel
theorem d32_54 : decode jdk_42_method_66_code 54 = .ok (.iconst 0, 1) := by decide +kernel
theorem d32_55 : decode jdk_42_method_66_code 55 = .ok (.ireturn, 1) := by decide +kernel
theorem pn_32 : plainName "java/lang/String" = true := by first | (simp [plainName, overriddenIn]; done) | decide +kernel
theorem pd_19 : parseMethodDescriptor "([B[B)Z" = some ⟨[(.array .byte), (.array .byte)], some .boolean⟩ := by decide +kernel
def Q32 (Z : State) (a1 a2 : Addr) (w0 : Int32) (v1 : Addr) (k1 : ClassId) (la ca : Int32) (v2 : Addr) (k2 : ClassId) (lb cb : Int32) (h0 : Heap) (n0 : Nat) (v : Option Value) (h : Heap) (L : List Loc) : Prop := v = some (.int (own_eq la ca lb cb)) ∧ Fr n0 L ∧ h = h0
theorem rm32 {l : Launch} {Z : State} {a0 : Array Value} (hw : HW Z a0) (a1 a2 : Addr) (w0 : Int32) (v1 : Addr) (k1 : ClassId) (la ca : Int32) (v2 : Addr) (k2 : ClassId) (lb cb : Int32) (h0 : Heap) (n0 : Nat) (Z0 : n0 ≤ h0.size) (P0 : sCS Z w0) (P1 : Old Z n0 h0) (P2 : eS Z h0 a1) (P3 : fC Z h0 a1) (P4 : fV Z h0 a1 v1) (P5 : Arv Z h0 v1 k1 .byte la (own_vs la ca) (.int (0 : Int32))) (P6 : eS Z h0 a2) (P7 : fC Z h0 a2) (P8 : fV Z h0 a2 v2) (P9 : Arv Z h0 v2 k2 .byte lb (own_vs lb cb) (.int (0 : Int32))) (P10 : a1 ≠ a2) (hw0 : ¬ w0 = 0) (hla : la = 0 ∨ la = 1) (hlb : lb = 0 ∨ lb = 1) (hca : own_ch ca) (hcb : own_ch cb) : own_M l Z ⟨"java/lang/String", "equals", "(Ljava/lang/Object;)Z"⟩ jdk_42_method_66_code 3 (some .boolean) (rmk 1 0 0 14) #[.ref a1, .ref a2] h0 (Q32 Z a1 a2 w0 v1 k1 la ca v2 k2 lb cb h0 n0) := by
 refine own_body rfl (plainFor_of_name pn_32) ?_
 intro p e s m below meth c s₁ hx hby hml hown hnm hlk hret X0 e0 hZ
 have N0 := Fr.nil n0
 show Go _ p e below s _ _ _ (s₁.setTop (mkF m 0 #[rv a1, rv a2, .unset] []))
 rcases hla with rfl | rfl <;> rcases hlb with rfl | rfl
 ·rw [own_vs0] at P5
  rw [own_vs0] at P9
  refine c_aloadN X0 hx hby d32_0 rfl rfl <| c_aloadN X0 hx hby d32_1 rfl rfl ?_
  refine go (fun _ => Jvm.RoadKit.acmp (g := (mkF m 2 #[rv a1, rv a2, .unset] [.ref a2, .ref a1])) X0 hx rfl rfl rfl (pc0 := 2) (pc' := 7) (same := false) rfl (hb hby d32_2) rfl (decide_eq_false fun qq => P10 (Value.ref.inj qq)) (by decide) (by decide)) ?_
  show Go _ p e below s _ _ _ (s₁.setTop (mkF m 7 #[rv a1, rv a2, .unset] []))
  refine c_aloadN X0 hx hby d32_7 rfl rfl ?_
  obtain ⟨T787, X787, e787, st787⟩ := instY X0 hx hZ hown (gw hw 226 rfl) e0 (Ins.self P6) (g := (mkF m 8 #[rv a1, rv a2, .unset] [.ref a2])) rfl rfl (hb hby d32_8)
  refine go st787 ?_
  show Go _ p e below s _ _ _ (T787.setTop (mkF m 11 #[rv a1, rv a2, .unset] [.int 1]))
  refine c_ifNo X787 hx hby d32_11 (by decide) <| c_aloadN X787 hx hby d32_14 rfl rfl ?_
  obtain ⟨T788, X788, e788, st788⟩ := castY X787 hx hZ hown (gw hw 226 rfl) e787 (Ins.self P6) (g := (mkF m 15 #[rv a1, rv a2, .unset] [.ref a2])) rfl rfl (hb hby d32_15)
  refine go st788 ?_
  show Go _ p e below s _ _ _ (T788.setTop (mkF m 18 #[rv a1, rv a2, .unset] [.ref a2]))
  refine c_astoreN X788 hx hby _ d32_18 rfl rfl <| c_shL #[rv a1, rv a2, rv a2] rfl <| c_gets X788 hx hby hZ hown (gw hw 113 rfl) Via.refl e788 (P0.ext P1.2) d32_19 fun T789 X789 e789 => ?_
  refine c_sh 22 [.int w0] rfl rfl <| c_ifNo X789 hx hby d32_22 ((if0 _ _).trans (feq hw0).1) <| c_aloadN X789 hx hby d32_25 rfl rfl <| c_getf X789 hx hby hZ hown (gw hw 51 rfl) Via.refl e789 P3 d32_26 fun T790 X790 e790 => ?_
  refine c_sh 29 [.int 0] rfl rfl <| c_aloadN X790 hx hby d32_29 rfl rfl <| c_getf X790 hx hby hZ hown (gw hw 51 rfl) Via.refl e790 P7 d32_30 fun T791 X791 e791 => ?_
  refine c_sh 33 [.int 0, .int 0] rfl rfl <| c_icmpNo X791 hx hby d32_33 (teq (rfl : (0 : Int32) = (0 : Int32))).2 <| c_aloadN X791 hx hby d32_36 rfl rfl <| c_getf X791 hx hby hZ hown (gw hw 50 rfl) Via.refl e791 P4 d32_37 fun T792 X792 e792 => ?_
  refine c_sh 40 [.ref v1] rfl rfl <| c_aloadN X792 hx hby d32_40 rfl rfl <| c_getf X792 hx hby hZ hown (gw hw 50 rfl) Via.refl e792 P8 d32_41 fun T793 X793 e793 => ?_
  refine c_sh 44 [.ref v2, .ref v1] rfl rfl <| c_callS X793 hx hby hZ hown hml (gw hw 227 rfl) (gw hw 228 rfl) (gw hw 229 rfl) (gw hw 230 rfl) e793 (rmSE00t hw v1 v2 k1 k2 h0 n0 Z0 P5 P9) pd_19 rfl d32_44 [] rfl 0 (by decide) rfl rfl fun o794 T794 L794 X794 hQ794 => ?_
  obtain ⟨rfl, N794q, e794⟩ := hQ794
  have N794 := Fr.app N0 N794q
  refine c_sh 47 [.int 1] rfl rfl <| c_ifNo X794 hx hby d32_47 (by decide) <| c_iconst X794 hx hby 1 d32_50 rfl <| c_goto X794 hx hby 55 d32_51 (by decide) ?_
  refine c_retI X794 hx hby hlk hret d32_55 rfl (by simp) (by decide) e794 ⟨(congrArg (fun z => some (Value.int z)) (own_eq00 _ _)), N794, rfl⟩
 ·rw [own_vs0] at P5
  rw [own_vs1] at P9
  refine c_aloadN X0 hx hby d32_0 rfl rfl <| c_aloadN X0 hx hby d32_1 rfl rfl ?_
  refine go (fun _ => Jvm.RoadKit.acmp (g := (mkF m 2 #[rv a1, rv a2, .unset] [.ref a2, .ref a1])) X0 hx rfl rfl rfl (pc0 := 2) (pc' := 7) (same := false) rfl (hb hby d32_2) rfl (decide_eq_false fun qq => P10 (Value.ref.inj qq)) (by decide) (by decide)) ?_
  show Go _ p e below s _ _ _ (s₁.setTop (mkF m 7 #[rv a1, rv a2, .unset] []))
  refine c_aloadN X0 hx hby d32_7 rfl rfl ?_
  obtain ⟨T795, X795, e795, st795⟩ := instY X0 hx hZ hown (gw hw 226 rfl) e0 (Ins.self P6) (g := (mkF m 8 #[rv a1, rv a2, .unset] [.ref a2])) rfl rfl (hb hby d32_8)
  refine go st795 ?_
  show Go _ p e below s _ _ _ (T795.setTop (mkF m 11 #[rv a1, rv a2, .unset] [.int 1]))
  refine c_ifNo X795 hx hby d32_11 (by decide) <| c_aloadN X795 hx hby d32_14 rfl rfl ?_
  obtain ⟨T796, X796, e796, st796⟩ := castY X795 hx hZ hown (gw hw 226 rfl) e795 (Ins.self P6) (g := (mkF m 15 #[rv a1, rv a2, .unset] [.ref a2])) rfl rfl (hb hby d32_15)
  refine go st796 ?_
  show Go _ p e below s _ _ _ (T796.setTop (mkF m 18 #[rv a1, rv a2, .unset] [.ref a2]))
  refine c_astoreN X796 hx hby _ d32_18 rfl rfl <| c_shL #[rv a1, rv a2, rv a2] rfl <| c_gets X796 hx hby hZ hown (gw hw 113 rfl) Via.refl e796 (P0.ext P1.2) d32_19 fun T797 X797 e797 => ?_
  refine c_sh 22 [.int w0] rfl rfl <| c_ifNo X797 hx hby d32_22 ((if0 _ _).trans (feq hw0).1) <| c_aloadN X797 hx hby d32_25 rfl rfl <| c_getf X797 hx hby hZ hown (gw hw 51 rfl) Via.refl e797 P3 d32_26 fun T798 X798 e798 => ?_
  refine c_sh 29 [.int 0] rfl rfl <| c_aloadN X798 hx hby d32_29 rfl rfl <| c_getf X798 hx hby hZ hown (gw hw 51 rfl) Via.refl e798 P7 d32_30 fun T799 X799 e799 => ?_
  refine c_sh 33 [.int 0, .int 0] rfl rfl <| c_icmpNo X799 hx hby d32_33 (teq (rfl : (0 : Int32) = (0 : Int32))).2 <| c_aloadN X799 hx hby d32_36 rfl rfl <| c_getf X799 hx hby hZ hown (gw hw 50 rfl) Via.refl e799 P4 d32_37 fun T800 X800 e800 => ?_
  refine c_sh 40 [.ref v1] rfl rfl <| c_aloadN X800 hx hby d32_40 rfl rfl <| c_getf X800 hx hby hZ hown (gw hw 50 rfl) Via.refl e800 P8 d32_41 fun T801 X801 e801 => ?_
  refine c_sh 44 [.ref v2, .ref v1] rfl rfl <| c_callS X801 hx hby hZ hown hml (gw hw 227 rfl) (gw hw 228 rfl) (gw hw 229 rfl) (gw hw 230 rfl) e801 (rmSE01f hw v1 v2 k1 k2 (cb.toInt8.toInt32) h0 n0 Z0 P5 P9) pd_19 rfl d32_44 [] rfl 0 (by decide) rfl rfl fun o802 T802 L802 X802 hQ802 => ?_
  obtain ⟨rfl, N802q, e802⟩ := hQ802
  have N802 := Fr.app N0 N802q
  refine c_sh 47 [.int 0] rfl rfl <| c_ifYes X802 hx hby 54 d32_47 ((if0 _ _).trans (teq (rfl : (0 : Int32) = (0 : Int32))).1) (by decide) <| c_iconst X802 hx hby 0 d32_54 rfl ?_
  refine c_retI X802 hx hby hlk hret d32_55 rfl (by simp) (by decide) e802 ⟨(congrArg (fun z => some (Value.int z)) (own_eq01 _ _)), N802, rfl⟩
 ·rw [own_vs1] at P5
  rw [own_vs0] at P9
  refine c_aloadN X0 hx hby d32_0 rfl rfl <| c_aloadN X0 hx hby d32_1 rfl rfl ?_
  refine go (fun _ => Jvm.RoadKit.acmp (g := (mkF m 2 #[rv a1, rv a2, .unset] [.ref a2, .ref a1])) X0 hx rfl rfl rfl (pc0 := 2) (pc' := 7) (same := false) rfl (hb hby d32_2) rfl (decide_eq_false fun qq => P10 (Value.ref.inj qq)) (by decide) (by decide)) ?_
  show Go _ p e below s _ _ _ (s₁.setTop (mkF m 7 #[rv a1, rv a2, .unset] []))
  refine c_aloadN X0 hx hby d32_7 rfl rfl ?_
  obtain ⟨T803, X803, e803, st803⟩ := instY X0 hx hZ hown (gw hw 226 rfl) e0 (Ins.self P6) (g := (mkF m 8 #[rv a1, rv a2, .unset] [.ref a2])) rfl rfl (hb hby d32_8)
  refine go st803 ?_
  show Go _ p e below s _ _ _ (T803.setTop (mkF m 11 #[rv a1, rv a2, .unset] [.int 1]))
  refine c_ifNo X803 hx hby d32_11 (by decide) <| c_aloadN X803 hx hby d32_14 rfl rfl ?_
  obtain ⟨T804, X804, e804, st804⟩ := castY X803 hx hZ hown (gw hw 226 rfl) e803 (Ins.self P6) (g := (mkF m 15 #[rv a1, rv a2, .unset] [.ref a2])) rfl rfl (hb hby d32_15)
  refine go st804 ?_
  show Go _ p e below s _ _ _ (T804.setTop (mkF m 18 #[rv a1, rv a2, .unset] [.ref a2]))
  refine c_astoreN X804 hx hby _ d32_18 rfl rfl <| c_shL #[rv a1, rv a2, rv a2] rfl <| c_gets X804 hx hby hZ hown (gw hw 113 rfl) Via.refl e804 (P0.ext P1.2) d32_19 fun T805 X805 e805 => ?_
  refine c_sh 22 [.int w0] rfl rfl <| c_ifNo X805 hx hby d32_22 ((if0 _ _).trans (feq hw0).1) <| c_aloadN X805 hx hby d32_25 rfl rfl <| c_getf X805 hx hby hZ hown (gw hw 51 rfl) Via.refl e805 P3 d32_26 fun T806 X806 e806 => ?_
  refine c_sh 29 [.int 0] rfl rfl <| c_aloadN X806 hx hby d32_29 rfl rfl <| c_getf X806 hx hby hZ hown (gw hw 51 rfl) Via.refl e806 P7 d32_30 fun T807 X807 e807 => ?_
  refine c_sh 33 [.int 0, .int 0] rfl rfl <| c_icmpNo X807 hx hby d32_33 (teq (rfl : (0 : Int32) = (0 : Int32))).2 <| c_aloadN X807 hx hby d32_36 rfl rfl <| c_getf X807 hx hby hZ hown (gw hw 50 rfl) Via.refl e807 P4 d32_37 fun T808 X808 e808 => ?_
  refine c_sh 40 [.ref v1] rfl rfl <| c_aloadN X808 hx hby d32_40 rfl rfl <| c_getf X808 hx hby hZ hown (gw hw 50 rfl) Via.refl e808 P8 d32_41 fun T809 X809 e809 => ?_
  refine c_sh 44 [.ref v2, .ref v1] rfl rfl <| c_callS X809 hx hby hZ hown hml (gw hw 227 rfl) (gw hw 228 rfl) (gw hw 229 rfl) (gw hw 230 rfl) e809 (rmSE10f hw v1 v2 k1 k2 (ca.toInt8.toInt32) h0 n0 Z0 P5 P9) pd_19 rfl d32_44 [] rfl 0 (by decide) rfl rfl fun o810 T810 L810 X810 hQ810 => ?_
  obtain ⟨rfl, N810q, e810⟩ := hQ810
  have N810 := Fr.app N0 N810q
  refine c_sh 47 [.int 0] rfl rfl <| c_ifYes X810 hx hby 54 d32_47 ((if0 _ _).trans (teq (rfl : (0 : Int32) = (0 : Int32))).1) (by decide) <| c_iconst X810 hx hby 0 d32_54 rfl ?_
  refine c_retI X810 hx hby hlk hret d32_55 rfl (by simp) (by decide) e810 ⟨(congrArg (fun z => some (Value.int z)) (own_eq10 _ _)), N810, rfl⟩
 ·by_cases hyy : ca.toInt8.toInt32 = cb.toInt8.toInt32
  ·rw [own_vs1] at P5
   rw [own_vs1] at P9
   refine c_aloadN X0 hx hby d32_0 rfl rfl <| c_aloadN X0 hx hby d32_1 rfl rfl ?_
   refine go (fun _ => Jvm.RoadKit.acmp (g := (mkF m 2 #[rv a1, rv a2, .unset] [.ref a2, .ref a1])) X0 hx rfl rfl rfl (pc0 := 2) (pc' := 7) (same := false) rfl (hb hby d32_2) rfl (decide_eq_false fun qq => P10 (Value.ref.inj qq)) (by decide) (by decide)) ?_
   show Go _ p e below s _ _ _ (s₁.setTop (mkF m 7 #[rv a1, rv a2, .unset] []))
   refine c_aloadN X0 hx hby d32_7 rfl rfl ?_
   obtain ⟨T811, X811, e811, st811⟩ := instY X0 hx hZ hown (gw hw 226 rfl) e0 (Ins.self P6) (g := (mkF m 8 #[rv a1, rv a2, .unset] [.ref a2])) rfl rfl (hb hby d32_8)
   refine go st811 ?_
   show Go _ p e below s _ _ _ (T811.setTop (mkF m 11 #[rv a1, rv a2, .unset] [.int 1]))
   refine c_ifNo X811 hx hby d32_11 (by decide) <| c_aloadN X811 hx hby d32_14 rfl rfl ?_
   obtain ⟨T812, X812, e812, st812⟩ := castY X811 hx hZ hown (gw hw 226 rfl) e811 (Ins.self P6) (g := (mkF m 15 #[rv a1, rv a2, .unset] [.ref a2])) rfl rfl (hb hby d32_15)
   refine go st812 ?_
   show Go _ p e below s _ _ _ (T812.setTop (mkF m 18 #[rv a1, rv a2, .unset] [.ref a2]))
   refine c_astoreN X812 hx hby _ d32_18 rfl rfl <| c_shL #[rv a1, rv a2, rv a2] rfl <| c_gets X812 hx hby hZ hown (gw hw 113 rfl) Via.refl e812 (P0.ext P1.2) d32_19 fun T813 X813 e813 => ?_
   refine c_sh 22 [.int w0] rfl rfl <| c_ifNo X813 hx hby d32_22 ((if0 _ _).trans (feq hw0).1) <| c_aloadN X813 hx hby d32_25 rfl rfl <| c_getf X813 hx hby hZ hown (gw hw 51 rfl) Via.refl e813 P3 d32_26 fun T814 X814 e814 => ?_
   refine c_sh 29 [.int 0] rfl rfl <| c_aloadN X814 hx hby d32_29 rfl rfl <| c_getf X814 hx hby hZ hown (gw hw 51 rfl) Via.refl e814 P7 d32_30 fun T815 X815 e815 => ?_
   refine c_sh 33 [.int 0, .int 0] rfl rfl <| c_icmpNo X815 hx hby d32_33 (teq (rfl : (0 : Int32) = (0 : Int32))).2 <| c_aloadN X815 hx hby d32_36 rfl rfl <| c_getf X815 hx hby hZ hown (gw hw 50 rfl) Via.refl e815 P4 d32_37 fun T816 X816 e816 => ?_
   refine c_sh 40 [.ref v1] rfl rfl <| c_aloadN X816 hx hby d32_40 rfl rfl <| c_getf X816 hx hby hZ hown (gw hw 50 rfl) Via.refl e816 P8 d32_41 fun T817 X817 e817 => ?_
   refine c_sh 44 [.ref v2, .ref v1] rfl rfl <| c_callS X817 hx hby hZ hown hml (gw hw 227 rfl) (gw hw 228 rfl) (gw hw 229 rfl) (gw hw 230 rfl) e817 (rmSE11t hw v1 v2 k1 k2 (ca.toInt8.toInt32) (cb.toInt8.toInt32) h0 n0 Z0 P5 P9 hyy) pd_19 rfl d32_44 [] rfl 0 (by decide) rfl rfl fun o818 T818 L818 X818 hQ818 => ?_
   obtain ⟨rfl, N818q, e818⟩ := hQ818
   have N818 := Fr.app N0 N818q
   refine c_sh 47 [.int 1] rfl rfl <| c_ifNo X818 hx hby d32_47 (by decide) <| c_iconst X818 hx hby 1 d32_50 rfl <| c_goto X818 hx hby 55 d32_51 (by decide) ?_
   refine c_retI X818 hx hby hlk hret d32_55 rfl (by simp) (by decide) e818 ⟨(congrArg (fun z => some (Value.int z)) (own_eqT ((own_b8 hca hcb).mp hyy))), N818, rfl⟩
  ·rw [own_vs1] at P5
   rw [own_vs1] at P9
   refine c_aloadN X0 hx hby d32_0 rfl rfl <| c_aloadN X0 hx hby d32_1 rfl rfl ?_
   refine go (fun _ => Jvm.RoadKit.acmp (g := (mkF m 2 #[rv a1, rv a2, .unset] [.ref a2, .ref a1])) X0 hx rfl rfl rfl (pc0 := 2) (pc' := 7) (same := false) rfl (hb hby d32_2) rfl (decide_eq_false fun qq => P10 (Value.ref.inj qq)) (by decide) (by decide)) ?_
   show Go _ p e below s _ _ _ (s₁.setTop (mkF m 7 #[rv a1, rv a2, .unset] []))
   refine c_aloadN X0 hx hby d32_7 rfl rfl ?_
   obtain ⟨T819, X819, e819, st819⟩ := instY X0 hx hZ hown (gw hw 226 rfl) e0 (Ins.self P6) (g := (mkF m 8 #[rv a1, rv a2, .unset] [.ref a2])) rfl rfl (hb hby d32_8)
   refine go st819 ?_
   show Go _ p e below s _ _ _ (T819.setTop (mkF m 11 #[rv a1, rv a2, .unset] [.int 1]))
   refine c_ifNo X819 hx hby d32_11 (by decide) <| c_aloadN X819 hx hby d32_14 rfl rfl ?_
   obtain ⟨T820, X820, e820, st820⟩ := castY X819 hx hZ hown (gw hw 226 rfl) e819 (Ins.self P6) (g := (mkF m 15 #[rv a1, rv a2, .unset] [.ref a2])) rfl rfl (hb hby d32_15)
   refine go st820 ?_
   show Go _ p e below s _ _ _ (T820.setTop (mkF m 18 #[rv a1, rv a2, .unset] [.ref a2]))
   refine c_astoreN X820 hx hby _ d32_18 rfl rfl <| c_shL #[rv a1, rv a2, rv a2] rfl <| c_gets X820 hx hby hZ hown (gw hw 113 rfl) Via.refl e820 (P0.ext P1.2) d32_19 fun T821 X821 e821 => ?_
   refine c_sh 22 [.int w0] rfl rfl <| c_ifNo X821 hx hby d32_22 ((if0 _ _).trans (feq hw0).1) <| c_aloadN X821 hx hby d32_25 rfl rfl <| c_getf X821 hx hby hZ hown (gw hw 51 rfl) Via.refl e821 P3 d32_26 fun T822 X822 e822 => ?_
   refine c_sh 29 [.int 0] rfl rfl <| c_aloadN X822 hx hby d32_29 rfl rfl <| c_getf X822 hx hby hZ hown (gw hw 51 rfl) Via.refl e822 P7 d32_30 fun T823 X823 e823 => ?_
   refine c_sh 33 [.int 0, .int 0] rfl rfl <| c_icmpNo X823 hx hby d32_33 (teq (rfl : (0 : Int32) = (0 : Int32))).2 <| c_aloadN X823 hx hby d32_36 rfl rfl <| c_getf X823 hx hby hZ hown (gw hw 50 rfl) Via.refl e823 P4 d32_37 fun T824 X824 e824 => ?_
   refine c_sh 40 [.ref v1] rfl rfl <| c_aloadN X824 hx hby d32_40 rfl rfl <| c_getf X824 hx hby hZ hown (gw hw 50 rfl) Via.refl e824 P8 d32_41 fun T825 X825 e825 => ?_
   refine c_sh 44 [.ref v2, .ref v1] rfl rfl <| c_callS X825 hx hby hZ hown hml (gw hw 227 rfl) (gw hw 228 rfl) (gw hw 229 rfl) (gw hw 230 rfl) e825 (rmSE11f hw v1 v2 k1 k2 (ca.toInt8.toInt32) (cb.toInt8.toInt32) h0 n0 Z0 P5 P9 hyy) pd_19 rfl d32_44 [] rfl 0 (by decide) rfl rfl fun o826 T826 L826 X826 hQ826 => ?_
   obtain ⟨rfl, N826q, e826⟩ := hQ826
   have N826 := Fr.app N0 N826q
   refine c_sh 47 [.int 0] rfl rfl <| c_ifYes X826 hx hby 54 d32_47 ((if0 _ _).trans (teq (rfl : (0 : Int32) = (0 : Int32))).1) (by decide) <| c_iconst X826 hx hby 0 d32_54 rfl ?_
   refine c_retI X826 hx hby hlk hret d32_55 rfl (by simp) (by decide) e826 ⟨(congrArg (fun z => some (Value.int z)) (own_eqF (fun qq => hyy ((own_b8 hca hcb).mpr qq)))), N826, rfl⟩
theorem d5_0 : decode method_3_code 0 = .ok (.iload_n 0, 1) := by decide +kernel
theorem d5_1 : decode method_3_code 1 = .ok (.ifCond .ne 14, 3) := by decide +kernel
theorem d5_4 : decode method_3_code 4 = .ok (.new 20, 3) := by decide +kernel
theorem d5_7 : decode method_3_code 7 = .ok (.dup, 1) := by decide +kernel
theorem d5_8 : decode method_3_code 8 = .ok (.iconst 0, 1) := by decide +kernel
theorem d5_9 : decode method_3_code 9 = .ok (.newarray .char, 2) := by decide +kernel
theorem d5_11 : decode method_3_code 11 = .ok (.invokespecial 43, 3) := by decide +kernel
theorem d5_14 : decode method_3_code 14 = .ok (.areturn, 1) := by decide +kernel
theorem d5_15 : decode method_3_code 15 = .ok (.new 20, 3) := by decide +kernel
theorem d5_18 : decode method_3_code 18 = .ok (.dup, 1) := by decide +kernel
theorem d5_19 : decode method_3_code 19 = .ok (.iconst 1, 1) := by decide +kernel
theorem d5_20 : decode method_3_code 20 = .ok (.newarray .char, 2) := by decide +kernel
theorem d5_22 : decode method_3_code 22 = .ok (.dup, 1) := by decide +kernel
theorem d5_23 : decode method_3_code 23 = .ok (.iconst 0, 1) := by decide +kernel
theorem d5_24 : decode method_3_code 24 = .ok (.iload_n 1, 1) := by decide +kernel
theorem d5_25 : decode method_3_code 25 = .ok (.castore, 1) := by decide +kernel
theorem d5_26 : decode method_3_code 26 = .ok (.invokespecial 43, 3) := by decide +kernel
theorem d5_29 : decode method_3_code 29 = .ok (.areturn, 1) := by decide +kernel
theorem pn_5 : plainName "com/example/raccordo/raccordo/flow/XmlElementSameAttributesPinLaw" = true := by first | (simp [plainName, overriddenIn]; done) | decide +kernel
theorem pd_20 : parseMethodDescriptor "([C)V" = some ⟨[(.array .char)], none⟩ := by decide +kernel
def QMK (Z : State) (p1 p2 w0 : Int32) (h0 : Heap) (n0 : Nat) (v : Option Value) (h : Heap) (L : List Loc) : Prop := ∃ (b : Addr), ∃ (bb : Addr), ∃ (kb : ClassId), v = some (.ref b) ∧ Fr n0 L ∧ h0.size ≤ b ∧ n0 ≤ b ∧ Keep h0 h [] ∧ eS Z h b ∧ fC Z h b ∧ fV Z h b bb ∧ Arv Z h bb kb .byte p1 (own_vs p1 p2) (.int (0 : Int32))
theorem rmMK {l : Launch} {Z : State} {a0 : Array Value} (hw : HW Z a0) (p1 p2 w0 : Int32) (h0 : Heap) (n0 : Nat) (Z0 : n0 ≤ h0.size) (P0 : sCS Z w0) (P1 : Old Z n0 h0) (hw0 : ¬ w0 = 0) (hl : p1 = 0 ∨ p1 = 1) (hc : own_ch p2) : own_MH l Z ⟨"com/example/raccordo/raccordo/flow/XmlElementSameAttributesPinLaw", "mk", "(IC)Ljava/lang/String;"⟩ method_3_code 2 (some (.object "java/lang/String")) (rmk 4 6 12 66) #[.int p1, .int p2] h0 (QMK Z p1 p2 w0 h0 n0) := by
 refine own_bodyH rfl (plainFor_of_name pn_5) ?_
 intro p e s m below meth c s₁ hx hby hml hown hnm hlk hret X0 e0 hZ hh ch0 hS0
 have N0 := Fr.nil n0
 show Go _ p e below s _ _ _ (s₁.setTop (mkF m 0 #[iv p1, iv p2] []))
 rcases hl with rfl | rfl
 ·refine c_iloadN X0 hx hby d5_0 rfl <| c_ifNo X0 hx hby d5_1 ((if0 _ _).trans (teq (rfl : (0 : Int32) = (0 : Int32))).2) <| c_new X0 hx hby hZ hown (gw hw 27 rfl) (gw hw 33 rfl) (gw hw 34 rfl) e0 d5_4 (by decide) fun T846 h846 b846 g846 X846 e846 E846 A846 D846 => ?_
  have G_b846 := Nat.le_trans Z0 (Nat.le_of_eq g846.symm)
  have KK846 := (Keep.refl h0 []).ext E846
  have ZN846 := Nat.le_trans Z0 E846.1
  have HK846 : 0 ≤ h846.size := Nat.le_trans (Nat.zero_le _) E846.1
  have OL846 := P1.ext E846
  have sf846_b846 := Safe.ext E846 ch0.1 (Safe.new (Nat.le_of_eq g846.symm))
  have ch846 := ch0.trans (CHr.ext E846 ch0.1)
  refine c_sh 7 [.ref b846] rfl rfl <| c_dup X846 hx hby d5_7 rfl <| c_iconst X846 hx hby 0 d5_8 rfl <| c_newP X846 hx hby hZ (gw hw 35 rfl) e846 d5_9 (by decide) 0 (by decide) (by decide) "[C" (by first | rfl | decide) fun T847 h847 k847 b847 g847 X847 e847 E847 A847 AE847 => ?_
  have G_b847 := Nat.le_trans ZN846 (Nat.le_of_eq g847.symm)
  have KK847 := KK846.ext E847
  have ZN847 := Nat.le_trans ZN846 E847.1
  have HK847 := Nat.le_trans HK846 E847.1
  have OL847 := OL846.ext E847
  have sf847_b846 := Safe.ext E847 ch846.1 sf846_b846
  have ch847 := ch846.trans (CHr.ext E847 ch846.1)
  have V847 : Arv Z h847 b847 k847 .char (0 : Int32) [] (.int (0 : Int32)) := (Arv.new A847 (by decide)).pad (pad_rep [] (.int (0 : Int32)) 0)
  refine c_sh 11 [.ref b847, .ref b846, .ref b846] rfl rfl ?_
  have cc849 := A846.ext E847
  have cc850 := (show Fld Z h846 b846 "java/lang/String" "value" "[B" .null from D846 (Or.inr (gw hw 46 rfl)) (ty := (.array .byte)) (by decide)).ext E847
  have cc851 := (show fC Z h846 b846 from D846 (Or.inr (gw hw 47 rfl)) (ty := .byte) (by decide)).ext E847
  have ne852 : b846 ≠ b847 := (Nat.ne_of_lt (Nat.lt_of_lt_of_le A846.lt (Nat.le_of_eq g847.symm)))
  refine c_initH X847 hx hby hZ hown hml (gw hw 36 rfl) (gw hw 37 rfl) (gw hw 38 rfl) (gw hw 34 rfl) rfl e847 (own_EW hw) ch847 hS0 HK847 (rmSJ0 hw b846 b847 (.int (0 : Int32)) k847 h847 n0 ZN847 cc849 cc850 cc851 G_b846 V847 ne852) pd_20 rfl d5_11 [.ref b846] rfl 1 (by decide) rfl rfl fun o848 T848 L848 X848 hS848 hZ hown hR848 ch848 hQ848 => ?_
  have sf848_b846 := CHr.safe hR848 cc849.lt sf847_b846
  obtain ⟨b848, kb848, rfl, N848q, K848, u848_1, u848_2, u848_3⟩ := hQ848
  have N848 := Fr.app N0 N848q
  have KK848 := KK847.trans K848 (allS (P := fun x => x ∈ [] ∨ h0.size ≤ x) (Or.inr (Nat.le_trans (Keep.refl h0 []).1 (Nat.le_of_eq g846.symm))) all0)
  have ZN848 := Nat.le_trans ZN847 K848.1
  have OL848 := OL847.keep K848 (allS G_b846 all0)
  refine c_sh 14 [.ref b846] rfl rfl ?_
  have vz853 : Arv Z T848.heap b848 kb848 .byte (0 : Int32) (own_vs (0 : Int32) p2) (.int (0 : Int32)) := by rw [own_vs0]; exact u848_3
  have cc854 := cc849.keep K848
  exact c_retAH X848 hx hby hZ hlk hret d5_14 rfl ⟨rfl, rfl⟩ (by decide) rfl hh (own_EW hw) ch848 hS848 (Nat.le_refl _) ⟨b846, b848, kb848, rfl, N848, (Nat.le_trans (Keep.refl h0 []).1 (Nat.le_of_eq g846.symm)), G_b846, KK848, cc854, u848_2, u848_1, vz853⟩
 ·refine c_iloadN X0 hx hby d5_0 rfl <| c_ifYes X0 hx hby 15 d5_1 (by decide) (by decide) <| c_new X0 hx hby hZ hown (gw hw 27 rfl) (gw hw 33 rfl) (gw hw 34 rfl) e0 d5_15 (by decide) fun T855 h855 b855 g855 X855 e855 E855 A855 D855 => ?_
  have G_b855 := Nat.le_trans Z0 (Nat.le_of_eq g855.symm)
  have KK855 := (Keep.refl h0 []).ext E855
  have ZN855 := Nat.le_trans Z0 E855.1
  have HK855 : 0 ≤ h855.size := Nat.le_trans (Nat.zero_le _) E855.1
  have OL855 := P1.ext E855
  have sf855_b855 := Safe.ext E855 ch0.1 (Safe.new (Nat.le_of_eq g855.symm))
  have ch855 := ch0.trans (CHr.ext E855 ch0.1)
  refine c_sh 18 [.ref b855] rfl rfl <| c_dup X855 hx hby d5_18 rfl <| c_iconst X855 hx hby 1 d5_19 rfl <| c_newP X855 hx hby hZ (gw hw 35 rfl) e855 d5_20 (by decide) 1 (by decide) (by decide) "[C" (by first | rfl | decide) fun T856 h856 k856 b856 g856 X856 e856 E856 A856 AE856 => ?_
  have G_b856 := Nat.le_trans ZN855 (Nat.le_of_eq g856.symm)
  have KK856 := KK855.ext E856
  have ZN856 := Nat.le_trans ZN855 E856.1
  have HK856 := Nat.le_trans HK855 E856.1
  have OL856 := OL855.ext E856
  have sf856_b855 := Safe.ext E856 ch855.1 sf855_b855
  have ch856 := ch855.trans (CHr.ext E856 ch855.1)
  have V856 : Arv Z h856 b856 k856 .char (1 : Int32) [(.int (0 : Int32))] (.int (0 : Int32)) := (Arv.new A856 (by decide)).pad (pad_rep [] (.int (0 : Int32)) 1)
  refine c_sh 22 [.ref b856, .ref b855, .ref b855] rfl rfl <| c_dup X856 hx hby d5_22 rfl <| c_iconst X856 hx hby 0 d5_23 rfl <| c_iloadN X856 hx hby d5_24 rfl <| c_cst X856 hx hby hZ e856 V856 (by decide) 0 rfl (Nat.le_of_ble_eq_true rfl) d5_25 fun T857 h857 X857 e857 W857 V857 => ?_
  rw [own_nc hc] at V857
  have V857 : Arv Z h857 b856 k856 .char (1 : Int32) [(.int p2)] (.int (0 : Int32)) := V857
  have ne858 : b855 ≠ b856 := (Nat.ne_of_lt (Nat.lt_of_lt_of_le A855.lt (Nat.le_of_eq g856.symm)))
  have KK857 := KK856.wr W857 (Or.inr (Nat.le_trans KK855.1 (Nat.le_of_eq g856.symm)))
  have ZN857 := Nat.le_trans ZN856 (Keep.of_wr W857).1
  have HK857 : 0 ≤ h857.size := Nat.le_trans HK856 (Keep.of_wr W857).1
  have NN857 := Fr.snoc X857 N0 G_b856
  have OL857 := OL856.wr W857 G_b856
  have sf857_b855 := Safe.wr W857 (Safe.exa hZ.alike AE856 (by decide) (by decide)) ch856.1 sf856_b855
  have ch857 := ch856.trans (CHr.wr W857 (Safe.exa hZ.alike AE856 (by decide) (by decide)) ch856.1)
  refine c_sh 26 [.ref b856, .ref b855, .ref b855] rfl rfl ?_
  have cc860 := (A855.ext E856).wr W857
  have cc861 := ((show Fld Z h855 b855 "java/lang/String" "value" "[B" .null from D855 (Or.inr (gw hw 46 rfl)) (ty := (.array .byte)) (by decide)).ext E856).other W857 (Or.inl ne858)
  have cc862 := ((show fC Z h855 b855 from D855 (Or.inr (gw hw 47 rfl)) (ty := .byte) (by decide)).ext E856).other W857 (Or.inl ne858)
  refine c_init X857 hx hby hZ hown hml (gw hw 36 rfl) (gw hw 37 rfl) (gw hw 38 rfl) (gw hw 34 rfl) rfl e857 (rmSJ1 hw b855 b856 w0 .null (.int (0 : Int32)) k856 p2 h857 n0 ZN857 P0 OL857 cc860 cc861 cc862 G_b855 V857 ne858 hw0 hc) pd_20 rfl d5_26 [.ref b855] rfl 1 (by decide) rfl rfl fun o859 T859 L859 X859 hQ859 => ?_
  obtain ⟨b859, kb859, rfl, N859q, K859, u859_1, u859_2, u859_3, u859_4, u859_5, u859_6⟩ := hQ859
  have N859 := Fr.app NN857 N859q
  have G_b859 := Nat.le_trans ZN857 u859_1
  have KK859 := KK857.trans K859 (allS (P := fun x => x ∈ [] ∨ h0.size ≤ x) (Or.inr (Nat.le_trans (Keep.refl h0 []).1 (Nat.le_of_eq g855.symm))) all0)
  have ZN859 := Nat.le_trans ZN857 K859.1
  have HK859 : 0 ≤ T859.heap.size := Nat.le_trans HK857 K859.1
  have sf859_b855 := Safe.keep K859 (allS sf857_b855 all0) ch857.1 sf857_b855
  have ch859 := ch857.trans (CHr.keep K859 (allS sf857_b855 all0) ch857.1)
  have OL859 := OL857.keep K859 (allS G_b855 all0)
  refine c_sh 29 [.ref b855] rfl rfl ?_
  have vz863 : Arv Z T859.heap b859 kb859 .byte (1 : Int32) (own_vs (1 : Int32) p2) (.int (0 : Int32)) := by rw [own_vs1]; exact u859_4
  have cc864 := cc860.keep K859
  exact c_retAH X859 hx hby hZ hlk hret d5_29 rfl ⟨rfl, rfl⟩ (by decide) rfl hh (own_EW hw) ch859 hS0 HK859 ⟨b855, b859, kb859, rfl, N859, (Nat.le_trans (Keep.refl h0 []).1 (Nat.le_of_eq g855.symm)), G_b855, KK859, cc864, u859_6, u859_5, vz863⟩
theorem d34_0 : decode method_4_code 0 = .ok (.iload_n 0, 1) := by decide +kernel
theorem d34_1 : decode method_4_code 1 = .ok (.ifCond .ne 5, 3) := by decide +kernel
theorem d34_4 : decode method_4_code 4 = .ok (.iload_n 1, 1) := by decide +kernel
theorem d34_5 : decode method_4_code 5 = .ok (.ireturn, 1) := by decide +kernel
theorem d34_6 : decode method_4_code 6 = .ok (.iload_n 0, 1) := by decide +kernel
theorem d34_7 : decode method_4_code 7 = .ok (.iconst 1, 1) := by decide +kernel
theorem d34_8 : decode method_4_code 8 = .ok (.if_icmp .ne 5, 3) := by decide +kernel
theorem d34_11 : decode method_4_code 11 = .ok (.iload_n 2, 1) := by decide +kernel
theorem d34_12 : decode method_4_code 12 = .ok (.ireturn, 1) := by decide +kernel
theorem d34_13 : decode method_4_code 13 = .ok (.iload_n 3, 1) := by decide +kernel
theorem d34_14 : decode method_4_code 14 = .ok (.ireturn, 1) := by decide +kernel
theorem pn_34 : plainName "com/example/raccordo/raccordo/flow/XmlElementSameAttributesPinLaw" = true := by first | (simp [plainName, overriddenIn]; done) | decide +kernel
def Q34 (Z : State) (p1 p2 p3 p4 : Int32) (h0 : Heap) (n0 : Nat) (v : Option Value) (h : Heap) (L : List Loc) : Prop := v = some (.int (own_pk p1 p2 p3 p4)) ∧ Fr n0 L ∧ h = h0
theorem rm34 {l : Launch} {Z : State} {a0 : Array Value} (hw : HW Z a0) (p1 p2 p3 p4 : Int32) (h0 : Heap) (n0 : Nat) (Z0 : n0 ≤ h0.size) (hb2 : p2 = 0 ∨ p2 = 1) (hb3 : p3 = 0 ∨ p3 = 1) (hb4 : p4 = 0 ∨ p4 = 1) : own_M l Z ⟨"com/example/raccordo/raccordo/flow/XmlElementSameAttributesPinLaw", "pick", "(IZZZ)Z"⟩ method_4_code 4 (some .boolean) (rmk 0 0 0 0) #[.int p1, .int p2, .int p3, .int p4] h0 (Q34 Z p1 p2 p3 p4 h0 n0) := by
 refine own_body rfl (plainFor_of_name pn_34) ?_
 intro p e s m below meth c s₁ hx hby hml hown hnm hlk hret X0 e0 hZ
 have N0 := Fr.nil n0
 show Go _ p e below s _ _ _ (s₁.setTop (mkF m 0 #[iv p1, iv p2, iv p3, iv p4] []))
 refine c_iloadN X0 hx hby d34_0 rfl ?_
 by_cases hc1_867 : p1 = (0 : Int32)
 ·refine c_ifNo X0 hx hby d34_1 ((if0 _ _).trans (teq hc1_867).2) <| c_iloadN X0 hx hby d34_4 rfl ?_
  refine c_retI X0 hx hby hlk hret d34_5 (own_n01 hb2) (by simp) (by decide) e0 ⟨(congrArg (fun z => some (Value.int z)) (by rw [own_pk, if_pos hc1_867])), N0, rfl⟩
 ·refine c_ifYes X0 hx hby 6 d34_1 ((if0 _ _).trans (feq hc1_867).2) (by decide) <| c_iloadN X0 hx hby d34_6 rfl <| c_iconst X0 hx hby 1 d34_7 rfl ?_
  by_cases hc8_868 : p1 = (1 : Int32)
  ·refine c_icmpNo X0 hx hby d34_8 (teq hc8_868).2 <| c_iloadN X0 hx hby d34_11 rfl ?_
   refine c_retI X0 hx hby hlk hret d34_12 (own_n01 hb3) (by simp) (by decide) e0 ⟨(congrArg (fun z => some (Value.int z)) (by rw [own_pk, if_neg hc1_867, if_pos hc8_868])), N0, rfl⟩
  ·refine c_icmpYes X0 hx hby 13 d34_8 (feq hc8_868).2 (by decide) <| c_iloadN X0 hx hby d34_13 rfl ?_
   refine c_retI X0 hx hby hlk hret d34_14 (own_n01 hb4) (by simp) (by decide) e0 ⟨(congrArg (fun z => some (Value.int z)) (by rw [own_pk, if_neg hc1_867, if_neg hc8_868])), N0, rfl⟩
theorem d13_0 : decode prog_37_method_8_code 0 = .ok (.aload_n 0, 1) := by decide +kernel
theorem d13_1 : decode prog_37_method_8_code 1 = .ok (.getfield 29, 3) := by decide +kernel
theorem d13_4 : decode prog_37_method_8_code 4 = .ok (.astore_n 3, 1) := by decide +kernel
theorem d13_5 : decode prog_37_method_8_code 5 = .ok (.aload_n 3, 1) := by decide +kernel
theorem d13_6 : decode prog_37_method_8_code 6 = .ok (.arraylength, 1) := by decide +kernel
theorem d13_7 : decode prog_37_method_8_code 7 = .ok (.istore 4, 2) := by decide +kernel
theorem d13_9 : decode prog_37_method_8_code 9 = .ok (.iconst 0, 1) := by decide +kernel
theorem d13_10 : decode prog_37_method_8_code 10 = .ok (.istore 5, 2) := by decide +kernel
theorem d13_12 : decode prog_37_method_8_code 12 = .ok (.iload 5, 2) := by decide +kernel
theorem d13_14 : decode prog_37_method_8_code 14 = .ok (.iload 4, 2) := by decide +kernel
theorem d13_16 : decode prog_37_method_8_code 16 = .ok (.if_icmp .ge 31, 3) := by decide +kernel
theorem d13_47 : decode prog_37_method_8_code 47 = .ok (.iconst 1, 1) := by decide +kernel
theorem d13_48 : decode prog_37_method_8_code 48 = .ok (.ireturn, 1) := by decide +kernel
theorem pn_13 : plainName "com/example/raccordo/raccordo/flow/XmlElement" = true := by first | (simp [plainName, overriddenIn]; done) | decide +kernel
def QSM0 (Z : State) (a1 a2 a3 : Addr) (w0 : Int32) (ix : Addr) (ki kq kr : ClassId) (q0 qv0 : Addr) (qk0 : ClassId) (ql0 qc0 : Int32) (q1 qv1 : Addr) (qk1 : ClassId) (ql1 qc1 : Int32) (q2 qv2 : Addr) (qk2 : ClassId) (ql2 qc2 : Int32) (r0 rv0 : Addr) (rk0 : ClassId) (rl0 rc0 : Int32) (r1 rv1 : Addr) (rk1 : ClassId) (rl1 rc1 : Int32) (r2 rv2 : Addr) (rk2 : ClassId) (rl2 rc2 : Int32) (h0 : Heap) (n0 : Nat) (v : Option Value) (h : Heap) (L : List Loc) : Prop := v = some (.int (own_cj [])) ∧ Fr n0 L ∧ h = h0
theorem rmSM0 {l : Launch} {Z : State} {a0 : Array Value} (hw : HW Z a0) (a1 a2 a3 : Addr) (w0 : Int32) (ix : Addr) (ki kq kr : ClassId) (q0 qv0 : Addr) (qk0 : ClassId) (ql0 qc0 : Int32) (q1 qv1 : Addr) (qk1 : ClassId) (ql1 qc1 : Int32) (q2 qv2 : Addr) (qk2 : ClassId) (ql2 qc2 : Int32) (r0 rv0 : Addr) (rk0 : ClassId) (rl0 rc0 : Int32) (r1 rv1 : Addr) (rk1 : ClassId) (rl1 rc1 : Int32) (r2 rv2 : Addr) (rk2 : ClassId) (rl2 rc2 : Int32) (h0 : Heap) (n0 : Nat) (Z0 : n0 ≤ h0.size) (P0 : sCS Z w0) (P1 : Old Z n0 h0) (P2 : Fld Z h0 a1 "com/example/raccordo/raccordo/flow/XmlElement" "attributeIndexes" "[I" (.ref ix)) (P3 : Arv Z h0 ix ki .int (0 : Int32) [] (.int (0 : Int32))) (P4 : Arv Z h0 a2 kq (.object "java/lang/String") (3 : Int32) [(.ref q0), (.ref q1), (.ref q2)] .null) (P5 : Arv Z h0 a3 kr (.object "java/lang/String") (3 : Int32) [(.ref r0), (.ref r1), (.ref r2)] .null) (P6 : eS Z h0 q0) (P7 : fC Z h0 q0) (P8 : fV Z h0 q0 qv0) (P9 : Arv Z h0 qv0 qk0 .byte ql0 (own_vs ql0 qc0) (.int (0 : Int32))) (P10 : eS Z h0 q1) (P11 : fC Z h0 q1) (P12 : fV Z h0 q1 qv1) (P13 : Arv Z h0 qv1 qk1 .byte ql1 (own_vs ql1 qc1) (.int (0 : Int32))) (P14 : eS Z h0 q2) (P15 : fC Z h0 q2) (P16 : fV Z h0 q2 qv2) (P17 : Arv Z h0 qv2 qk2 .byte ql2 (own_vs ql2 qc2) (.int (0 : Int32))) (P18 : eS Z h0 r0) (P19 : fC Z h0 r0) (P20 : fV Z h0 r0 rv0) (P21 : Arv Z h0 rv0 rk0 .byte rl0 (own_vs rl0 rc0) (.int (0 : Int32))) (P22 : eS Z h0 r1) (P23 : fC Z h0 r1) (P24 : fV Z h0 r1 rv1) (P25 : Arv Z h0 rv1 rk1 .byte rl1 (own_vs rl1 rc1) (.int (0 : Int32))) (P26 : eS Z h0 r2) (P27 : fC Z h0 r2) (P28 : fV Z h0 r2 rv2) (P29 : Arv Z h0 rv2 rk2 .byte rl2 (own_vs rl2 rc2) (.int (0 : Int32))) (P30 : q0 ≠ r0) (P31 : q1 ≠ r1) (P32 : q2 ≠ r2) (hw0 : ¬ w0 = 0) (hql0 : ql0 = 0 ∨ ql0 = 1) (hql1 : ql1 = 0 ∨ ql1 = 1) (hql2 : ql2 = 0 ∨ ql2 = 1) (hrl0 : rl0 = 0 ∨ rl0 = 1) (hrl1 : rl1 = 0 ∨ rl1 = 1) (hrl2 : rl2 = 0 ∨ rl2 = 1) (hqc0 : own_ch qc0) (hqc1 : own_ch qc1) (hqc2 : own_ch qc2) (hrc0 : own_ch rc0) (hrc1 : own_ch rc1) (hrc2 : own_ch rc2) : own_M l Z ⟨"com/example/raccordo/raccordo/flow/XmlElement", "sameAttributes", "([Ljava/lang/String;[Ljava/lang/String;)Z"⟩ prog_37_method_8_code 7 (some .boolean) (rmk 0 0 0 0) #[.ref a1, .ref a2, .ref a3] h0 (QSM0 Z a1 a2 a3 w0 ix ki kq kr q0 qv0 qk0 ql0 qc0 q1 qv1 qk1 ql1 qc1 q2 qv2 qk2 ql2 qc2 r0 rv0 rk0 rl0 rc0 r1 rv1 rk1 rl1 rc1 r2 rv2 rk2 rl2 rc2 h0 n0) := by
 refine own_body rfl (plainFor_of_name pn_13) ?_
 intro p e s m below meth c s₁ hx hby hml hown hnm hlk hret X0 e0 hZ
 have N0 := Fr.nil n0
 show Go _ p e below s _ _ _ (s₁.setTop (mkF m 0 #[rv a1, rv a2, rv a3, .unset, .unset, .unset, .unset] []))
 refine c_aloadN X0 hx hby d13_0 rfl rfl <| c_getf X0 hx hby hZ hown (gw hw 102 rfl) Via.refl e0 P2 d13_1 fun T870 X870 e870 => ?_
 refine c_sh 4 [.ref ix] rfl rfl <| c_astoreN X870 hx hby _ d13_4 rfl rfl <| c_aloadN X870 hx hby d13_5 rfl rfl <| c_alen X870 hx hby hZ e870 P3 d13_6 <| c_istore X870 hx hby #[rv a1, rv a2, rv a3, rv ix, iv 0, .unset, .unset] d13_7 rfl <| c_iconst X870 hx hby 0 d13_9 rfl <| c_istore X870 hx hby _ d13_10 rfl <| c_iload X870 hx hby d13_12 rfl <| c_iload X870 hx hby d13_14 rfl <| c_icmpYes X870 hx hby 47 d13_16 (by decide) (by decide) <| c_iconst X870 hx hby 1 d13_47 rfl <| c_shL #[rv a1, rv a2, rv a3, rv ix, iv 0, iv 0, .unset] rfl ?_
 refine c_retI X870 hx hby hlk hret d13_48 rfl (by simp) (by decide) e870 ⟨rfl, N0, rfl⟩
theorem d13_19 : decode prog_37_method_8_code 19 = .ok (.aload_n 3, 1) := by decide +kernel
theorem d13_20 : decode prog_37_method_8_code 20 = .ok (.iload 5, 2) := by decide +kernel
theorem d13_22 : decode prog_37_method_8_code 22 = .ok (.iaload, 1) := by decide +kernel
theorem d13_23 : decode prog_37_method_8_code 23 = .ok (.istore 6, 2) := by decide +kernel
theorem d13_25 : decode prog_37_method_8_code 25 = .ok (.aload_n 1, 1) := by decide +kernel
theorem d13_26 : decode prog_37_method_8_code 26 = .ok (.iload 6, 2) := by decide +kernel
theorem d13_28 : decode prog_37_method_8_code 28 = .ok (.aaload, 1) := by decide +kernel
theorem d13_29 : decode prog_37_method_8_code 29 = .ok (.aload_n 2, 1) := by decide +kernel
theorem d13_30 : decode prog_37_method_8_code 30 = .ok (.iload 6, 2) := by decide +kernel
theorem d13_32 : decode prog_37_method_8_code 32 = .ok (.aaload, 1) := by decide +kernel
theorem d13_33 : decode prog_37_method_8_code 33 = .ok (.invokevirtual 45, 3) := by decide +kernel
theorem d13_36 : decode prog_37_method_8_code 36 = .ok (.ifCond .ne 5, 3) := by decide +kernel
theorem d13_39 : decode prog_37_method_8_code 39 = .ok (.iconst 0, 1) := by decide +kernel
theorem d13_40 : decode prog_37_method_8_code 40 = .ok (.ireturn, 1) := by decide +kernel
theorem d13_41 : decode prog_37_method_8_code 41 = .ok (.iinc 5 1, 3) := by decide +kernel
theorem d13_44 : decode prog_37_method_8_code 44 = .ok (.goto (-32), 3) := by decide +kernel
theorem pd_21 : parseMethodDescriptor "(Ljava/lang/Object;)Z" = some ⟨[(.object "java/lang/Object")], some .boolean⟩ := by decide +kernel
def QSM1 (Z : State) (a1 a2 a3 : Addr) (w0 : Int32) (ix : Addr) (ki : ClassId) (i0 : Int32) (kq kr : ClassId) (q0 qv0 : Addr) (qk0 : ClassId) (ql0 qc0 : Int32) (q1 qv1 : Addr) (qk1 : ClassId) (ql1 qc1 : Int32) (q2 qv2 : Addr) (qk2 : ClassId) (ql2 qc2 : Int32) (r0 rv0 : Addr) (rk0 : ClassId) (rl0 rc0 : Int32) (r1 rv1 : Addr) (rk1 : ClassId) (rl1 rc1 : Int32) (r2 rv2 : Addr) (rk2 : ClassId) (rl2 rc2 : Int32) (h0 : Heap) (n0 : Nat) (v : Option Value) (h : Heap) (L : List Loc) : Prop := v = some (.int (own_cj [own_pk i0 (own_eq ql0 qc0 rl0 rc0) (own_eq ql1 qc1 rl1 rc1) (own_eq ql2 qc2 rl2 rc2)])) ∧ Fr n0 L ∧ h = h0
theorem rmSM1 {l : Launch} {Z : State} {a0 : Array Value} (hw : HW Z a0) (a1 a2 a3 : Addr) (w0 : Int32) (ix : Addr) (ki : ClassId) (i0 : Int32) (kq kr : ClassId) (q0 qv0 : Addr) (qk0 : ClassId) (ql0 qc0 : Int32) (q1 qv1 : Addr) (qk1 : ClassId) (ql1 qc1 : Int32) (q2 qv2 : Addr) (qk2 : ClassId) (ql2 qc2 : Int32) (r0 rv0 : Addr) (rk0 : ClassId) (rl0 rc0 : Int32) (r1 rv1 : Addr) (rk1 : ClassId) (rl1 rc1 : Int32) (r2 rv2 : Addr) (rk2 : ClassId) (rl2 rc2 : Int32) (h0 : Heap) (n0 : Nat) (Z0 : n0 ≤ h0.size) (P0 : sCS Z w0) (P1 : Old Z n0 h0) (P2 : Fld Z h0 a1 "com/example/raccordo/raccordo/flow/XmlElement" "attributeIndexes" "[I" (.ref ix)) (P3 : Arv Z h0 ix ki .int (1 : Int32) [(.int i0)] (.int (0 : Int32))) (P4 : Arv Z h0 a2 kq (.object "java/lang/String") (3 : Int32) [(.ref q0), (.ref q1), (.ref q2)] .null) (P5 : Arv Z h0 a3 kr (.object "java/lang/String") (3 : Int32) [(.ref r0), (.ref r1), (.ref r2)] .null) (P6 : eS Z h0 q0) (P7 : fC Z h0 q0) (P8 : fV Z h0 q0 qv0) (P9 : Arv Z h0 qv0 qk0 .byte ql0 (own_vs ql0 qc0) (.int (0 : Int32))) (P10 : eS Z h0 q1) (P11 : fC Z h0 q1) (P12 : fV Z h0 q1 qv1) (P13 : Arv Z h0 qv1 qk1 .byte ql1 (own_vs ql1 qc1) (.int (0 : Int32))) (P14 : eS Z h0 q2) (P15 : fC Z h0 q2) (P16 : fV Z h0 q2 qv2) (P17 : Arv Z h0 qv2 qk2 .byte ql2 (own_vs ql2 qc2) (.int (0 : Int32))) (P18 : eS Z h0 r0) (P19 : fC Z h0 r0) (P20 : fV Z h0 r0 rv0) (P21 : Arv Z h0 rv0 rk0 .byte rl0 (own_vs rl0 rc0) (.int (0 : Int32))) (P22 : eS Z h0 r1) (P23 : fC Z h0 r1) (P24 : fV Z h0 r1 rv1) (P25 : Arv Z h0 rv1 rk1 .byte rl1 (own_vs rl1 rc1) (.int (0 : Int32))) (P26 : eS Z h0 r2) (P27 : fC Z h0 r2) (P28 : fV Z h0 r2 rv2) (P29 : Arv Z h0 rv2 rk2 .byte rl2 (own_vs rl2 rc2) (.int (0 : Int32))) (P30 : q0 ≠ r0) (P31 : q1 ≠ r1) (P32 : q2 ≠ r2) (hw0 : ¬ w0 = 0) (hi0 : i0 = 0 ∨ i0 = 1 ∨ i0 = 2) (hql0 : ql0 = 0 ∨ ql0 = 1) (hql1 : ql1 = 0 ∨ ql1 = 1) (hql2 : ql2 = 0 ∨ ql2 = 1) (hrl0 : rl0 = 0 ∨ rl0 = 1) (hrl1 : rl1 = 0 ∨ rl1 = 1) (hrl2 : rl2 = 0 ∨ rl2 = 1) (hqc0 : own_ch qc0) (hqc1 : own_ch qc1) (hqc2 : own_ch qc2) (hrc0 : own_ch rc0) (hrc1 : own_ch rc1) (hrc2 : own_ch rc2) : own_M l Z ⟨"com/example/raccordo/raccordo/flow/XmlElement", "sameAttributes", "([Ljava/lang/String;[Ljava/lang/String;)Z"⟩ prog_37_method_8_code 7 (some .boolean) (rmk 2 0 0 28) #[.ref a1, .ref a2, .ref a3] h0 (QSM1 Z a1 a2 a3 w0 ix ki i0 kq kr q0 qv0 qk0 ql0 qc0 q1 qv1 qk1 ql1 qc1 q2 qv2 qk2 ql2 qc2 r0 rv0 rk0 rl0 rc0 r1 rv1 rk1 rl1 rc1 r2 rv2 rk2 rl2 rc2 h0 n0) := by
 refine own_body rfl (plainFor_of_name pn_13) ?_
 intro p e s m below meth c s₁ hx hby hml hown hnm hlk hret X0 e0 hZ
 have N0 := Fr.nil n0
 show Go _ p e below s _ _ _ (s₁.setTop (mkF m 0 #[rv a1, rv a2, rv a3, .unset, .unset, .unset, .unset] []))
 refine c_aloadN X0 hx hby d13_0 rfl rfl <| c_getf X0 hx hby hZ hown (gw hw 102 rfl) Via.refl e0 P2 d13_1 fun T878 X878 e878 => ?_
 refine c_sh 4 [.ref ix] rfl rfl <| c_astoreN X878 hx hby _ d13_4 rfl rfl <| c_aloadN X878 hx hby d13_5 rfl rfl <| c_alen X878 hx hby hZ e878 P3 d13_6 <| c_istore X878 hx hby #[rv a1, rv a2, rv a3, rv ix, iv 1, .unset, .unset] d13_7 rfl <| c_iconst X878 hx hby 0 d13_9 rfl <| c_istore X878 hx hby _ d13_10 rfl <| c_iload X878 hx hby d13_12 rfl <| c_iload X878 hx hby d13_14 rfl <| c_icmpNo X878 hx hby d13_16 (by decide) <| c_aloadN X878 hx hby d13_19 rfl rfl <| c_iload X878 hx hby d13_20 rfl <| c_ial X878 hx hby hZ e878 P3 (by decide) (.int i0) rfl d13_22 <| c_istore X878 hx hby #[rv a1, rv a2, rv a3, rv ix, iv 1, iv 0, iv i0] d13_23 rfl ?_
 have JS879 : ∀  (T880 : State) (locs880 : List Loc) (_ : Stand p l e (rmk 2 0 0 28) s m #[.ref a1, .ref a2, .ref a3] below meth c T880 locs880 0 0) (_ : T880.heap = h0) (_ : Fr n0 locs880), Go (FrameEnd) p e below s (rmk 2 0 0 28).cells (rmk 2 0 0 28).slots (QSM1 Z a1 a2 a3 w0 ix ki i0 kq kr q0 qv0 qk0 ql0 qc0 q1 qv1 qk1 ql1 qc1 q2 qv2 qk2 ql2 qc2 r0 rv0 rk0 rl0 rc0 r1 rv1 rk1 rl1 rc1 r2 rv2 rk2 rl2 rc2 h0 n0) (T880.setTop (mkF m 36 #[.val (.ref a1), .val (.ref a2), .val (.ref a3), .val (.ref ix), .val (.int (1 : Int32)), .val (.int (0 : Int32)), .val (.int i0)] [(.int (own_pk i0 (own_eq ql0 qc0 rl0 rc0) (own_eq ql1 qc1 rl1 rc1) (own_eq ql2 qc2 rl2 rc2)))])) := by
  intro T880 locs880 X880 e880 NF880
  show Go _ p e below s _ _ _ (T880.setTop (mkF m 36 #[rv a1, rv a2, rv a3, rv ix, iv 1, iv 0, iv i0] [.int (own_pk i0 (own_eq ql0 qc0 rl0 rc0) (own_eq ql1 qc1 rl1 rc1) (own_eq ql2 qc2 rl2 rc2))]))
  by_cases hc36_881 : (own_pk i0 (own_eq ql0 qc0 rl0 rc0) (own_eq ql1 qc1 rl1 rc1) (own_eq ql2 qc2 rl2 rc2)) = (0 : Int32)
  ·refine c_ifNo X880 hx hby d13_36 ((if0 _ _).trans (teq hc36_881).2) <| c_iconst X880 hx hby 0 d13_39 rfl ?_
   refine c_retI X880 hx hby hlk hret d13_40 rfl (by simp) (by decide) e880 ⟨(congrArg (fun z => some (Value.int z)) (by rw [own_cj_z hc36_881])), NF880, rfl⟩
  ·refine c_ifYes X880 hx hby 41 d13_36 ((if0 _ _).trans (feq hc36_881).2) (by decide) <| c_iinc X880 hx hby #[rv a1, rv a2, rv a3, rv ix, iv 1, iv 1, iv i0] d13_41 rfl rfl <| c_goto X880 hx hby 12 d13_44 (by decide) <| c_iload X880 hx hby d13_12 rfl <| c_iload X880 hx hby d13_14 rfl <| c_icmpYes X880 hx hby 47 d13_16 (by decide) (by decide) <| c_iconst X880 hx hby 1 d13_47 rfl ?_
   refine c_retI X880 hx hby hlk hret d13_48 rfl (by simp) (by decide) e880 ⟨(congrArg (fun z => some (Value.int z)) (by rw [own_cj_n hc36_881]; rfl)), NF880, rfl⟩
 rcases hi0 with rfl | rfl | rfl
 ·rw [own_pk0] at JS879
  refine c_aloadN X878 hx hby d13_25 rfl rfl <| c_iload X878 hx hby d13_26 rfl <| c_sh 28 _ rfl rfl <| c_aal X878 hx hby hZ e878 P4 (by decide) (.ref q0) rfl rfl d13_28 <| c_aloadN X878 hx hby d13_29 rfl rfl <| c_iload X878 hx hby d13_30 rfl <| c_aal X878 hx hby hZ e878 P5 (by decide) (.ref r0) rfl rfl d13_32 <| c_callV X878 hx hby hZ hown hml (gw hw 221 rfl) (gw hw 222 rfl) (gw hw 224 rfl) (gw hw 223 rfl) (gw hw 225 rfl) (gw hw 34 rfl) P6 e878 (rm32 hw q0 r0 w0 qv0 qk0 ql0 qc0 rv0 rk0 rl0 rc0 h0 n0 Z0 P0 P1 P6 P7 P8 P9 P18 P19 P20 P21 P30 hw0 hql0 hrl0 hqc0 hrc0) pd_21 rfl d13_33 [] rfl 0 (by decide) rfl rfl fun o882 T882 L882 X882 hQ882 => ?_
  obtain ⟨rfl, N882q, e882⟩ := hQ882
  have N882 := Fr.app N0 N882q
  refine c_sh 36 [.int (own_eq ql0 qc0 rl0 rc0)] rfl rfl ?_
  exact JS879  T882 _ X882 e882 N882 
 ·rw [own_pk1] at JS879
  refine c_aloadN X878 hx hby d13_25 rfl rfl <| c_iload X878 hx hby d13_26 rfl <| c_sh 28 _ rfl rfl <| c_aal X878 hx hby hZ e878 P4 (by decide) (.ref q1) rfl rfl d13_28 <| c_aloadN X878 hx hby d13_29 rfl rfl <| c_iload X878 hx hby d13_30 rfl <| c_aal X878 hx hby hZ e878 P5 (by decide) (.ref r1) rfl rfl d13_32 <| c_callV X878 hx hby hZ hown hml (gw hw 221 rfl) (gw hw 222 rfl) (gw hw 224 rfl) (gw hw 223 rfl) (gw hw 225 rfl) (gw hw 34 rfl) P10 e878 (rm32 hw q1 r1 w0 qv1 qk1 ql1 qc1 rv1 rk1 rl1 rc1 h0 n0 Z0 P0 P1 P10 P11 P12 P13 P22 P23 P24 P25 P31 hw0 hql1 hrl1 hqc1 hrc1) pd_21 rfl d13_33 [] rfl 0 (by decide) rfl rfl fun o883 T883 L883 X883 hQ883 => ?_
  obtain ⟨rfl, N883q, e883⟩ := hQ883
  have N883 := Fr.app N0 N883q
  refine c_sh 36 [.int (own_eq ql1 qc1 rl1 rc1)] rfl rfl ?_
  exact JS879  T883 _ X883 e883 N883 
 ·rw [own_pk2] at JS879
  refine c_aloadN X878 hx hby d13_25 rfl rfl <| c_iload X878 hx hby d13_26 rfl <| c_sh 28 _ rfl rfl <| c_aal X878 hx hby hZ e878 P4 (by decide) (.ref q2) rfl rfl d13_28 <| c_aloadN X878 hx hby d13_29 rfl rfl <| c_iload X878 hx hby d13_30 rfl <| c_aal X878 hx hby hZ e878 P5 (by decide) (.ref r2) rfl rfl d13_32 <| c_callV X878 hx hby hZ hown hml (gw hw 221 rfl) (gw hw 222 rfl) (gw hw 224 rfl) (gw hw 223 rfl) (gw hw 225 rfl) (gw hw 34 rfl) P14 e878 (rm32 hw q2 r2 w0 qv2 qk2 ql2 qc2 rv2 rk2 rl2 rc2 h0 n0 Z0 P0 P1 P14 P15 P16 P17 P26 P27 P28 P29 P32 hw0 hql2 hrl2 hqc2 hrc2) pd_21 rfl d13_33 [] rfl 0 (by decide) rfl rfl fun o884 T884 L884 X884 hQ884 => ?_
  obtain ⟨rfl, N884q, e884⟩ := hQ884
  have N884 := Fr.app N0 N884q
  refine c_sh 36 [.int (own_eq ql2 qc2 rl2 rc2)] rfl rfl ?_
  exact JS879  T884 _ X884 e884 N884 
def QSM2 (Z : State) (a1 a2 a3 : Addr) (w0 : Int32) (ix : Addr) (ki : ClassId) (i0 i1 : Int32) (kq kr : ClassId) (q0 qv0 : Addr) (qk0 : ClassId) (ql0 qc0 : Int32) (q1 qv1 : Addr) (qk1 : ClassId) (ql1 qc1 : Int32) (q2 qv2 : Addr) (qk2 : ClassId) (ql2 qc2 : Int32) (r0 rv0 : Addr) (rk0 : ClassId) (rl0 rc0 : Int32) (r1 rv1 : Addr) (rk1 : ClassId) (rl1 rc1 : Int32) (r2 rv2 : Addr) (rk2 : ClassId) (rl2 rc2 : Int32) (h0 : Heap) (n0 : Nat) (v : Option Value) (h : Heap) (L : List Loc) : Prop := v = some (.int (own_cj [own_pk i0 (own_eq ql0 qc0 rl0 rc0) (own_eq ql1 qc1 rl1 rc1) (own_eq ql2 qc2 rl2 rc2), own_pk i1 (own_eq ql0 qc0 rl0 rc0) (own_eq ql1 qc1 rl1 rc1) (own_eq ql2 qc2 rl2 rc2)])) ∧ Fr n0 L ∧ h = h0
theorem rmSM2 {l : Launch} {Z : State} {a0 : Array Value} (hw : HW Z a0) (a1 a2 a3 : Addr) (w0 : Int32) (ix : Addr) (ki : ClassId) (i0 i1 : Int32) (kq kr : ClassId) (q0 qv0 : Addr) (qk0 : ClassId) (ql0 qc0 : Int32) (q1 qv1 : Addr) (qk1 : ClassId) (ql1 qc1 : Int32) (q2 qv2 : Addr) (qk2 : ClassId) (ql2 qc2 : Int32) (r0 rv0 : Addr) (rk0 : ClassId) (rl0 rc0 : Int32) (r1 rv1 : Addr) (rk1 : ClassId) (rl1 rc1 : Int32) (r2 rv2 : Addr) (rk2 : ClassId) (rl2 rc2 : Int32) (h0 : Heap) (n0 : Nat) (Z0 : n0 ≤ h0.size) (P0 : sCS Z w0) (P1 : Old Z n0 h0) (P2 : Fld Z h0 a1 "com/example/raccordo/raccordo/flow/XmlElement" "attributeIndexes" "[I" (.ref ix)) (P3 : Arv Z h0 ix ki .int (2 : Int32) [(.int i0), (.int i1)] (.int (0 : Int32))) (P4 : Arv Z h0 a2 kq (.object "java/lang/String") (3 : Int32) [(.ref q0), (.ref q1), (.ref q2)] .null) (P5 : Arv Z h0 a3 kr (.object "java/lang/String") (3 : Int32) [(.ref r0), (.ref r1), (.ref r2)] .null) (P6 : eS Z h0 q0) (P7 : fC Z h0 q0) (P8 : fV Z h0 q0 qv0) (P9 : Arv Z h0 qv0 qk0 .byte ql0 (own_vs ql0 qc0) (.int (0 : Int32))) (P10 : eS Z h0 q1) (P11 : fC Z h0 q1) (P12 : fV Z h0 q1 qv1) (P13 : Arv Z h0 qv1 qk1 .byte ql1 (own_vs ql1 qc1) (.int (0 : Int32))) (P14 : eS Z h0 q2) (P15 : fC Z h0 q2) (P16 : fV Z h0 q2 qv2) (P17 : Arv Z h0 qv2 qk2 .byte ql2 (own_vs ql2 qc2) (.int (0 : Int32))) (P18 : eS Z h0 r0) (P19 : fC Z h0 r0) (P20 : fV Z h0 r0 rv0) (P21 : Arv Z h0 rv0 rk0 .byte rl0 (own_vs rl0 rc0) (.int (0 : Int32))) (P22 : eS Z h0 r1) (P23 : fC Z h0 r1) (P24 : fV Z h0 r1 rv1) (P25 : Arv Z h0 rv1 rk1 .byte rl1 (own_vs rl1 rc1) (.int (0 : Int32))) (P26 : eS Z h0 r2) (P27 : fC Z h0 r2) (P28 : fV Z h0 r2 rv2) (P29 : Arv Z h0 rv2 rk2 .byte rl2 (own_vs rl2 rc2) (.int (0 : Int32))) (P30 : q0 ≠ r0) (P31 : q1 ≠ r1) (P32 : q2 ≠ r2) (hw0 : ¬ w0 = 0) (hi0 : i0 = 0 ∨ i0 = 1 ∨ i0 = 2) (hi1 : i1 = 0 ∨ i1 = 1 ∨ i1 = 2) (hql0 : ql0 = 0 ∨ ql0 = 1) (hql1 : ql1 = 0 ∨ ql1 = 1) (hql2 : ql2 = 0 ∨ ql2 = 1) (hrl0 : rl0 = 0 ∨ rl0 = 1) (hrl1 : rl1 = 0 ∨ rl1 = 1) (hrl2 : rl2 = 0 ∨ rl2 = 1) (hqc0 : own_ch qc0) (hqc1 : own_ch qc1) (hqc2 : own_ch qc2) (hrc0 : own_ch rc0) (hrc1 : own_ch rc1) (hrc2 : own_ch rc2) : own_M l Z ⟨"com/example/raccordo/raccordo/flow/XmlElement", "sameAttributes", "([Ljava/lang/String;[Ljava/lang/String;)Z"⟩ prog_37_method_8_code 7 (some .boolean) (rmk 2 0 0 28) #[.ref a1, .ref a2, .ref a3] h0 (QSM2 Z a1 a2 a3 w0 ix ki i0 i1 kq kr q0 qv0 qk0 ql0 qc0 q1 qv1 qk1 ql1 qc1 q2 qv2 qk2 ql2 qc2 r0 rv0 rk0 rl0 rc0 r1 rv1 rk1 rl1 rc1 r2 rv2 rk2 rl2 rc2 h0 n0) := by
 refine own_body rfl (plainFor_of_name pn_13) ?_
 intro p e s m below meth c s₁ hx hby hml hown hnm hlk hret X0 e0 hZ
 have N0 := Fr.nil n0
 show Go _ p e below s _ _ _ (s₁.setTop (mkF m 0 #[rv a1, rv a2, rv a3, .unset, .unset, .unset, .unset] []))
 refine c_aloadN X0 hx hby d13_0 rfl rfl <| c_getf X0 hx hby hZ hown (gw hw 102 rfl) Via.refl e0 P2 d13_1 fun T898 X898 e898 => ?_
 refine c_sh 4 [.ref ix] rfl rfl <| c_astoreN X898 hx hby _ d13_4 rfl rfl <| c_aloadN X898 hx hby d13_5 rfl rfl <| c_alen X898 hx hby hZ e898 P3 d13_6 <| c_istore X898 hx hby #[rv a1, rv a2, rv a3, rv ix, iv 2, .unset, .unset] d13_7 rfl <| c_iconst X898 hx hby 0 d13_9 rfl <| c_istore X898 hx hby _ d13_10 rfl <| c_iload X898 hx hby d13_12 rfl <| c_iload X898 hx hby d13_14 rfl <| c_icmpNo X898 hx hby d13_16 (by decide) <| c_aloadN X898 hx hby d13_19 rfl rfl <| c_iload X898 hx hby d13_20 rfl <| c_ial X898 hx hby hZ e898 P3 (by decide) (.int i0) rfl d13_22 <| c_istore X898 hx hby #[rv a1, rv a2, rv a3, rv ix, iv 2, iv 0, iv i0] d13_23 rfl ?_
 have JS899 : ∀  (T900 : State) (locs900 : List Loc) (_ : Stand p l e (rmk 2 0 0 28) s m #[.ref a1, .ref a2, .ref a3] below meth c T900 locs900 0 0) (_ : T900.heap = h0) (_ : Fr n0 locs900), Go (FrameEnd) p e below s (rmk 2 0 0 28).cells (rmk 2 0 0 28).slots (QSM2 Z a1 a2 a3 w0 ix ki i0 i1 kq kr q0 qv0 qk0 ql0 qc0 q1 qv1 qk1 ql1 qc1 q2 qv2 qk2 ql2 qc2 r0 rv0 rk0 rl0 rc0 r1 rv1 rk1 rl1 rc1 r2 rv2 rk2 rl2 rc2 h0 n0) (T900.setTop (mkF m 36 #[.val (.ref a1), .val (.ref a2), .val (.ref a3), .val (.ref ix), .val (.int (2 : Int32)), .val (.int (0 : Int32)), .val (.int i0)] [(.int (own_pk i0 (own_eq ql0 qc0 rl0 rc0) (own_eq ql1 qc1 rl1 rc1) (own_eq ql2 qc2 rl2 rc2)))])) := by
  intro T900 locs900 X900 e900 NF900
  show Go _ p e below s _ _ _ (T900.setTop (mkF m 36 #[rv a1, rv a2, rv a3, rv ix, iv 2, iv 0, iv i0] [.int (own_pk i0 (own_eq ql0 qc0 rl0 rc0) (own_eq ql1 qc1 rl1 rc1) (own_eq ql2 qc2 rl2 rc2))]))
  by_cases hc36_901 : (own_pk i0 (own_eq ql0 qc0 rl0 rc0) (own_eq ql1 qc1 rl1 rc1) (own_eq ql2 qc2 rl2 rc2)) = (0 : Int32)
  ·refine c_ifNo X900 hx hby d13_36 ((if0 _ _).trans (teq hc36_901).2) <| c_iconst X900 hx hby 0 d13_39 rfl ?_
   refine c_retI X900 hx hby hlk hret d13_40 rfl (by simp) (by decide) e900 ⟨(congrArg (fun z => some (Value.int z)) (by rw [own_cj_z hc36_901])), NF900, rfl⟩
  ·refine c_ifYes X900 hx hby 41 d13_36 ((if0 _ _).trans (feq hc36_901).2) (by decide) <| c_iinc X900 hx hby #[rv a1, rv a2, rv a3, rv ix, iv 2, iv 1, iv i0] d13_41 rfl rfl <| c_goto X900 hx hby 12 d13_44 (by decide) <| c_iload X900 hx hby d13_12 rfl <| c_iload X900 hx hby d13_14 rfl <| c_icmpNo X900 hx hby d13_16 (by decide) <| c_aloadN X900 hx hby d13_19 rfl rfl <| c_iload X900 hx hby d13_20 rfl <| c_ial X900 hx hby hZ e900 P3 (by decide) (.int i1) rfl d13_22 <| c_istore X900 hx hby _ d13_23 rfl <| c_shL #[rv a1, rv a2, rv a3, rv ix, iv 2, iv 1, iv i1] rfl ?_
   have JS902 : ∀  (T903 : State) (locs903 : List Loc) (_ : Stand p l e (rmk 2 0 0 28) s m #[.ref a1, .ref a2, .ref a3] below meth c T903 locs903 0 0) (_ : T903.heap = h0) (_ : Fr n0 locs903), Go (FrameEnd) p e below s (rmk 2 0 0 28).cells (rmk 2 0 0 28).slots (QSM2 Z a1 a2 a3 w0 ix ki i0 i1 kq kr q0 qv0 qk0 ql0 qc0 q1 qv1 qk1 ql1 qc1 q2 qv2 qk2 ql2 qc2 r0 rv0 rk0 rl0 rc0 r1 rv1 rk1 rl1 rc1 r2 rv2 rk2 rl2 rc2 h0 n0) (T903.setTop (mkF m 36 #[.val (.ref a1), .val (.ref a2), .val (.ref a3), .val (.ref ix), .val (.int (2 : Int32)), .val (.int (1 : Int32)), .val (.int i1)] [(.int (own_pk i1 (own_eq ql0 qc0 rl0 rc0) (own_eq ql1 qc1 rl1 rc1) (own_eq ql2 qc2 rl2 rc2)))])) := by
    intro T903 locs903 X903 e903 NF903
    show Go _ p e below s _ _ _ (T903.setTop (mkF m 36 #[rv a1, rv a2, rv a3, rv ix, iv 2, iv 1, iv i1] [.int (own_pk i1 (own_eq ql0 qc0 rl0 rc0) (own_eq ql1 qc1 rl1 rc1) (own_eq ql2 qc2 rl2 rc2))]))
    by_cases hc36_904 : (own_pk i1 (own_eq ql0 qc0 rl0 rc0) (own_eq ql1 qc1 rl1 rc1) (own_eq ql2 qc2 rl2 rc2)) = (0 : Int32)
    ·refine c_ifNo X903 hx hby d13_36 ((if0 _ _).trans (teq hc36_904).2) <| c_iconst X903 hx hby 0 d13_39 rfl ?_
     refine c_retI X903 hx hby hlk hret d13_40 rfl (by simp) (by decide) e903 ⟨(congrArg (fun z => some (Value.int z)) (by rw [own_cj_n hc36_901, own_cj_z hc36_904])), NF903, rfl⟩
    ·refine c_ifYes X903 hx hby 41 d13_36 ((if0 _ _).trans (feq hc36_904).2) (by decide) <| c_iinc X903 hx hby #[rv a1, rv a2, rv a3, rv ix, iv 2, iv 2, iv i1] d13_41 rfl rfl <| c_goto X903 hx hby 12 d13_44 (by decide) <| c_iload X903 hx hby d13_12 rfl <| c_iload X903 hx hby d13_14 rfl <| c_icmpYes X903 hx hby 47 d13_16 (by decide) (by decide) <| c_iconst X903 hx hby 1 d13_47 rfl ?_
     refine c_retI X903 hx hby hlk hret d13_48 rfl (by simp) (by decide) e903 ⟨(congrArg (fun z => some (Value.int z)) (by rw [own_cj_n hc36_901, own_cj_n hc36_904]; rfl)), NF903, rfl⟩
   rcases hi1 with rfl | rfl | rfl
   ·rw [own_pk0] at JS902
    refine c_aloadN X900 hx hby d13_25 rfl rfl <| c_iload X900 hx hby d13_26 rfl <| c_aal X900 hx hby hZ e900 P4 (by decide) (.ref q0) rfl rfl d13_28 <| c_aloadN X900 hx hby d13_29 rfl rfl <| c_iload X900 hx hby d13_30 rfl <| c_aal X900 hx hby hZ e900 P5 (by decide) (.ref r0) rfl rfl d13_32 <| c_callV X900 hx hby hZ hown hml (gw hw 221 rfl) (gw hw 222 rfl) (gw hw 224 rfl) (gw hw 223 rfl) (gw hw 225 rfl) (gw hw 34 rfl) P6 e900 (rm32 hw q0 r0 w0 qv0 qk0 ql0 qc0 rv0 rk0 rl0 rc0 h0 n0 Z0 P0 P1 P6 P7 P8 P9 P18 P19 P20 P21 P30 hw0 hql0 hrl0 hqc0 hrc0) pd_21 rfl d13_33 [] rfl 0 (by decide) rfl rfl fun o905 T905 L905 X905 hQ905 => ?_
    obtain ⟨rfl, N905q, e905⟩ := hQ905
    have N905 := Fr.app NF900 N905q
    refine c_sh 36 [.int (own_eq ql0 qc0 rl0 rc0)] rfl rfl ?_
    exact JS902  T905 _ X905 e905 N905 
   ·rw [own_pk1] at JS902
    refine c_aloadN X900 hx hby d13_25 rfl rfl <| c_iload X900 hx hby d13_26 rfl <| c_aal X900 hx hby hZ e900 P4 (by decide) (.ref q1) rfl rfl d13_28 <| c_aloadN X900 hx hby d13_29 rfl rfl <| c_iload X900 hx hby d13_30 rfl <| c_aal X900 hx hby hZ e900 P5 (by decide) (.ref r1) rfl rfl d13_32 <| c_callV X900 hx hby hZ hown hml (gw hw 221 rfl) (gw hw 222 rfl) (gw hw 224 rfl) (gw hw 223 rfl) (gw hw 225 rfl) (gw hw 34 rfl) P10 e900 (rm32 hw q1 r1 w0 qv1 qk1 ql1 qc1 rv1 rk1 rl1 rc1 h0 n0 Z0 P0 P1 P10 P11 P12 P13 P22 P23 P24 P25 P31 hw0 hql1 hrl1 hqc1 hrc1) pd_21 rfl d13_33 [] rfl 0 (by decide) rfl rfl fun o906 T906 L906 X906 hQ906 => ?_
    obtain ⟨rfl, N906q, e906⟩ := hQ906
    have N906 := Fr.app NF900 N906q
    refine c_sh 36 [.int (own_eq ql1 qc1 rl1 rc1)] rfl rfl ?_
    exact JS902  T906 _ X906 e906 N906 
   ·rw [own_pk2] at JS902
    refine c_aloadN X900 hx hby d13_25 rfl rfl <| c_iload X900 hx hby d13_26 rfl <| c_aal X900 hx hby hZ e900 P4 (by decide) (.ref q2) rfl rfl d13_28 <| c_aloadN X900 hx hby d13_29 rfl rfl <| c_iload X900 hx hby d13_30 rfl <| c_aal X900 hx hby hZ e900 P5 (by decide) (.ref r2) rfl rfl d13_32 <| c_callV X900 hx hby hZ hown hml (gw hw 221 rfl) (gw hw 222 rfl) (gw hw 224 rfl) (gw hw 223 rfl) (gw hw 225 rfl) (gw hw 34 rfl) P14 e900 (rm32 hw q2 r2 w0 qv2 qk2 ql2 qc2 rv2 rk2 rl2 rc2 h0 n0 Z0 P0 P1 P14 P15 P16 P17 P26 P27 P28 P29 P32 hw0 hql2 hrl2 hqc2 hrc2) pd_21 rfl d13_33 [] rfl 0 (by decide) rfl rfl fun o907 T907 L907 X907 hQ907 => ?_
    obtain ⟨rfl, N907q, e907⟩ := hQ907
    have N907 := Fr.app NF900 N907q
    refine c_sh 36 [.int (own_eq ql2 qc2 rl2 rc2)] rfl rfl ?_
    exact JS902  T907 _ X907 e907 N907 
 rcases hi0 with rfl | rfl | rfl
 ·rw [own_pk0] at JS899
  refine c_aloadN X898 hx hby d13_25 rfl rfl <| c_iload X898 hx hby d13_26 rfl <| c_sh 28 _ rfl rfl <| c_aal X898 hx hby hZ e898 P4 (by decide) (.ref q0) rfl rfl d13_28 <| c_aloadN X898 hx hby d13_29 rfl rfl <| c_iload X898 hx hby d13_30 rfl <| c_aal X898 hx hby hZ e898 P5 (by decide) (.ref r0) rfl rfl d13_32 <| c_callV X898 hx hby hZ hown hml (gw hw 221 rfl) (gw hw 222 rfl) (gw hw 224 rfl) (gw hw 223 rfl) (gw hw 225 rfl) (gw hw 34 rfl) P6 e898 (rm32 hw q0 r0 w0 qv0 qk0 ql0 qc0 rv0 rk0 rl0 rc0 h0 n0 Z0 P0 P1 P6 P7 P8 P9 P18 P19 P20 P21 P30 hw0 hql0 hrl0 hqc0 hrc0) pd_21 rfl d13_33 [] rfl 0 (by decide) rfl rfl fun o908 T908 L908 X908 hQ908 => ?_
  obtain ⟨rfl, N908q, e908⟩ := hQ908
  have N908 := Fr.app N0 N908q
  refine c_sh 36 [.int (own_eq ql0 qc0 rl0 rc0)] rfl rfl ?_
  exact JS899  T908 _ X908 e908 N908 
 ·rw [own_pk1] at JS899
  refine c_aloadN X898 hx hby d13_25 rfl rfl <| c_iload X898 hx hby d13_26 rfl <| c_sh 28 _ rfl rfl <| c_aal X898 hx hby hZ e898 P4 (by decide) (.ref q1) rfl rfl d13_28 <| c_aloadN X898 hx hby d13_29 rfl rfl <| c_iload X898 hx hby d13_30 rfl <| c_aal X898 hx hby hZ e898 P5 (by decide) (.ref r1) rfl rfl d13_32 <| c_callV X898 hx hby hZ hown hml (gw hw 221 rfl) (gw hw 222 rfl) (gw hw 224 rfl) (gw hw 223 rfl) (gw hw 225 rfl) (gw hw 34 rfl) P10 e898 (rm32 hw q1 r1 w0 qv1 qk1 ql1 qc1 rv1 rk1 rl1 rc1 h0 n0 Z0 P0 P1 P10 P11 P12 P13 P22 P23 P24 P25 P31 hw0 hql1 hrl1 hqc1 hrc1) pd_21 rfl d13_33 [] rfl 0 (by decide) rfl rfl fun o909 T909 L909 X909 hQ909 => ?_
  obtain ⟨rfl, N909q, e909⟩ := hQ909
  have N909 := Fr.app N0 N909q
  refine c_sh 36 [.int (own_eq ql1 qc1 rl1 rc1)] rfl rfl ?_
  exact JS899  T909 _ X909 e909 N909 
 ·rw [own_pk2] at JS899
  refine c_aloadN X898 hx hby d13_25 rfl rfl <| c_iload X898 hx hby d13_26 rfl <| c_sh 28 _ rfl rfl <| c_aal X898 hx hby hZ e898 P4 (by decide) (.ref q2) rfl rfl d13_28 <| c_aloadN X898 hx hby d13_29 rfl rfl <| c_iload X898 hx hby d13_30 rfl <| c_aal X898 hx hby hZ e898 P5 (by decide) (.ref r2) rfl rfl d13_32 <| c_callV X898 hx hby hZ hown hml (gw hw 221 rfl) (gw hw 222 rfl) (gw hw 224 rfl) (gw hw 223 rfl) (gw hw 225 rfl) (gw hw 34 rfl) P14 e898 (rm32 hw q2 r2 w0 qv2 qk2 ql2 qc2 rv2 rk2 rl2 rc2 h0 n0 Z0 P0 P1 P14 P15 P16 P17 P26 P27 P28 P29 P32 hw0 hql2 hrl2 hqc2 hrc2) pd_21 rfl d13_33 [] rfl 0 (by decide) rfl rfl fun o910 T910 L910 X910 hQ910 => ?_
  obtain ⟨rfl, N910q, e910⟩ := hQ910
  have N910 := Fr.app N0 N910q
  refine c_sh 36 [.int (own_eq ql2 qc2 rl2 rc2)] rfl rfl ?_
  exact JS899  T910 _ X910 e910 N910 
def QSM3 (Z : State) (a1 a2 a3 : Addr) (w0 : Int32) (ix : Addr) (ki : ClassId) (i0 i1 i2 : Int32) (kq kr : ClassId) (q0 qv0 : Addr) (qk0 : ClassId) (ql0 qc0 : Int32) (q1 qv1 : Addr) (qk1 : ClassId) (ql1 qc1 : Int32) (q2 qv2 : Addr) (qk2 : ClassId) (ql2 qc2 : Int32) (r0 rv0 : Addr) (rk0 : ClassId) (rl0 rc0 : Int32) (r1 rv1 : Addr) (rk1 : ClassId) (rl1 rc1 : Int32) (r2 rv2 : Addr) (rk2 : ClassId) (rl2 rc2 : Int32) (h0 : Heap) (n0 : Nat) (v : Option Value) (h : Heap) (L : List Loc) : Prop := v = some (.int (own_cj [own_pk i0 (own_eq ql0 qc0 rl0 rc0) (own_eq ql1 qc1 rl1 rc1) (own_eq ql2 qc2 rl2 rc2), own_pk i1 (own_eq ql0 qc0 rl0 rc0) (own_eq ql1 qc1 rl1 rc1) (own_eq ql2 qc2 rl2 rc2), own_pk i2 (own_eq ql0 qc0 rl0 rc0) (own_eq ql1 qc1 rl1 rc1) (own_eq ql2 qc2 rl2 rc2)])) ∧ Fr n0 L ∧ h = h0
theorem rmSM3 {l : Launch} {Z : State} {a0 : Array Value} (hw : HW Z a0) (a1 a2 a3 : Addr) (w0 : Int32) (ix : Addr) (ki : ClassId) (i0 i1 i2 : Int32) (kq kr : ClassId) (q0 qv0 : Addr) (qk0 : ClassId) (ql0 qc0 : Int32) (q1 qv1 : Addr) (qk1 : ClassId) (ql1 qc1 : Int32) (q2 qv2 : Addr) (qk2 : ClassId) (ql2 qc2 : Int32) (r0 rv0 : Addr) (rk0 : ClassId) (rl0 rc0 : Int32) (r1 rv1 : Addr) (rk1 : ClassId) (rl1 rc1 : Int32) (r2 rv2 : Addr) (rk2 : ClassId) (rl2 rc2 : Int32) (h0 : Heap) (n0 : Nat) (Z0 : n0 ≤ h0.size) (P0 : sCS Z w0) (P1 : Old Z n0 h0) (P2 : Fld Z h0 a1 "com/example/raccordo/raccordo/flow/XmlElement" "attributeIndexes" "[I" (.ref ix)) (P3 : Arv Z h0 ix ki .int (3 : Int32) [(.int i0), (.int i1), (.int i2)] (.int (0 : Int32))) (P4 : Arv Z h0 a2 kq (.object "java/lang/String") (3 : Int32) [(.ref q0), (.ref q1), (.ref q2)] .null) (P5 : Arv Z h0 a3 kr (.object "java/lang/String") (3 : Int32) [(.ref r0), (.ref r1), (.ref r2)] .null) (P6 : eS Z h0 q0) (P7 : fC Z h0 q0) (P8 : fV Z h0 q0 qv0) (P9 : Arv Z h0 qv0 qk0 .byte ql0 (own_vs ql0 qc0) (.int (0 : Int32))) (P10 : eS Z h0 q1) (P11 : fC Z h0 q1) (P12 : fV Z h0 q1 qv1) (P13 : Arv Z h0 qv1 qk1 .byte ql1 (own_vs ql1 qc1) (.int (0 : Int32))) (P14 : eS Z h0 q2) (P15 : fC Z h0 q2) (P16 : fV Z h0 q2 qv2) (P17 : Arv Z h0 qv2 qk2 .byte ql2 (own_vs ql2 qc2) (.int (0 : Int32))) (P18 : eS Z h0 r0) (P19 : fC Z h0 r0) (P20 : fV Z h0 r0 rv0) (P21 : Arv Z h0 rv0 rk0 .byte rl0 (own_vs rl0 rc0) (.int (0 : Int32))) (P22 : eS Z h0 r1) (P23 : fC Z h0 r1) (P24 : fV Z h0 r1 rv1) (P25 : Arv Z h0 rv1 rk1 .byte rl1 (own_vs rl1 rc1) (.int (0 : Int32))) (P26 : eS Z h0 r2) (P27 : fC Z h0 r2) (P28 : fV Z h0 r2 rv2) (P29 : Arv Z h0 rv2 rk2 .byte rl2 (own_vs rl2 rc2) (.int (0 : Int32))) (P30 : q0 ≠ r0) (P31 : q1 ≠ r1) (P32 : q2 ≠ r2) (hw0 : ¬ w0 = 0) (hi0 : i0 = 0 ∨ i0 = 1 ∨ i0 = 2) (hi1 : i1 = 0 ∨ i1 = 1 ∨ i1 = 2) (hi2 : i2 = 0 ∨ i2 = 1 ∨ i2 = 2) (hql0 : ql0 = 0 ∨ ql0 = 1) (hql1 : ql1 = 0 ∨ ql1 = 1) (hql2 : ql2 = 0 ∨ ql2 = 1) (hrl0 : rl0 = 0 ∨ rl0 = 1) (hrl1 : rl1 = 0 ∨ rl1 = 1) (hrl2 : rl2 = 0 ∨ rl2 = 1) (hqc0 : own_ch qc0) (hqc1 : own_ch qc1) (hqc2 : own_ch qc2) (hrc0 : own_ch rc0) (hrc1 : own_ch rc1) (hrc2 : own_ch rc2) : own_M l Z ⟨"com/example/raccordo/raccordo/flow/XmlElement", "sameAttributes", "([Ljava/lang/String;[Ljava/lang/String;)Z"⟩ prog_37_method_8_code 7 (some .boolean) (rmk 2 0 0 28) #[.ref a1, .ref a2, .ref a3] h0 (QSM3 Z a1 a2 a3 w0 ix ki i0 i1 i2 kq kr q0 qv0 qk0 ql0 qc0 q1 qv1 qk1 ql1 qc1 q2 qv2 qk2 ql2 qc2 r0 rv0 rk0 rl0 rc0 r1 rv1 rk1 rl1 rc1 r2 rv2 rk2 rl2 rc2 h0 n0) := by
 refine own_body rfl (plainFor_of_name pn_13) ?_
 intro p e s m below meth c s₁ hx hby hml hown hnm hlk hret X0 e0 hZ
 have N0 := Fr.nil n0
 show Go _ p e below s _ _ _ (s₁.setTop (mkF m 0 #[rv a1, rv a2, rv a3, .unset, .unset, .unset, .unset] []))
 refine c_aloadN X0 hx hby d13_0 rfl rfl <| c_getf X0 hx hby hZ hown (gw hw 102 rfl) Via.refl e0 P2 d13_1 fun T930 X930 e930 => ?_
 refine c_sh 4 [.ref ix] rfl rfl <| c_astoreN X930 hx hby _ d13_4 rfl rfl <| c_aloadN X930 hx hby d13_5 rfl rfl <| c_alen X930 hx hby hZ e930 P3 d13_6 <| c_istore X930 hx hby #[rv a1, rv a2, rv a3, rv ix, iv 3, .unset, .unset] d13_7 rfl <| c_iconst X930 hx hby 0 d13_9 rfl <| c_istore X930 hx hby _ d13_10 rfl <| c_iload X930 hx hby d13_12 rfl <| c_iload X930 hx hby d13_14 rfl <| c_icmpNo X930 hx hby d13_16 (by decide) <| c_aloadN X930 hx hby d13_19 rfl rfl <| c_iload X930 hx hby d13_20 rfl <| c_ial X930 hx hby hZ e930 P3 (by decide) (.int i0) rfl d13_22 <| c_istore X930 hx hby #[rv a1, rv a2, rv a3, rv ix, iv 3, iv 0, iv i0] d13_23 rfl ?_
 have JS931 : ∀  (T932 : State) (locs932 : List Loc) (_ : Stand p l e (rmk 2 0 0 28) s m #[.ref a1, .ref a2, .ref a3] below meth c T932 locs932 0 0) (_ : T932.heap = h0) (_ : Fr n0 locs932), Go (FrameEnd) p e below s (rmk 2 0 0 28).cells (rmk 2 0 0 28).slots (QSM3 Z a1 a2 a3 w0 ix ki i0 i1 i2 kq kr q0 qv0 qk0 ql0 qc0 q1 qv1 qk1 ql1 qc1 q2 qv2 qk2 ql2 qc2 r0 rv0 rk0 rl0 rc0 r1 rv1 rk1 rl1 rc1 r2 rv2 rk2 rl2 rc2 h0 n0) (T932.setTop (mkF m 36 #[.val (.ref a1), .val (.ref a2), .val (.ref a3), .val (.ref ix), .val (.int (3 : Int32)), .val (.int (0 : Int32)), .val (.int i0)] [(.int (own_pk i0 (own_eq ql0 qc0 rl0 rc0) (own_eq ql1 qc1 rl1 rc1) (own_eq ql2 qc2 rl2 rc2)))])) := by
  intro T932 locs932 X932 e932 NF932
  show Go _ p e below s _ _ _ (T932.setTop (mkF m 36 #[rv a1, rv a2, rv a3, rv ix, iv 3, iv 0, iv i0] [.int (own_pk i0 (own_eq ql0 qc0 rl0 rc0) (own_eq ql1 qc1 rl1 rc1) (own_eq ql2 qc2 rl2 rc2))]))
  by_cases hc36_933 : (own_pk i0 (own_eq ql0 qc0 rl0 rc0) (own_eq ql1 qc1 rl1 rc1) (own_eq ql2 qc2 rl2 rc2)) = (0 : Int32)
  ·refine c_ifNo X932 hx hby d13_36 ((if0 _ _).trans (teq hc36_933).2) <| c_iconst X932 hx hby 0 d13_39 rfl ?_
   refine c_retI X932 hx hby hlk hret d13_40 rfl (by simp) (by decide) e932 ⟨(congrArg (fun z => some (Value.int z)) (by rw [own_cj_z hc36_933])), NF932, rfl⟩
  ·refine c_ifYes X932 hx hby 41 d13_36 ((if0 _ _).trans (feq hc36_933).2) (by decide) <| c_iinc X932 hx hby #[rv a1, rv a2, rv a3, rv ix, iv 3, iv 1, iv i0] d13_41 rfl rfl <| c_goto X932 hx hby 12 d13_44 (by decide) <| c_iload X932 hx hby d13_12 rfl <| c_iload X932 hx hby d13_14 rfl <| c_icmpNo X932 hx hby d13_16 (by decide) <| c_aloadN X932 hx hby d13_19 rfl rfl <| c_iload X932 hx hby d13_20 rfl <| c_ial X932 hx hby hZ e932 P3 (by decide) (.int i1) rfl d13_22 <| c_istore X932 hx hby _ d13_23 rfl <| c_shL #[rv a1, rv a2, rv a3, rv ix, iv 3, iv 1, iv i1] rfl ?_
   have JS934 : ∀  (T935 : State) (locs935 : List Loc) (_ : Stand p l e (rmk 2 0 0 28) s m #[.ref a1, .ref a2, .ref a3] below meth c T935 locs935 0 0) (_ : T935.heap = h0) (_ : Fr n0 locs935), Go (FrameEnd) p e below s (rmk 2 0 0 28).cells (rmk 2 0 0 28).slots (QSM3 Z a1 a2 a3 w0 ix ki i0 i1 i2 kq kr q0 qv0 qk0 ql0 qc0 q1 qv1 qk1 ql1 qc1 q2 qv2 qk2 ql2 qc2 r0 rv0 rk0 rl0 rc0 r1 rv1 rk1 rl1 rc1 r2 rv2 rk2 rl2 rc2 h0 n0) (T935.setTop (mkF m 36 #[.val (.ref a1), .val (.ref a2), .val (.ref a3), .val (.ref ix), .val (.int (3 : Int32)), .val (.int (1 : Int32)), .val (.int i1)] [(.int (own_pk i1 (own_eq ql0 qc0 rl0 rc0) (own_eq ql1 qc1 rl1 rc1) (own_eq ql2 qc2 rl2 rc2)))])) := by
    intro T935 locs935 X935 e935 NF935
    show Go _ p e below s _ _ _ (T935.setTop (mkF m 36 #[rv a1, rv a2, rv a3, rv ix, iv 3, iv 1, iv i1] [.int (own_pk i1 (own_eq ql0 qc0 rl0 rc0) (own_eq ql1 qc1 rl1 rc1) (own_eq ql2 qc2 rl2 rc2))]))
    by_cases hc36_936 : (own_pk i1 (own_eq ql0 qc0 rl0 rc0) (own_eq ql1 qc1 rl1 rc1) (own_eq ql2 qc2 rl2 rc2)) = (0 : Int32)
    ·refine c_ifNo X935 hx hby d13_36 ((if0 _ _).trans (teq hc36_936).2) <| c_iconst X935 hx hby 0 d13_39 rfl ?_
     refine c_retI X935 hx hby hlk hret d13_40 rfl (by simp) (by decide) e935 ⟨(congrArg (fun z => some (Value.int z)) (by rw [own_cj_n hc36_933, own_cj_z hc36_936])), NF935, rfl⟩
    ·refine c_ifYes X935 hx hby 41 d13_36 ((if0 _ _).trans (feq hc36_936).2) (by decide) <| c_iinc X935 hx hby #[rv a1, rv a2, rv a3, rv ix, iv 3, iv 2, iv i1] d13_41 rfl rfl <| c_goto X935 hx hby 12 d13_44 (by decide) <| c_iload X935 hx hby d13_12 rfl <| c_iload X935 hx hby d13_14 rfl <| c_icmpNo X935 hx hby d13_16 (by decide) <| c_aloadN X935 hx hby d13_19 rfl rfl <| c_iload X935 hx hby d13_20 rfl <| c_ial X935 hx hby hZ e935 P3 (by decide) (.int i2) rfl d13_22 <| c_istore X935 hx hby _ d13_23 rfl <| c_shL #[rv a1, rv a2, rv a3, rv ix, iv 3, iv 2, iv i2] rfl ?_
     have JS937 : ∀  (T938 : State) (locs938 : List Loc) (_ : Stand p l e (rmk 2 0 0 28) s m #[.ref a1, .ref a2, .ref a3] below meth c T938 locs938 0 0) (_ : T938.heap = h0) (_ : Fr n0 locs938), Go (FrameEnd) p e below s (rmk 2 0 0 28).cells (rmk 2 0 0 28).slots (QSM3 Z a1 a2 a3 w0 ix ki i0 i1 i2 kq kr q0 qv0 qk0 ql0 qc0 q1 qv1 qk1 ql1 qc1 q2 qv2 qk2 ql2 qc2 r0 rv0 rk0 rl0 rc0 r1 rv1 rk1 rl1 rc1 r2 rv2 rk2 rl2 rc2 h0 n0) (T938.setTop (mkF m 36 #[.val (.ref a1), .val (.ref a2), .val (.ref a3), .val (.ref ix), .val (.int (3 : Int32)), .val (.int (2 : Int32)), .val (.int i2)] [(.int (own_pk i2 (own_eq ql0 qc0 rl0 rc0) (own_eq ql1 qc1 rl1 rc1) (own_eq ql2 qc2 rl2 rc2)))])) := by
      intro T938 locs938 X938 e938 NF938
      show Go _ p e below s _ _ _ (T938.setTop (mkF m 36 #[rv a1, rv a2, rv a3, rv ix, iv 3, iv 2, iv i2] [.int (own_pk i2 (own_eq ql0 qc0 rl0 rc0) (own_eq ql1 qc1 rl1 rc1) (own_eq ql2 qc2 rl2 rc2))]))
      by_cases hc36_939 : (own_pk i2 (own_eq ql0 qc0 rl0 rc0) (own_eq ql1 qc1 rl1 rc1) (own_eq ql2 qc2 rl2 rc2)) = (0 : Int32)
      ·refine c_ifNo X938 hx hby d13_36 ((if0 _ _).trans (teq hc36_939).2) <| c_iconst X938 hx hby 0 d13_39 rfl ?_
       refine c_retI X938 hx hby hlk hret d13_40 rfl (by simp) (by decide) e938 ⟨(congrArg (fun z => some (Value.int z)) (by rw [own_cj_n hc36_933, own_cj_n hc36_936, own_cj_z hc36_939])), NF938, rfl⟩
      ·refine c_ifYes X938 hx hby 41 d13_36 ((if0 _ _).trans (feq hc36_939).2) (by decide) <| c_iinc X938 hx hby #[rv a1, rv a2, rv a3, rv ix, iv 3, iv 3, iv i2] d13_41 rfl rfl <| c_goto X938 hx hby 12 d13_44 (by decide) <| c_iload X938 hx hby d13_12 rfl <| c_iload X938 hx hby d13_14 rfl <| c_icmpYes X938 hx hby 47 d13_16 (by decide) (by decide) <| c_iconst X938 hx hby 1 d13_47 rfl ?_
       refine c_retI X938 hx hby hlk hret d13_48 rfl (by simp) (by decide) e938 ⟨(congrArg (fun z => some (Value.int z)) (by rw [own_cj_n hc36_933, own_cj_n hc36_936, own_cj_n hc36_939]; rfl)), NF938, rfl⟩
     rcases hi2 with rfl | rfl | rfl
     ·rw [own_pk0] at JS937
      refine c_aloadN X935 hx hby d13_25 rfl rfl <| c_iload X935 hx hby d13_26 rfl <| c_aal X935 hx hby hZ e935 P4 (by decide) (.ref q0) rfl rfl d13_28 <| c_aloadN X935 hx hby d13_29 rfl rfl <| c_iload X935 hx hby d13_30 rfl <| c_aal X935 hx hby hZ e935 P5 (by decide) (.ref r0) rfl rfl d13_32 <| c_callV X935 hx hby hZ hown hml (gw hw 221 rfl) (gw hw 222 rfl) (gw hw 224 rfl) (gw hw 223 rfl) (gw hw 225 rfl) (gw hw 34 rfl) P6 e935 (rm32 hw q0 r0 w0 qv0 qk0 ql0 qc0 rv0 rk0 rl0 rc0 h0 n0 Z0 P0 P1 P6 P7 P8 P9 P18 P19 P20 P21 P30 hw0 hql0 hrl0 hqc0 hrc0) pd_21 rfl d13_33 [] rfl 0 (by decide) rfl rfl fun o940 T940 L940 X940 hQ940 => ?_
      obtain ⟨rfl, N940q, e940⟩ := hQ940
      have N940 := Fr.app NF935 N940q
      refine c_sh 36 [.int (own_eq ql0 qc0 rl0 rc0)] rfl rfl ?_
      exact JS937  T940 _ X940 e940 N940 
     ·rw [own_pk1] at JS937
      refine c_aloadN X935 hx hby d13_25 rfl rfl <| c_iload X935 hx hby d13_26 rfl <| c_aal X935 hx hby hZ e935 P4 (by decide) (.ref q1) rfl rfl d13_28 <| c_aloadN X935 hx hby d13_29 rfl rfl <| c_iload X935 hx hby d13_30 rfl <| c_aal X935 hx hby hZ e935 P5 (by decide) (.ref r1) rfl rfl d13_32 <| c_callV X935 hx hby hZ hown hml (gw hw 221 rfl) (gw hw 222 rfl) (gw hw 224 rfl) (gw hw 223 rfl) (gw hw 225 rfl) (gw hw 34 rfl) P10 e935 (rm32 hw q1 r1 w0 qv1 qk1 ql1 qc1 rv1 rk1 rl1 rc1 h0 n0 Z0 P0 P1 P10 P11 P12 P13 P22 P23 P24 P25 P31 hw0 hql1 hrl1 hqc1 hrc1) pd_21 rfl d13_33 [] rfl 0 (by decide) rfl rfl fun o941 T941 L941 X941 hQ941 => ?_
      obtain ⟨rfl, N941q, e941⟩ := hQ941
      have N941 := Fr.app NF935 N941q
      refine c_sh 36 [.int (own_eq ql1 qc1 rl1 rc1)] rfl rfl ?_
      exact JS937  T941 _ X941 e941 N941 
     ·rw [own_pk2] at JS937
      refine c_aloadN X935 hx hby d13_25 rfl rfl <| c_iload X935 hx hby d13_26 rfl <| c_aal X935 hx hby hZ e935 P4 (by decide) (.ref q2) rfl rfl d13_28 <| c_aloadN X935 hx hby d13_29 rfl rfl <| c_iload X935 hx hby d13_30 rfl <| c_aal X935 hx hby hZ e935 P5 (by decide) (.ref r2) rfl rfl d13_32 <| c_callV X935 hx hby hZ hown hml (gw hw 221 rfl) (gw hw 222 rfl) (gw hw 224 rfl) (gw hw 223 rfl) (gw hw 225 rfl) (gw hw 34 rfl) P14 e935 (rm32 hw q2 r2 w0 qv2 qk2 ql2 qc2 rv2 rk2 rl2 rc2 h0 n0 Z0 P0 P1 P14 P15 P16 P17 P26 P27 P28 P29 P32 hw0 hql2 hrl2 hqc2 hrc2) pd_21 rfl d13_33 [] rfl 0 (by decide) rfl rfl fun o942 T942 L942 X942 hQ942 => ?_
      obtain ⟨rfl, N942q, e942⟩ := hQ942
      have N942 := Fr.app NF935 N942q
      refine c_sh 36 [.int (own_eq ql2 qc2 rl2 rc2)] rfl rfl ?_
      exact JS937  T942 _ X942 e942 N942 
   rcases hi1 with rfl | rfl | rfl
   ·rw [own_pk0] at JS934
    refine c_aloadN X932 hx hby d13_25 rfl rfl <| c_iload X932 hx hby d13_26 rfl <| c_aal X932 hx hby hZ e932 P4 (by decide) (.ref q0) rfl rfl d13_28 <| c_aloadN X932 hx hby d13_29 rfl rfl <| c_iload X932 hx hby d13_30 rfl <| c_aal X932 hx hby hZ e932 P5 (by decide) (.ref r0) rfl rfl d13_32 <| c_callV X932 hx hby hZ hown hml (gw hw 221 rfl) (gw hw 222 rfl) (gw hw 224 rfl) (gw hw 223 rfl) (gw hw 225 rfl) (gw hw 34 rfl) P6 e932 (rm32 hw q0 r0 w0 qv0 qk0 ql0 qc0 rv0 rk0 rl0 rc0 h0 n0 Z0 P0 P1 P6 P7 P8 P9 P18 P19 P20 P21 P30 hw0 hql0 hrl0 hqc0 hrc0) pd_21 rfl d13_33 [] rfl 0 (by decide) rfl rfl fun o943 T943 L943 X943 hQ943 => ?_
    obtain ⟨rfl, N943q, e943⟩ := hQ943
    have N943 := Fr.app NF932 N943q
    refine c_sh 36 [.int (own_eq ql0 qc0 rl0 rc0)] rfl rfl ?_
    exact JS934  T943 _ X943 e943 N943 
   ·rw [own_pk1] at JS934
    refine c_aloadN X932 hx hby d13_25 rfl rfl <| c_iload X932 hx hby d13_26 rfl <| c_aal X932 hx hby hZ e932 P4 (by decide) (.ref q1) rfl rfl d13_28 <| c_aloadN X932 hx hby d13_29 rfl rfl <| c_iload X932 hx hby d13_30 rfl <| c_aal X932 hx hby hZ e932 P5 (by decide) (.ref r1) rfl rfl d13_32 <| c_callV X932 hx hby hZ hown hml (gw hw 221 rfl) (gw hw 222 rfl) (gw hw 224 rfl) (gw hw 223 rfl) (gw hw 225 rfl) (gw hw 34 rfl) P10 e932 (rm32 hw q1 r1 w0 qv1 qk1 ql1 qc1 rv1 rk1 rl1 rc1 h0 n0 Z0 P0 P1 P10 P11 P12 P13 P22 P23 P24 P25 P31 hw0 hql1 hrl1 hqc1 hrc1) pd_21 rfl d13_33 [] rfl 0 (by decide) rfl rfl fun o944 T944 L944 X944 hQ944 => ?_
    obtain ⟨rfl, N944q, e944⟩ := hQ944
    have N944 := Fr.app NF932 N944q
    refine c_sh 36 [.int (own_eq ql1 qc1 rl1 rc1)] rfl rfl ?_
    exact JS934  T944 _ X944 e944 N944 
   ·rw [own_pk2] at JS934
    refine c_aloadN X932 hx hby d13_25 rfl rfl <| c_iload X932 hx hby d13_26 rfl <| c_aal X932 hx hby hZ e932 P4 (by decide) (.ref q2) rfl rfl d13_28 <| c_aloadN X932 hx hby d13_29 rfl rfl <| c_iload X932 hx hby d13_30 rfl <| c_aal X932 hx hby hZ e932 P5 (by decide) (.ref r2) rfl rfl d13_32 <| c_callV X932 hx hby hZ hown hml (gw hw 221 rfl) (gw hw 222 rfl) (gw hw 224 rfl) (gw hw 223 rfl) (gw hw 225 rfl) (gw hw 34 rfl) P14 e932 (rm32 hw q2 r2 w0 qv2 qk2 ql2 qc2 rv2 rk2 rl2 rc2 h0 n0 Z0 P0 P1 P14 P15 P16 P17 P26 P27 P28 P29 P32 hw0 hql2 hrl2 hqc2 hrc2) pd_21 rfl d13_33 [] rfl 0 (by decide) rfl rfl fun o945 T945 L945 X945 hQ945 => ?_
    obtain ⟨rfl, N945q, e945⟩ := hQ945
    have N945 := Fr.app NF932 N945q
    refine c_sh 36 [.int (own_eq ql2 qc2 rl2 rc2)] rfl rfl ?_
    exact JS934  T945 _ X945 e945 N945 
 rcases hi0 with rfl | rfl | rfl
 ·rw [own_pk0] at JS931
  refine c_aloadN X930 hx hby d13_25 rfl rfl <| c_iload X930 hx hby d13_26 rfl <| c_sh 28 _ rfl rfl <| c_aal X930 hx hby hZ e930 P4 (by decide) (.ref q0) rfl rfl d13_28 <| c_aloadN X930 hx hby d13_29 rfl rfl <| c_iload X930 hx hby d13_30 rfl <| c_aal X930 hx hby hZ e930 P5 (by decide) (.ref r0) rfl rfl d13_32 <| c_callV X930 hx hby hZ hown hml (gw hw 221 rfl) (gw hw 222 rfl) (gw hw 224 rfl) (gw hw 223 rfl) (gw hw 225 rfl) (gw hw 34 rfl) P6 e930 (rm32 hw q0 r0 w0 qv0 qk0 ql0 qc0 rv0 rk0 rl0 rc0 h0 n0 Z0 P0 P1 P6 P7 P8 P9 P18 P19 P20 P21 P30 hw0 hql0 hrl0 hqc0 hrc0) pd_21 rfl d13_33 [] rfl 0 (by decide) rfl rfl fun o946 T946 L946 X946 hQ946 => ?_
  obtain ⟨rfl, N946q, e946⟩ := hQ946
  have N946 := Fr.app N0 N946q
  refine c_sh 36 [.int (own_eq ql0 qc0 rl0 rc0)] rfl rfl ?_
  exact JS931  T946 _ X946 e946 N946 
 ·rw [own_pk1] at JS931
  refine c_aloadN X930 hx hby d13_25 rfl rfl <| c_iload X930 hx hby d13_26 rfl <| c_sh 28 _ rfl rfl <| c_aal X930 hx hby hZ e930 P4 (by decide) (.ref q1) rfl rfl d13_28 <| c_aloadN X930 hx hby d13_29 rfl rfl <| c_iload X930 hx hby d13_30 rfl <| c_aal X930 hx hby hZ e930 P5 (by decide) (.ref r1) rfl rfl d13_32 <| c_callV X930 hx hby hZ hown hml (gw hw 221 rfl) (gw hw 222 rfl) (gw hw 224 rfl) (gw hw 223 rfl) (gw hw 225 rfl) (gw hw 34 rfl) P10 e930 (rm32 hw q1 r1 w0 qv1 qk1 ql1 qc1 rv1 rk1 rl1 rc1 h0 n0 Z0 P0 P1 P10 P11 P12 P13 P22 P23 P24 P25 P31 hw0 hql1 hrl1 hqc1 hrc1) pd_21 rfl d13_33 [] rfl 0 (by decide) rfl rfl fun o947 T947 L947 X947 hQ947 => ?_
  obtain ⟨rfl, N947q, e947⟩ := hQ947
  have N947 := Fr.app N0 N947q
  refine c_sh 36 [.int (own_eq ql1 qc1 rl1 rc1)] rfl rfl ?_
  exact JS931  T947 _ X947 e947 N947 
 ·rw [own_pk2] at JS931
  refine c_aloadN X930 hx hby d13_25 rfl rfl <| c_iload X930 hx hby d13_26 rfl <| c_sh 28 _ rfl rfl <| c_aal X930 hx hby hZ e930 P4 (by decide) (.ref q2) rfl rfl d13_28 <| c_aloadN X930 hx hby d13_29 rfl rfl <| c_iload X930 hx hby d13_30 rfl <| c_aal X930 hx hby hZ e930 P5 (by decide) (.ref r2) rfl rfl d13_32 <| c_callV X930 hx hby hZ hown hml (gw hw 221 rfl) (gw hw 222 rfl) (gw hw 224 rfl) (gw hw 223 rfl) (gw hw 225 rfl) (gw hw 34 rfl) P14 e930 (rm32 hw q2 r2 w0 qv2 qk2 ql2 qc2 rv2 rk2 rl2 rc2 h0 n0 Z0 P0 P1 P14 P15 P16 P17 P26 P27 P28 P29 P32 hw0 hql2 hrl2 hqc2 hrc2) pd_21 rfl d13_33 [] rfl 0 (by decide) rfl rfl fun o948 T948 L948 X948 hQ948 => ?_
  obtain ⟨rfl, N948q, e948⟩ := hQ948
  have N948 := Fr.app N0 N948q
  refine c_sh 36 [.int (own_eq ql2 qc2 rl2 rc2)] rfl rfl ?_
  exact JS931  T948 _ X948 e948 N948 
theorem pn_0 : plainName "com/example/raccordo/raccordo/flow/XmlElementSameAttributesPinLaw" = true := by first | (simp [plainName, overriddenIn]; done) | decide +kernel
theorem pd_22 : parseMethodDescriptor "(IC)Ljava/lang/String;" = some ⟨[.int, .char], some (.object "java/lang/String")⟩ := by decide +kernel
theorem pd_23 : parseMethodDescriptor "(Ljava/lang/String;Ljava/util/List;[IILjava/util/List;)V" = some ⟨[(.object "java/lang/String"), (.object "java/util/List"), (.array .int), .int, (.object "java/util/List")], none⟩ := by decide +kernel
theorem pd_24 : parseMethodDescriptor "([Ljava/lang/String;[Ljava/lang/String;)Z" = some ⟨[(.array (.object "java/lang/String")), (.array (.object "java/lang/String"))], some .boolean⟩ := by decide +kernel
theorem pd_25 : parseMethodDescriptor "(IZZZ)Z" = some ⟨[.int, .boolean, .boolean, .boolean], some .boolean⟩ := by decide +kernel
theorem ef_0 (m : MethodId) (p1 : Int32) (p2 : Int32) (p3 : Int32) (p4 : Int32) : entryFrame m #[.int p1, .int p2, .int p3, .int p4] maxLocals = mkF m 0 #[.val (.int p1), .val (.int p2), .val (.int p3), .val (.int p4), .unset, .unset, .unset, .unset, .unset, .unset, .unset, .unset, .unset, .unset, .unset, .unset, .unset, .unset, .unset, .unset, .unset, .unset, .unset, .unset, .unset, .unset, .unset, .unset, .unset, .unset, .unset, .unset, .unset] [] := by first | (simp [entryFrame, mkF, argsToLocals, Value.category, maxLocals]; done) | rfl
def Q0 (Z : State) (p1 p2 p3 p4 w0 : Int32) (d0 : Addr) (kd : ClassId) (el em mr : Addr) (h0 : Heap) (n0 : Nat) (v : Option Value) (h : Heap) (L : List Loc) : Prop := v = some (.int (1 : Int32)) ∧ Fr n0 L
set_option maxRecDepth 65536 in
set_option maxHeartbeats 40000000 in
theorem rm0 (l : Launch) (Z : State) (a0 : Array Value) (hw : HW Z a0) (ws : List Jvm.Cond) (p1 p2 p3 p4 w0 : Int32) (d0 : Addr) (kd : ClassId) (el em mr : Addr) (h0 : Heap) (n0 : Nat) (Z0 : n0 ≤ h0.size) (P0 : Old Z n0 h0) (P1 : sCS Z w0) (P2 : Sta Z Z.heap "java/util/ArrayList" "DEFAULTCAPACITY_EMPTY_ELEMENTDATA" "[Ljava/lang/Object;" (.ref d0)) (P3 : Arv Z Z.heap d0 kd (.object "java/lang/Object") (0 : Int32) [] .null) (P4 : Sta Z Z.heap "java/util/ImmutableCollections" "EMPTY_LIST" "Ljava/util/ImmutableCollections$ListN;" (.ref el)) (P5 : Sta Z Z.heap "java/util/ImmutableCollections" "EMPTY" "Ljava/lang/Object;" (.ref em)) (hw0 : ¬ w0 = 0) (hm : own_Mir Z "[Ljava/lang/Object;" mr) :
    MetFree l x (head1 (Jvm.Cond.code x code maxLocals ret :: ws) room_1) (fun a U => a = #[.int p1, .int p2, .int p3, .int p4] ∧ Z.Warmed39 U.vm ∧ U.heap = h0 ∧ CHv Z own_EL U.vm h0) (fun _ _ _ _ _ => True) (fun _ U o U' => ∃ v L, o = .returned v ∧ Q0 Z p1 p2 p3 p4 w0 d0 kd el em mr h0 n0 v U'.heap L ∧ CHr Z own_EL U.vm U.heap U'.vm U'.heap ∧ ReturnedEndW U o U' L room_1.cells room_1.slots) := by
 refine MetFree.of_bodySF (plainFor_of_name pn_0) hisR ?_
 intro p e s m args below meth c s₁ Bd hml0 hP hK
 obtain ⟨rfl, hZ, hh, hCH⟩ := hP
 have hx := Bd.exec
 have hby := Bd.bytes
 have hml : c.maxLocals = 33 := hml0
 have hown : s.vm.findClass "com/example/raccordo/raccordo/flow/XmlElementSameAttributesPinLaw" = some m.cls := findClass_of_methodNamed Bd.named
 have hnm := (name_of_methodNamed Bd.named Bd.method).1
 have X0 : Stand p l e room_1 (s.setVm s.vm) m #[.int p1, .int p2, .int p3, .int p4] below meth c s₁ [] 0 0 := Stand.of_body Bd
 have e0 : s₁.heap = h0 := by rw [← hh, Bd.state]; rfl
 have N0 := Fr.nil n0
 have hS0 : s.Since s.vm 0 := (State.WarmedH.refl s).since 0
 have ch0 := CHr.refl hCH
 show Go (own_EndH Z) p e below s room_1.cells room_1.slots (Q0 Z p1 p2 p3 p4 w0 d0 kd el em mr h0 n0) (s₁.setTop (entryFrame m #[.int p1, .int p2, .int p3, .int p4] maxLocals))
 refine go (fun _ k => castTop (ef_0 m p1 p2 p3 p4) k) ?_
 show Go _ p e below s _ _ _ (s₁.setTop (mkF m 0 #[iv p1, iv p2, iv p3, iv p4, .unset, .unset, .unset, .unset, .unset, .unset, .unset, .unset, .unset, .unset, .unset, .unset, .unset, .unset, .unset, .unset, .unset, .unset, .unset, .unset, .unset, .unset, .unset, .unset, .unset, .unset, .unset, .unset, .unset] []))
 refine c_iloadN X0 hx hby at_0 rfl <| c_iconst X0 hx hby 3 at_1 rfl <| c_iand X0 hx hby at_2 <| c_istore X0 hx hby _ at_3 rfl <| c_iloadN X0 hx hby at_5 rfl <| c_iconst X0 hx hby 2 at_6 rfl <| c_iushr X0 hx hby at_7 <| c_iconst X0 hx hby 3 at_8 rfl <| c_iand X0 hx hby at_9 <| c_iconst X0 hx hby 3 at_10 rfl <| c_irem X0 hx hby at_11 (by decide) <| c_istore X0 hx hby #[iv p1, iv p2, iv p3, iv p4, iv (p1 &&& (3 : Int32)), iv ((((p1.toUInt32 >>> ((2 : Int32) &&& 31).toUInt32).toInt32) &&& (3 : Int32)) % (3 : Int32)), .unset, .unset, .unset, .unset, .unset, .unset, .unset, .unset, .unset, .unset, .unset, .unset, .unset, .unset, .unset, .unset, .unset, .unset, .unset, .unset, .unset, .unset, .unset, .unset, .unset, .unset, .unset] at_12 rfl <| c_iloadN X0 hx hby at_14 rfl <| c_iconst X0 hx hby 4 at_15 rfl <| c_iushr X0 hx hby at_16 <| c_sh 17 _ rfl rfl <| c_iconst X0 hx hby 3 at_17 rfl <| c_iand X0 hx hby at_18 <| c_iconst X0 hx hby 3 at_19 rfl <| c_irem X0 hx hby at_20 (by decide) <| c_istore X0 hx hby _ at_21 rfl <| c_iloadN X0 hx hby at_23 rfl <| c_bipush X0 hx hby 6 at_24 rfl <| c_iushr X0 hx hby at_26 <| c_iconst X0 hx hby 3 at_27 rfl <| c_iand X0 hx hby at_28 <| c_iconst X0 hx hby 3 at_29 rfl <| c_irem X0 hx hby at_30 (by decide) <| c_istore X0 hx hby #[iv p1, iv p2, iv p3, iv p4, iv (p1 &&& (3 : Int32)), iv ((((p1.toUInt32 >>> ((2 : Int32) &&& 31).toUInt32).toInt32) &&& (3 : Int32)) % (3 : Int32)), iv ((((p1.toUInt32 >>> ((4 : Int32) &&& 31).toUInt32).toInt32) &&& (3 : Int32)) % (3 : Int32)), iv ((((p1.toUInt32 >>> ((6 : Int32) &&& 31).toUInt32).toInt32) &&& (3 : Int32)) % (3 : Int32)), .unset, .unset, .unset, .unset, .unset, .unset, .unset, .unset, .unset, .unset, .unset, .unset, .unset, .unset, .unset, .unset, .unset, .unset, .unset, .unset, .unset, .unset, .unset, .unset, .unset] at_31 rfl ?_
 have hi0 := own_three ((p1.toUInt32 >>> ((2 : Int32) &&& 31).toUInt32).toInt32)
 generalize ((((p1.toUInt32 >>> ((2 : Int32) &&& 31).toUInt32).toInt32) &&& (3 : Int32)) % (3 : Int32)) = i0 at hi0 ⊢
 have hi1 := own_three ((p1.toUInt32 >>> ((4 : Int32) &&& 31).toUInt32).toInt32)
 generalize ((((p1.toUInt32 >>> ((4 : Int32) &&& 31).toUInt32).toInt32) &&& (3 : Int32)) % (3 : Int32)) = i1 at hi1 ⊢
 have hi2 := own_three ((p1.toUInt32 >>> ((6 : Int32) &&& 31).toUInt32).toInt32)
 generalize ((((p1.toUInt32 >>> ((6 : Int32) &&& 31).toUInt32).toInt32) &&& (3 : Int32)) % (3 : Int32)) = i2 at hi2 ⊢
 have hn4 := own_four p1
 generalize (p1 &&& (3 : Int32)) = nn at hn4 ⊢
 rcases hn4 with rfl | rfl | rfl | rfl
 ·refine c_sh 33 [] rfl rfl <| c_iload X0 hx hby at_33 rfl <| c_ifNo X0 hx hby at_35 ((if0 _ _).trans (teq (rfl : (0 : Int32) = (0 : Int32))).2) <| c_iconst X0 hx hby 0 at_38 rfl <| c_newP X0 hx hby hZ (gw hw 0 rfl) e0 at_39 (by decide) 0 (by decide) (by decide) "[I" (by first | rfl | decide) fun T949 h949 k949 b949 g949 X949 e949 E949 A949 AE949 => ?_
  have G_b949 := Nat.le_trans Z0 (Nat.le_of_eq g949.symm)
  have KK949 := (Keep.refl h0 []).ext E949
  have ZN949 := Nat.le_trans Z0 E949.1
  have HK949 : 0 ≤ h949.size := Nat.le_trans (Nat.zero_le _) E949.1
  have OL949 := P0.ext E949
  have ch949 := ch0.trans (CHr.ext E949 ch0.1)
  have V949 : Arv Z h949 b949 k949 .int (0 : Int32) [] (.int (0 : Int32)) := (Arv.new A949 (by decide)).pad (pad_rep [] (.int (0 : Int32)) 0)
  refine c_sh 41 [.ref b949] rfl rfl <| c_astore X949 hx hby _ at_41 rfl rfl <| c_goto X949 hx hby 109 at_43 (by decide) <| c_shL #[iv p1, iv p2, iv p3, iv p4, iv 0, iv i0, iv i1, iv i2, rv b949, .unset, .unset, .unset, .unset, .unset, .unset, .unset, .unset, .unset, .unset, .unset, .unset, .unset, .unset, .unset, .unset, .unset, .unset, .unset, .unset, .unset, .unset, .unset, .unset] rfl <| c_new X949 hx hby hZ hown (gw hw 1 rfl) (gw hw 2 rfl) (gw hw 3 rfl) e949 at_109 (by decide) fun T950 h950 b950 g950 X950 e950 E950 A950 D950 => ?_
  have G_b950 := Nat.le_trans ZN949 (Nat.le_of_eq g950.symm)
  have KK950 := KK949.ext E950
  have ZN950 := Nat.le_trans ZN949 E950.1
  have HK950 := Nat.le_trans HK949 E950.1
  have OL950 := OL949.ext E950
  have ch950 := ch949.trans (CHr.ext E950 ch949.1)
  refine c_sh 112 [.ref b950] rfl rfl <| c_dup X950 hx hby at_112 rfl ?_
  have cc952 := show Fld Z h950 b950 "java/util/AbstractList" "modCount" "I" (.int (0 : Int32)) from D950 (Or.inl (gw hw 23 rfl)) (ty := .int) (by decide)
  have cc953 := show Fld Z h950 b950 "java/util/ArrayList" "size" "I" (.int (0 : Int32)) from D950 (Or.inl (gw hw 86 rfl)) (ty := .int) (by decide)
  have cc954 := show Fld Z h950 b950 "java/util/ArrayList" "elementData" "[Ljava/lang/Object;" .null from D950 (Or.inl (gw hw 26 rfl)) (ty := (.array (.object "java/lang/Object"))) (by decide)
  refine c_init X950 hx hby hZ hown hml (gw hw 4 rfl) (gw hw 5 rfl) (gw hw 6 rfl) (gw hw 3 rfl) rfl e950 (rm1 hw b950 (.int (0 : Int32)) (.int (0 : Int32)) .null d0 h950 n0 ZN950 P2 OL950 A950 G_b950 cc952 cc953 cc954) pd_4 rfl at_113 [.ref b950] rfl 1 (by decide) rfl rfl fun o951 T951 L951 X951 hQ951 => ?_
  obtain ⟨rfl, N951q, K951, u951_1, u951_2, u951_3⟩ := hQ951
  have N951 := Fr.app N0 N951q
  have ne955 : b949 ≠ b950 := (Nat.ne_of_lt (Nat.lt_of_lt_of_le AE949.lt (Nat.le_of_eq g950.symm)))
  have KK951 := KK950.trans K951 (allS (P := fun x => x ∈ [] ∨ h0.size ≤ x) (Or.inr (Nat.le_trans KK949.1 (Nat.le_of_eq g950.symm))) all0)
  have ZN951 := Nat.le_trans ZN950 K951.1
  have HK951 : 0 ≤ T951.heap.size := Nat.le_trans HK950 K951.1
  have ch951 := ch950.trans (CHr.keep K951 (allS (Safe.exa hZ.alike A950 (by decide) (by decide)) all0) ch950.1)
  have OL951 := OL950.keep K951 (allS G_b950 all0)
  refine c_sh 116 [.ref b950] rfl rfl <| c_astore X951 hx hby _ at_116 rfl rfl <| c_iload X951 hx hby at_118 rfl <| c_iconst X951 hx hby 1 at_120 rfl <| c_icmpYes X951 hx hby 132 at_121 (by decide) (by decide) <| c_iload X951 hx hby at_132 rfl <| c_iconst X951 hx hby 2 at_134 rfl <| c_icmpYes X951 hx hby 146 at_135 (by decide) (by decide) <| c_iload X951 hx hby at_146 rfl <| c_iconst X951 hx hby 3 at_148 rfl <| c_icmpYes X951 hx hby 160 at_149 (by decide) (by decide) <| c_iloadN X951 hx hby at_160 rfl <| c_sipush X951 hx hby 255 at_161 rfl <| c_iand X951 hx hby at_164 <| c_i2c X951 hx hby at_165 <| c_shL #[iv p1, iv p2, iv p3, iv p4, iv 0, iv i0, iv i1, iv i2, rv b949, rv b950, .unset, .unset, .unset, .unset, .unset, .unset, .unset, .unset, .unset, .unset, .unset, .unset, .unset, .unset, .unset, .unset, .unset, .unset, .unset, .unset, .unset, .unset, .unset] rfl ?_
  rw [i2c_mask]
  refine c_sh 166 [.int (p2 &&& (255 : Int32))] rfl rfl <| c_istore X951 hx hby _ at_166 rfl <| c_iloadN X951 hx hby at_168 rfl <| c_bipush X951 hx hby 8 at_169 rfl <| c_iushr X951 hx hby at_171 <| c_sipush X951 hx hby 255 at_172 rfl <| c_iand X951 hx hby at_175 <| c_i2c X951 hx hby at_176 <| c_shL #[iv p1, iv p2, iv p3, iv p4, iv 0, iv i0, iv i1, iv i2, rv b949, rv b950, iv (p2 &&& (255 : Int32)), .unset, .unset, .unset, .unset, .unset, .unset, .unset, .unset, .unset, .unset, .unset, .unset, .unset, .unset, .unset, .unset, .unset, .unset, .unset, .unset, .unset, .unset] rfl ?_
  rw [i2c_mask]
  refine c_sh 177 [.int (((p2.toUInt32 >>> ((8 : Int32) &&& 31).toUInt32).toInt32) &&& (255 : Int32))] rfl rfl <| c_istore X951 hx hby _ at_177 rfl <| c_iloadN X951 hx hby at_179 rfl <| c_bipush X951 hx hby 16 at_180 rfl <| c_iushr X951 hx hby at_182 <| c_sipush X951 hx hby 255 at_183 rfl <| c_iand X951 hx hby at_186 <| c_i2c X951 hx hby at_187 <| c_shL #[iv p1, iv p2, iv p3, iv p4, iv 0, iv i0, iv i1, iv i2, rv b949, rv b950, iv (p2 &&& (255 : Int32)), iv (((p2.toUInt32 >>> ((8 : Int32) &&& 31).toUInt32).toInt32) &&& (255 : Int32)), .unset, .unset, .unset, .unset, .unset, .unset, .unset, .unset, .unset, .unset, .unset, .unset, .unset, .unset, .unset, .unset, .unset, .unset, .unset, .unset, .unset] rfl ?_
  rw [i2c_mask]
  refine c_sh 188 [.int (((p2.toUInt32 >>> ((16 : Int32) &&& 31).toUInt32).toInt32) &&& (255 : Int32))] rfl rfl <| c_istore X951 hx hby _ at_188 rfl <| c_iloadN X951 hx hby at_190 rfl <| c_sipush X951 hx hby 255 at_191 rfl <| c_iand X951 hx hby at_194 <| c_i2c X951 hx hby at_195 <| c_shL #[iv p1, iv p2, iv p3, iv p4, iv 0, iv i0, iv i1, iv i2, rv b949, rv b950, iv (p2 &&& (255 : Int32)), iv (((p2.toUInt32 >>> ((8 : Int32) &&& 31).toUInt32).toInt32) &&& (255 : Int32)), iv (((p2.toUInt32 >>> ((16 : Int32) &&& 31).toUInt32).toInt32) &&& (255 : Int32)), .unset, .unset, .unset, .unset, .unset, .unset, .unset, .unset, .unset, .unset, .unset, .unset, .unset, .unset, .unset, .unset, .unset, .unset, .unset, .unset] rfl ?_
  rw [i2c_mask]
  refine c_sh 196 [.int (p3 &&& (255 : Int32))] rfl rfl <| c_istore X951 hx hby _ at_196 rfl <| c_iloadN X951 hx hby at_198 rfl <| c_bipush X951 hx hby 8 at_199 rfl <| c_iushr X951 hx hby at_201 <| c_sipush X951 hx hby 255 at_202 rfl <| c_iand X951 hx hby at_205 <| c_i2c X951 hx hby at_206 <| c_shL #[iv p1, iv p2, iv p3, iv p4, iv 0, iv i0, iv i1, iv i2, rv b949, rv b950, iv (p2 &&& (255 : Int32)), iv (((p2.toUInt32 >>> ((8 : Int32) &&& 31).toUInt32).toInt32) &&& (255 : Int32)), iv (((p2.toUInt32 >>> ((16 : Int32) &&& 31).toUInt32).toInt32) &&& (255 : Int32)), iv (p3 &&& (255 : Int32)), .unset, .unset, .unset, .unset, .unset, .unset, .unset, .unset, .unset, .unset, .unset, .unset, .unset, .unset, .unset, .unset, .unset, .unset, .unset] rfl ?_
  rw [i2c_mask]
  refine c_sh 207 [.int (((p3.toUInt32 >>> ((8 : Int32) &&& 31).toUInt32).toInt32) &&& (255 : Int32))] rfl rfl <| c_istore X951 hx hby _ at_207 rfl <| c_iloadN X951 hx hby at_209 rfl <| c_bipush X951 hx hby 16 at_210 rfl <| c_iushr X951 hx hby at_212 <| c_sipush X951 hx hby 255 at_213 rfl <| c_iand X951 hx hby at_216 <| c_i2c X951 hx hby at_217 <| c_shL #[iv p1, iv p2, iv p3, iv p4, iv 0, iv i0, iv i1, iv i2, rv b949, rv b950, iv (p2 &&& (255 : Int32)), iv (((p2.toUInt32 >>> ((8 : Int32) &&& 31).toUInt32).toInt32) &&& (255 : Int32)), iv (((p2.toUInt32 >>> ((16 : Int32) &&& 31).toUInt32).toInt32) &&& (255 : Int32)), iv (p3 &&& (255 : Int32)), iv (((p3.toUInt32 >>> ((8 : Int32) &&& 31).toUInt32).toInt32) &&& (255 : Int32)), .unset, .unset, .unset, .unset, .unset, .unset, .unset, .unset, .unset, .unset, .unset, .unset, .unset, .unset, .unset, .unset, .unset, .unset] rfl ?_
  rw [i2c_mask]
  refine c_sh 218 [.int (((p3.toUInt32 >>> ((16 : Int32) &&& 31).toUInt32).toInt32) &&& (255 : Int32))] rfl rfl <| c_istore X951 hx hby _ at_218 rfl <| c_shL #[iv p1, iv p2, iv p3, iv p4, iv 0, iv i0, iv i1, iv i2, rv b949, rv b950, iv (p2 &&& (255 : Int32)), iv (((p2.toUInt32 >>> ((8 : Int32) &&& 31).toUInt32).toInt32) &&& (255 : Int32)), iv (((p2.toUInt32 >>> ((16 : Int32) &&& 31).toUInt32).toInt32) &&& (255 : Int32)), iv (p3 &&& (255 : Int32)), iv (((p3.toUInt32 >>> ((8 : Int32) &&& 31).toUInt32).toInt32) &&& (255 : Int32)), iv (((p3.toUInt32 >>> ((16 : Int32) &&& 31).toUInt32).toInt32) &&& (255 : Int32)), .unset, .unset, .unset, .unset, .unset, .unset, .unset, .unset, .unset, .unset, .unset, .unset, .unset, .unset, .unset, .unset, .unset] rfl ?_
  have hca0 := own_chm p2
  generalize (p2 &&& (255 : Int32)) = ca0 at hca0 ⊢
  have hca1 := own_chm ((p2.toUInt32 >>> ((8 : Int32) &&& 31).toUInt32).toInt32)
  generalize (((p2.toUInt32 >>> ((8 : Int32) &&& 31).toUInt32).toInt32) &&& (255 : Int32)) = ca1 at hca1 ⊢
  have hca2 := own_chm ((p2.toUInt32 >>> ((16 : Int32) &&& 31).toUInt32).toInt32)
  generalize (((p2.toUInt32 >>> ((16 : Int32) &&& 31).toUInt32).toInt32) &&& (255 : Int32)) = ca2 at hca2 ⊢
  have hcb0 := own_chm p3
  generalize (p3 &&& (255 : Int32)) = cb0 at hcb0 ⊢
  have hcb1 := own_chm ((p3.toUInt32 >>> ((8 : Int32) &&& 31).toUInt32).toInt32)
  generalize (((p3.toUInt32 >>> ((8 : Int32) &&& 31).toUInt32).toInt32) &&& (255 : Int32)) = cb1 at hcb1 ⊢
  have hcb2 := own_chm ((p3.toUInt32 >>> ((16 : Int32) &&& 31).toUInt32).toInt32)
  generalize (((p3.toUInt32 >>> ((16 : Int32) &&& 31).toUInt32).toInt32) &&& (255 : Int32)) = cb2 at hcb2 ⊢
  refine c_sh 220 [] rfl rfl ?_
  have JQ0_956 : ∀ (q0 : Int32), Go (own_EndH Z) p e below s room_1.cells room_1.slots (Q0 Z p1 p2 p3 p4 w0 d0 kd el em mr h0 n0) (T951.setTop (mkF m 231 #[iv p1, iv p2, iv p3, iv p4, iv 0, iv i0, iv i1, iv i2, rv b949, rv b950, iv ca0, iv ca1, iv ca2, iv cb0, iv cb1, iv cb2, .unset, .unset, .unset, .unset, .unset, .unset, .unset, .unset, .unset, .unset, .unset, .unset, .unset, .unset, .unset, .unset, .unset] [.int q0])) := by
   intro q0
   refine c_istore X951 hx hby _ at_231 rfl <| c_shL #[iv p1, iv p2, iv p3, iv p4, iv 0, iv i0, iv i1, iv i2, rv b949, rv b950, iv ca0, iv ca1, iv ca2, iv cb0, iv cb1, iv cb2, iv q0, .unset, .unset, .unset, .unset, .unset, .unset, .unset, .unset, .unset, .unset, .unset, .unset, .unset, .unset, .unset, .unset] rfl ?_
   have JQ1_957 : ∀ (q1 : Int32), Go (own_EndH Z) p e below s room_1.cells room_1.slots (Q0 Z p1 p2 p3 p4 w0 d0 kd el em mr h0 n0) (T951.setTop (mkF m 246 #[iv p1, iv p2, iv p3, iv p4, iv 0, iv i0, iv i1, iv i2, rv b949, rv b950, iv ca0, iv ca1, iv ca2, iv cb0, iv cb1, iv cb2, iv q0, .unset, .unset, .unset, .unset, .unset, .unset, .unset, .unset, .unset, .unset, .unset, .unset, .unset, .unset, .unset, .unset] [.int q1])) := by
    intro q1
    refine c_istore X951 hx hby _ at_246 rfl <| c_shL #[iv p1, iv p2, iv p3, iv p4, iv 0, iv i0, iv i1, iv i2, rv b949, rv b950, iv ca0, iv ca1, iv ca2, iv cb0, iv cb1, iv cb2, iv q0, iv q1, .unset, .unset, .unset, .unset, .unset, .unset, .unset, .unset, .unset, .unset, .unset, .unset, .unset, .unset, .unset] rfl ?_
    have JQ2_958 : ∀ (q2 : Int32), Go (own_EndH Z) p e below s room_1.cells room_1.slots (Q0 Z p1 p2 p3 p4 w0 d0 kd el em mr h0 n0) (T951.setTop (mkF m 261 #[iv p1, iv p2, iv p3, iv p4, iv 0, iv i0, iv i1, iv i2, rv b949, rv b950, iv ca0, iv ca1, iv ca2, iv cb0, iv cb1, iv cb2, iv q0, iv q1, .unset, .unset, .unset, .unset, .unset, .unset, .unset, .unset, .unset, .unset, .unset, .unset, .unset, .unset, .unset] [.int q2])) := by
     intro q2
     refine c_istore X951 hx hby _ at_261 rfl <| c_iloadN X951 hx hby at_263 rfl <| c_iconst X951 hx hby 3 at_264 rfl <| c_iushr X951 hx hby at_265 <| c_iconst X951 hx hby 1 at_266 rfl <| c_iand X951 hx hby at_267 <| c_istore X951 hx hby #[iv p1, iv p2, iv p3, iv p4, iv 0, iv i0, iv i1, iv i2, rv b949, rv b950, iv ca0, iv ca1, iv ca2, iv cb0, iv cb1, iv cb2, iv q0, iv q1, iv q2, iv (((p4.toUInt32 >>> ((3 : Int32) &&& 31).toUInt32).toInt32) &&& (1 : Int32)), .unset, .unset, .unset, .unset, .unset, .unset, .unset, .unset, .unset, .unset, .unset, .unset, .unset] at_268 rfl <| c_iloadN X951 hx hby at_270 rfl <| c_iconst X951 hx hby 4 at_271 rfl <| c_iushr X951 hx hby at_272 <| c_iconst X951 hx hby 1 at_273 rfl <| c_iand X951 hx hby at_274 <| c_istore X951 hx hby _ at_275 rfl <| c_iloadN X951 hx hby at_277 rfl <| c_iconst X951 hx hby 5 at_278 rfl <| c_sh 279 _ rfl rfl <| c_iushr X951 hx hby at_279 <| c_iconst X951 hx hby 1 at_280 rfl <| c_iand X951 hx hby at_281 <| c_istore X951 hx hby #[iv p1, iv p2, iv p3, iv p4, iv 0, iv i0, iv i1, iv i2, rv b949, rv b950, iv ca0, iv ca1, iv ca2, iv cb0, iv cb1, iv cb2, iv q0, iv q1, iv q2, iv (((p4.toUInt32 >>> ((3 : Int32) &&& 31).toUInt32).toInt32) &&& (1 : Int32)), iv (((p4.toUInt32 >>> ((4 : Int32) &&& 31).toUInt32).toInt32) &&& (1 : Int32)), iv (((p4.toUInt32 >>> ((5 : Int32) &&& 31).toUInt32).toInt32) &&& (1 : Int32)), .unset, .unset, .unset, .unset, .unset, .unset, .unset, .unset, .unset, .unset, .unset] at_282 rfl <| c_iloadN X951 hx hby at_284 rfl <| c_bipush X951 hx hby 6 at_285 rfl <| c_iushr X951 hx hby at_287 <| c_iconst X951 hx hby 1 at_288 rfl <| c_iand X951 hx hby at_289 <| c_istore X951 hx hby _ at_290 rfl <| c_iloadN X951 hx hby at_292 rfl <| c_bipush X951 hx hby 7 at_293 rfl <| c_iushr X951 hx hby at_295 <| c_iconst X951 hx hby 1 at_296 rfl <| c_iand X951 hx hby at_297 <| c_sh 298 _ rfl rfl <| c_istore X951 hx hby #[iv p1, iv p2, iv p3, iv p4, iv 0, iv i0, iv i1, iv i2, rv b949, rv b950, iv ca0, iv ca1, iv ca2, iv cb0, iv cb1, iv cb2, iv q0, iv q1, iv q2, iv (((p4.toUInt32 >>> ((3 : Int32) &&& 31).toUInt32).toInt32) &&& (1 : Int32)), iv (((p4.toUInt32 >>> ((4 : Int32) &&& 31).toUInt32).toInt32) &&& (1 : Int32)), iv (((p4.toUInt32 >>> ((5 : Int32) &&& 31).toUInt32).toInt32) &&& (1 : Int32)), iv (((p4.toUInt32 >>> ((6 : Int32) &&& 31).toUInt32).toInt32) &&& (1 : Int32)), iv (((p4.toUInt32 >>> ((7 : Int32) &&& 31).toUInt32).toInt32) &&& (1 : Int32)), .unset, .unset, .unset, .unset, .unset, .unset, .unset, .unset, .unset] at_298 rfl <| c_iloadN X951 hx hby at_300 rfl <| c_bipush X951 hx hby 8 at_301 rfl <| c_iushr X951 hx hby at_303 <| c_iconst X951 hx hby 1 at_304 rfl <| c_iand X951 hx hby at_305 <| c_istore X951 hx hby _ at_306 rfl <| c_shL #[iv p1, iv p2, iv p3, iv p4, iv 0, iv i0, iv i1, iv i2, rv b949, rv b950, iv ca0, iv ca1, iv ca2, iv cb0, iv cb1, iv cb2, iv q0, iv q1, iv q2, iv (((p4.toUInt32 >>> ((3 : Int32) &&& 31).toUInt32).toInt32) &&& (1 : Int32)), iv (((p4.toUInt32 >>> ((4 : Int32) &&& 31).toUInt32).toInt32) &&& (1 : Int32)), iv (((p4.toUInt32 >>> ((5 : Int32) &&& 31).toUInt32).toInt32) &&& (1 : Int32)), iv (((p4.toUInt32 >>> ((6 : Int32) &&& 31).toUInt32).toInt32) &&& (1 : Int32)), iv (((p4.toUInt32 >>> ((7 : Int32) &&& 31).toUInt32).toInt32) &&& (1 : Int32)), iv (((p4.toUInt32 >>> ((8 : Int32) &&& 31).toUInt32).toInt32) &&& (1 : Int32)), .unset, .unset, .unset, .unset, .unset, .unset, .unset, .unset] rfl ?_
     have hla0 := own_bit ((p4.toUInt32 >>> ((3 : Int32) &&& 31).toUInt32).toInt32)
     generalize (((p4.toUInt32 >>> ((3 : Int32) &&& 31).toUInt32).toInt32) &&& (1 : Int32)) = la0 at hla0 ⊢
     have hla1 := own_bit ((p4.toUInt32 >>> ((4 : Int32) &&& 31).toUInt32).toInt32)
     generalize (((p4.toUInt32 >>> ((4 : Int32) &&& 31).toUInt32).toInt32) &&& (1 : Int32)) = la1 at hla1 ⊢
     have hla2 := own_bit ((p4.toUInt32 >>> ((5 : Int32) &&& 31).toUInt32).toInt32)
     generalize (((p4.toUInt32 >>> ((5 : Int32) &&& 31).toUInt32).toInt32) &&& (1 : Int32)) = la2 at hla2 ⊢
     have hlb0 := own_bit ((p4.toUInt32 >>> ((6 : Int32) &&& 31).toUInt32).toInt32)
     generalize (((p4.toUInt32 >>> ((6 : Int32) &&& 31).toUInt32).toInt32) &&& (1 : Int32)) = lb0 at hlb0 ⊢
     have hlb1 := own_bit ((p4.toUInt32 >>> ((7 : Int32) &&& 31).toUInt32).toInt32)
     generalize (((p4.toUInt32 >>> ((7 : Int32) &&& 31).toUInt32).toInt32) &&& (1 : Int32)) = lb1 at hlb1 ⊢
     have hlb2 := own_bit ((p4.toUInt32 >>> ((8 : Int32) &&& 31).toUInt32).toInt32)
     generalize (((p4.toUInt32 >>> ((8 : Int32) &&& 31).toUInt32).toInt32) &&& (1 : Int32)) = lb2 at hlb2 ⊢
     refine c_sh 308 [] rfl rfl <| c_iconst X951 hx hby 3 at_308 rfl ?_
     obtain ⟨T959, h959, k959, X959, e959, E959, A959, AE959, O959, st959⟩ := newRE X951 hx hZ hown (gw hw 27 rfl) (gw hw 28 rfl) rfl (g := (mkF m 309 #[iv p1, iv p2, iv p3, iv p4, iv 0, iv i0, iv i1, iv i2, rv b949, rv b950, iv ca0, iv ca1, iv ca2, iv cb0, iv cb1, iv cb2, iv q0, iv q1, iv q2, iv la0, iv la1, iv la2, iv lb0, iv lb1, iv lb2, .unset, .unset, .unset, .unset, .unset, .unset, .unset, .unset] [.int 3])) rfl (hb hby at_309) rfl (by decide) (cap := 3) (by decide) (by decide) (by decide) (by decide) (ad := "[Ljava/lang/String;") (by first | rfl | decide)
     obtain ⟨b959, g959⟩ : ∃ z, z = T951.heap.size := ⟨_, rfl⟩
     rw [← g959] at A959 AE959 st959
     have G_b959 := Nat.le_trans ZN951 (Nat.le_of_eq g959.symm)
     have KK959 := KK951.ext E959
     have ZN959 := Nat.le_trans ZN951 E959.1
     have HK959 := Nat.le_trans HK951 E959.1
     have OL959 := OL951.ext E959
     have ch959 := ch951.trans (CHr.ext E959 ch951.1)
     have V959 : Arv Z h959 b959 k959 (.object "java/lang/String") (3 : Int32) [.null, .null, .null] .null := (Arv.new A959 (by decide)).pad (pad_rep [] .null 3)
     refine go st959 ?_
     show Go _ p e below s _ _ _ (T959.setTop (mkF m 312 #[iv p1, iv p2, iv p3, iv p4, iv 0, iv i0, iv i1, iv i2, rv b949, rv b950, iv ca0, iv ca1, iv ca2, iv cb0, iv cb1, iv cb2, iv q0, iv q1, iv q2, iv la0, iv la1, iv la2, iv lb0, iv lb1, iv lb2, .unset, .unset, .unset, .unset, .unset, .unset, .unset, .unset] [.ref b959]))
     refine c_dup X959 hx hby at_312 rfl <| c_iconst X959 hx hby 0 at_313 rfl <| c_iload X959 hx hby at_314 rfl <| c_iload X959 hx hby at_316 rfl <| c_callSH X959 hx hby hZ hown hml (gw hw 29 rfl) (gw hw 30 rfl) (gw hw 31 rfl) (gw hw 32 rfl) e959 (own_EW hw) ch959 hS0 HK959 (rmMK hw la0 ca0 w0 h959 n0 ZN959 P1 OL959 hw0 hla0 hca0) pd_22 rfl at_318 [.int 0, .ref b959, .ref b959] rfl 3 (by decide) rfl rfl fun o960 T960 L960 X960 hS960 hZ hown hR960 ch960 hQ960 => ?_
     obtain ⟨b960, bb960, kb960, rfl, N960q, u960_0, u960_1, K960, u960_3, u960_4, u960_5, u960_6⟩ := hQ960
     have N960 := Fr.app N951 N960q
     have G_b960 := Nat.le_trans ZN959 u960_0
     have KK960 := KK959.trans K960 all0
     have ZN960 := Nat.le_trans ZN959 K960.1
     have OL960 := OL959.keep K960 all0
     refine c_sh 321 [.ref b960, .int 0, .ref b959, .ref b959] rfl rfl ?_
     have cc961 := V959.keep K960 nin0
     obtain ⟨cl962, Ar962, q962, Sz962, Nz962, Hs962, Gs962⟩ := id cc961
     have hin962 : ¬ ((0 : Int32) < 0 ∨ cl962.slots.size ≤ ((0 : Int32)).toNatClampNeg) := inb_of Sz962 ⟨by decide, by decide⟩
     obtain ⟨T962, h962, X962, e962, W962, st962⟩ := stR X960 hx hZ rfl Ar962 (j := (0 : Int32)) hin962 rfl (Sto.ofV Ar962 q962 O959 (Ins.self u960_3)) (g := (mkF m 321 #[iv p1, iv p2, iv p3, iv p4, iv 0, iv i0, iv i1, iv i2, rv b949, rv b950, iv ca0, iv ca1, iv ca2, iv cb0, iv cb1, iv cb2, iv q0, iv q1, iv q2, iv la0, iv la1, iv la2, iv lb0, iv lb1, iv lb2, .unset, .unset, .unset, .unset, .unset, .unset, .unset, .unset] [.ref b960, .int 0, .ref b959, .ref b959])) rfl rfl (hb hby at_321)
     have V962 := Arv.set Ar962 q962 Sz962 Nz962 Hs962 Gs962 rfl W962 0 rfl (Nat.le_of_ble_eq_true rfl)
     have VV962 : Arv Z h962 b959 k959 (.object "java/lang/String") (3 : Int32) [(.ref b960), .null, .null] .null := V962
     have cc963 := AE959.keep K960
     have ne964 : b949 ≠ b959 := (Nat.ne_of_lt (Nat.lt_of_lt_of_le ((AE949.ext E950).keep K951).lt (Nat.le_of_eq g959.symm)))
     have ne965 : b950 ≠ b959 := (Nat.ne_of_lt (Nat.lt_of_lt_of_le (A950.keep K951).lt (Nat.le_of_eq g959.symm)))
     have ne966 : b960 ≠ b959 := (Ne.symm (Nat.ne_of_lt (Nat.lt_of_lt_of_le AE959.lt u960_0)))
     have ne967 : bb960 ≠ b959 := (own_tyne u960_6 cc961 (by decide))
     have KK962 := KK960.wr W962 (Or.inr (Nat.le_trans KK951.1 (Nat.le_of_eq g959.symm)))
     have ZN962 := Nat.le_trans ZN960 (Keep.of_wr W962).1
     have HK962 : T960.heap.size ≤ h962.size := Nat.le_trans (Nat.le_refl _) (Keep.of_wr W962).1
     have NN962 := Fr.snoc X962 N960 G_b959
     have OL962 := OL960.wr W962 G_b959
     have ch962 := ch960.trans (CHr.wr W962 (Safe.exa hZ.alike cc963 (by decide) (by decide)) ch960.1)
     refine go st962 ?_
     show Go _ p e below s _ _ _ (T962.setTop (mkF m 322 #[iv p1, iv p2, iv p3, iv p4, iv 0, iv i0, iv i1, iv i2, rv b949, rv b950, iv ca0, iv ca1, iv ca2, iv cb0, iv cb1, iv cb2, iv q0, iv q1, iv q2, iv la0, iv la1, iv la2, iv lb0, iv lb1, iv lb2, .unset, .unset, .unset, .unset, .unset, .unset, .unset, .unset] [.ref b959]))
     refine c_dup X962 hx hby at_322 rfl <| c_iconst X962 hx hby 1 at_323 rfl <| c_iload X962 hx hby at_324 rfl <| c_iload X962 hx hby at_326 rfl <| c_callSH X962 hx hby hZ hown hml (gw hw 29 rfl) (gw hw 30 rfl) (gw hw 31 rfl) (gw hw 32 rfl) e962 (own_EW hw) ch962 hS960 HK962 (rmMK hw la1 ca1 w0 h962 n0 ZN962 P1 OL962 hw0 hla1 hca1) pd_22 rfl at_328 [.int 1, .ref b959, .ref b959] rfl 3 (by decide) rfl rfl fun o968 T968 L968 X968 hS968 hZ hown hR968 ch968 hQ968 => ?_
     obtain ⟨b968, bb968, kb968, rfl, N968q, u968_0, u968_1, K968, u968_3, u968_4, u968_5, u968_6⟩ := hQ968
     have N968 := Fr.app NN962 N968q
     have G_b968 := Nat.le_trans ZN962 u968_0
     have KK968 := KK962.trans K968 all0
     have ZN968 := Nat.le_trans ZN962 K968.1
     have OL968 := OL962.keep K968 all0
     refine c_sh 331 [.ref b968, .int 1, .ref b959, .ref b959] rfl rfl ?_
     have cc969 := VV962.keep K968 nin0
     obtain ⟨cl970, Ar970, q970, Sz970, Nz970, Hs970, Gs970⟩ := id cc969
     have hin970 : ¬ ((1 : Int32) < 0 ∨ cl970.slots.size ≤ ((1 : Int32)).toNatClampNeg) := inb_of Sz970 ⟨by decide, by decide⟩
     obtain ⟨T970, h970, X970, e970, W970, st970⟩ := stR X968 hx hZ rfl Ar970 (j := (1 : Int32)) hin970 rfl (Sto.ofV Ar970 q970 O959 (Ins.self u968_3)) (g := (mkF m 331 #[iv p1, iv p2, iv p3, iv p4, iv 0, iv i0, iv i1, iv i2, rv b949, rv b950, iv ca0, iv ca1, iv ca2, iv cb0, iv cb1, iv cb2, iv q0, iv q1, iv q2, iv la0, iv la1, iv la2, iv lb0, iv lb1, iv lb2, .unset, .unset, .unset, .unset, .unset, .unset, .unset, .unset] [.ref b968, .int 1, .ref b959, .ref b959])) rfl rfl (hb hby at_331)
     have V970 := Arv.set Ar970 q970 Sz970 Nz970 Hs970 Gs970 rfl W970 1 rfl (Nat.le_of_ble_eq_true rfl)
     have VV970 : Arv Z h970 b959 k959 (.object "java/lang/String") (3 : Int32) [(.ref b960), (.ref b968), .null] .null := V970
     have cc971 := (cc963.wr W962).keep K968
     have ne972 : b968 ≠ b959 := (Ne.symm (Nat.ne_of_lt (Nat.lt_of_lt_of_le (cc963.wr W962).lt u968_0)))
     have ne973 : bb968 ≠ b959 := (own_tyne u968_6 cc969 (by decide))
     have KK970 := KK968.wr W970 (Or.inr (Nat.le_trans KK951.1 (Nat.le_of_eq g959.symm)))
     have ZN970 := Nat.le_trans ZN968 (Keep.of_wr W970).1
     have HK970 : T968.heap.size ≤ h970.size := Nat.le_trans (Nat.le_refl _) (Keep.of_wr W970).1
     have NN970 := Fr.snoc X970 N968 G_b959
     have OL970 := OL968.wr W970 G_b959
     have ch970 := ch968.trans (CHr.wr W970 (Safe.exa hZ.alike cc971 (by decide) (by decide)) ch968.1)
     refine go st970 ?_
     show Go _ p e below s _ _ _ (T970.setTop (mkF m 332 #[iv p1, iv p2, iv p3, iv p4, iv 0, iv i0, iv i1, iv i2, rv b949, rv b950, iv ca0, iv ca1, iv ca2, iv cb0, iv cb1, iv cb2, iv q0, iv q1, iv q2, iv la0, iv la1, iv la2, iv lb0, iv lb1, iv lb2, .unset, .unset, .unset, .unset, .unset, .unset, .unset, .unset] [.ref b959]))
     refine c_dup X970 hx hby at_332 rfl <| c_iconst X970 hx hby 2 at_333 rfl <| c_iload X970 hx hby at_334 rfl <| c_iload X970 hx hby at_336 rfl <| c_callSH X970 hx hby hZ hown hml (gw hw 29 rfl) (gw hw 30 rfl) (gw hw 31 rfl) (gw hw 32 rfl) e970 (own_EW hw) ch970 hS968 HK970 (rmMK hw la2 ca2 w0 h970 n0 ZN970 P1 OL970 hw0 hla2 hca2) pd_22 rfl at_338 [.int 2, .ref b959, .ref b959] rfl 3 (by decide) rfl rfl fun o974 T974 L974 X974 hS974 hZ hown hR974 ch974 hQ974 => ?_
     obtain ⟨b974, bb974, kb974, rfl, N974q, u974_0, u974_1, K974, u974_3, u974_4, u974_5, u974_6⟩ := hQ974
     have N974 := Fr.app NN970 N974q
     have G_b974 := Nat.le_trans ZN970 u974_0
     have KK974 := KK970.trans K974 all0
     have ZN974 := Nat.le_trans ZN970 K974.1
     have OL974 := OL970.keep K974 all0
     refine c_sh 341 [.ref b974, .int 2, .ref b959, .ref b959] rfl rfl ?_
     have cc975 := VV970.keep K974 nin0
     obtain ⟨cl976, Ar976, q976, Sz976, Nz976, Hs976, Gs976⟩ := id cc975
     have hin976 : ¬ ((2 : Int32) < 0 ∨ cl976.slots.size ≤ ((2 : Int32)).toNatClampNeg) := inb_of Sz976 ⟨by decide, by decide⟩
     obtain ⟨T976, h976, X976, e976, W976, st976⟩ := stR X974 hx hZ rfl Ar976 (j := (2 : Int32)) hin976 rfl (Sto.ofV Ar976 q976 O959 (Ins.self u974_3)) (g := (mkF m 341 #[iv p1, iv p2, iv p3, iv p4, iv 0, iv i0, iv i1, iv i2, rv b949, rv b950, iv ca0, iv ca1, iv ca2, iv cb0, iv cb1, iv cb2, iv q0, iv q1, iv q2, iv la0, iv la1, iv la2, iv lb0, iv lb1, iv lb2, .unset, .unset, .unset, .unset, .unset, .unset, .unset, .unset] [.ref b974, .int 2, .ref b959, .ref b959])) rfl rfl (hb hby at_341)
     have V976 := Arv.set Ar976 q976 Sz976 Nz976 Hs976 Gs976 rfl W976 2 rfl (Nat.le_of_ble_eq_true rfl)
     have VV976 : Arv Z h976 b959 k959 (.object "java/lang/String") (3 : Int32) [(.ref b960), (.ref b968), (.ref b974)] .null := V976
     have cc977 := (cc971.wr W970).keep K974
     have ne978 : b974 ≠ b959 := (Ne.symm (Nat.ne_of_lt (Nat.lt_of_lt_of_le (cc971.wr W970).lt u974_0)))
     have ne979 : bb974 ≠ b959 := (own_tyne u974_6 cc975 (by decide))
     have KK976 := KK974.wr W976 (Or.inr (Nat.le_trans KK951.1 (Nat.le_of_eq g959.symm)))
     have ZN976 := Nat.le_trans ZN974 (Keep.of_wr W976).1
     have HK976 : T974.heap.size ≤ h976.size := Nat.le_trans (Nat.le_refl _) (Keep.of_wr W976).1
     have NN976 := Fr.snoc X976 N974 G_b959
     have OL976 := OL974.wr W976 G_b959
     have ch976 := ch974.trans (CHr.wr W976 (Safe.exa hZ.alike cc977 (by decide) (by decide)) ch974.1)
     refine go st976 ?_
     show Go _ p e below s _ _ _ (T976.setTop (mkF m 342 #[iv p1, iv p2, iv p3, iv p4, iv 0, iv i0, iv i1, iv i2, rv b949, rv b950, iv ca0, iv ca1, iv ca2, iv cb0, iv cb1, iv cb2, iv q0, iv q1, iv q2, iv la0, iv la1, iv la2, iv lb0, iv lb1, iv lb2, .unset, .unset, .unset, .unset, .unset, .unset, .unset, .unset] [.ref b959]))
     refine c_astore X976 hx hby _ at_342 rfl rfl <| c_iconst X976 hx hby 3 at_344 rfl <| c_shL #[iv p1, iv p2, iv p3, iv p4, iv 0, iv i0, iv i1, iv i2, rv b949, rv b950, iv ca0, iv ca1, iv ca2, iv cb0, iv cb1, iv cb2, iv q0, iv q1, iv q2, iv la0, iv la1, iv la2, iv lb0, iv lb1, iv lb2, rv b959, .unset, .unset, .unset, .unset, .unset, .unset, .unset] rfl ?_
     obtain ⟨T980, h980, k980, X980, e980, E980, A980, AE980, O980, st980⟩ := newRE X976 hx hZ hown (gw hw 27 rfl) (gw hw 28 rfl) e976 (g := (mkF m 345 #[iv p1, iv p2, iv p3, iv p4, iv 0, iv i0, iv i1, iv i2, rv b949, rv b950, iv ca0, iv ca1, iv ca2, iv cb0, iv cb1, iv cb2, iv q0, iv q1, iv q2, iv la0, iv la1, iv la2, iv lb0, iv lb1, iv lb2, rv b959, .unset, .unset, .unset, .unset, .unset, .unset, .unset] [.int 3])) rfl (hb hby at_345) rfl (by decide) (cap := 3) (by decide) (by decide) (by decide) (by decide) (ad := "[Ljava/lang/String;") (by first | rfl | decide)
     obtain ⟨b980, g980⟩ : ∃ z, z = h976.size := ⟨_, rfl⟩
     rw [← g980] at A980 AE980 st980
     have G_b980 := Nat.le_trans ZN976 (Nat.le_of_eq g980.symm)
     have KK980 := KK976.ext E980
     have ZN980 := Nat.le_trans ZN976 E980.1
     have HK980 := Nat.le_trans HK976 E980.1
     have OL980 := OL976.ext E980
     have ch980 := ch976.trans (CHr.ext E980 ch976.1)
     have V980 : Arv Z h980 b980 k980 (.object "java/lang/String") (3 : Int32) [.null, .null, .null] .null := (Arv.new A980 (by decide)).pad (pad_rep [] .null 3)
     refine go st980 ?_
     show Go _ p e below s _ _ _ (T980.setTop (mkF m 348 #[iv p1, iv p2, iv p3, iv p4, iv 0, iv i0, iv i1, iv i2, rv b949, rv b950, iv ca0, iv ca1, iv ca2, iv cb0, iv cb1, iv cb2, iv q0, iv q1, iv q2, iv la0, iv la1, iv la2, iv lb0, iv lb1, iv lb2, rv b959, .unset, .unset, .unset, .unset, .unset, .unset, .unset] [.ref b980]))
     refine c_dup X980 hx hby at_348 rfl <| c_iconst X980 hx hby 0 at_349 rfl ?_
     have JO0_981 : ∀ (o0 : Addr) (ov0 : Addr) (ok0 : ClassId) (lo0 : Int32) (co0 : Int32) (T982 : State) (locs982 : List Loc) (_ : Stand p l e room_1 (s.setVm T982.vm) m #[.int p1, .int p2, .int p3, .int p4] below meth c T982 locs982 28 57) (_ : s.Since T982.vm T982.heap.size) (_ : Z.Warmed39 T982.vm) (_ : T982.vm.findClass "com/example/raccordo/raccordo/flow/XmlElementSameAttributesPinLaw" = some m.cls) (_ : Fr n0 locs982) (_ : Keep h0 T982.heap []) (_ : n0 ≤ T982.heap.size) (_ : Old Z n0 T982.heap) (_ : CHr Z own_EL s.vm h0 T982.vm T982.heap) (_ : Exa Z T982.heap b949 "[I") (_ : Arv Z T982.heap b949 k949 .int (0 : Int32) [] (.int (0 : Int32))) (_ : Exa Z T982.heap b950 "java/util/ArrayList") (_ : Fld Z T982.heap b950 "java/util/ArrayList" "size" "I" (.int (0 : Int32))) (_ : Fld Z T982.heap b950 "java/util/ArrayList" "elementData" "[Ljava/lang/Object;" (.ref d0)) (_ : Exa Z T982.heap b959 "[Ljava/lang/String;") (_ : Arv Z T982.heap b959 k959 (.object "java/lang/String") (3 : Int32) [(.ref b960), (.ref b968), (.ref b974)] .null) (_ : eS Z T982.heap b960) (_ : fC Z T982.heap b960) (_ : fV Z T982.heap b960 bb960) (_ : Arv Z T982.heap bb960 kb960 .byte la0 (own_vs la0 ca0) (.int (0 : Int32))) (_ : eS Z T982.heap b968) (_ : fC Z T982.heap b968) (_ : fV Z T982.heap b968 bb968) (_ : Arv Z T982.heap bb968 kb968 .byte la1 (own_vs la1 ca1) (.int (0 : Int32))) (_ : eS Z T982.heap b974) (_ : fC Z T982.heap b974) (_ : fV Z T982.heap b974 bb974) (_ : Arv Z T982.heap bb974 kb974 .byte la2 (own_vs la2 ca2) (.int (0 : Int32))) (_ : Exa Z T982.heap b980 "[Ljava/lang/String;") (_ : Arv Z T982.heap b980 k980 (.object "java/lang/String") (3 : Int32) [.null, .null, .null] .null) (_ : eS Z T982.heap o0) (_ : fC Z T982.heap o0) (_ : fV Z T982.heap o0 ov0) (_ : Arv Z T982.heap ov0 ok0 .byte lo0 (own_vs lo0 co0) (.int (0 : Int32))) (_ : h980.size ≤ o0), (own_o q0 la0 ca0 lb0 cb0 lo0 co0) → (lo0 = 0 ∨ lo0 = 1) → (own_ch co0) → Go (own_EndH Z) p e below s room_1.cells room_1.slots (Q0 Z p1 p2 p3 p4 w0 d0 kd el em mr h0 n0) (T982.setTop (mkF m 372 #[iv p1, iv p2, iv p3, iv p4, iv 0, iv i0, iv i1, iv i2, rv b949, rv b950, iv ca0, iv ca1, iv ca2, iv cb0, iv cb1, iv cb2, iv q0, iv q1, iv q2, iv la0, iv la1, iv la2, iv lb0, iv lb1, iv lb2, rv b959, .unset, .unset, .unset, .unset, .unset, .unset, .unset] [.ref o0, .int 0, .ref b980, .ref b980])) := by
      intro o0 ov0 ok0 lo0 co0 T982 locs982 X982 hS982 hZ hown NF982 KK982 ZN982 OL982 ch982 ff982_0 ff982_1 ff982_2 ff982_3 ff982_4 ff982_5 ff982_6 ff982_7 ff982_8 ff982_9 ff982_10 ff982_11 ff982_12 ff982_13 ff982_14 ff982_15 ff982_16 ff982_17 ff982_18 ff982_19 ff982_20 ff982_21 ff982_22 ff982_23 ff982_24 fz982_0 ho0 hlo0 hco0
      have G_o0 := Nat.le_trans ZN980 fz982_0
      obtain ⟨cl983, Ar983, q983, Sz983, Nz983, Hs983, Gs983⟩ := id ff982_20
      have hin983 : ¬ ((0 : Int32) < 0 ∨ cl983.slots.size ≤ ((0 : Int32)).toNatClampNeg) := inb_of Sz983 ⟨by decide, by decide⟩
      obtain ⟨T983, h983, X983, e983, W983, st983⟩ := stR X982 hx hZ rfl Ar983 (j := (0 : Int32)) hin983 rfl (Sto.ofV Ar983 q983 O980 (Ins.self ff982_21)) (g := (mkF m 372 #[iv p1, iv p2, iv p3, iv p4, iv 0, iv i0, iv i1, iv i2, rv b949, rv b950, iv ca0, iv ca1, iv ca2, iv cb0, iv cb1, iv cb2, iv q0, iv q1, iv q2, iv la0, iv la1, iv la2, iv lb0, iv lb1, iv lb2, rv b959, .unset, .unset, .unset, .unset, .unset, .unset, .unset] [.ref o0, .int 0, .ref b980, .ref b980])) rfl rfl (hb hby at_372)
      have V983 := Arv.set Ar983 q983 Sz983 Nz983 Hs983 Gs983 rfl W983 0 rfl (Nat.le_of_ble_eq_true rfl)
      have VV983 : Arv Z h983 b980 k980 (.object "java/lang/String") (3 : Int32) [(.ref o0), .null, .null] .null := V983
      have ne984 : b949 ≠ b980 := (Nat.ne_of_lt (Nat.lt_of_lt_of_le (((((((((AE949.ext E950).keep K951).ext E959).keep K960).wr W962).keep K968).wr W970).keep K974).wr W976).lt (Nat.le_of_eq g980.symm)))
      have ne985 : b950 ≠ b980 := (Nat.ne_of_lt (Nat.lt_of_lt_of_le ((((((((A950.keep K951).ext E959).keep K960).wr W962).keep K968).wr W970).keep K974).wr W976).lt (Nat.le_of_eq g980.symm)))
      have ne986 : b959 ≠ b980 := (Nat.ne_of_lt (Nat.lt_of_lt_of_le (cc977.wr W976).lt (Nat.le_of_eq g980.symm)))
      have ne987 : b960 ≠ b980 := (Nat.ne_of_lt (Nat.lt_of_lt_of_le (((((u960_3.wr W962).keep K968).wr W970).keep K974).wr W976).lt (Nat.le_of_eq g980.symm)))
      have ne988 : bb960 ≠ b980 := (Nat.ne_of_lt (Nat.lt_of_lt_of_le (((((u960_6.other W962 ne967).keep K968 nin0).other W970 ne967).keep K974 nin0).other W976 ne967).lt (Nat.le_of_eq g980.symm)))
      have ne989 : b968 ≠ b980 := (Nat.ne_of_lt (Nat.lt_of_lt_of_le (((u968_3.wr W970).keep K974).wr W976).lt (Nat.le_of_eq g980.symm)))
      have ne990 : bb968 ≠ b980 := (Nat.ne_of_lt (Nat.lt_of_lt_of_le (((u968_6.other W970 ne973).keep K974 nin0).other W976 ne973).lt (Nat.le_of_eq g980.symm)))
      have ne991 : b974 ≠ b980 := (Nat.ne_of_lt (Nat.lt_of_lt_of_le (u974_3.wr W976).lt (Nat.le_of_eq g980.symm)))
      have ne992 : bb974 ≠ b980 := (Nat.ne_of_lt (Nat.lt_of_lt_of_le (u974_6.other W976 ne979).lt (Nat.le_of_eq g980.symm)))
      have ne993 : o0 ≠ b980 := (Ne.symm (Nat.ne_of_lt (Nat.lt_of_lt_of_le AE980.lt fz982_0)))
      have ne994 : ov0 ≠ b980 := (own_tyne ff982_24 ff982_20 (by decide))
      have KK983 := KK982.wr W983 (Or.inr (Nat.le_trans KK976.1 (Nat.le_of_eq g980.symm)))
      have ZN983 := Nat.le_trans ZN982 (Keep.of_wr W983).1
      have HK983 : T982.heap.size ≤ h983.size := Nat.le_trans (Nat.le_refl _) (Keep.of_wr W983).1
      have NN983 := Fr.snoc X983 NF982 G_b980
      have OL983 := OL982.wr W983 G_b980
      have ch983 := ch982.trans (CHr.wr W983 (Safe.exa hZ.alike ff982_19 (by decide) (by decide)) ch982.1)
      refine go st983 ?_
      show Go _ p e below s _ _ _ (T983.setTop (mkF m 373 #[iv p1, iv p2, iv p3, iv p4, iv 0, iv i0, iv i1, iv i2, rv b949, rv b950, iv ca0, iv ca1, iv ca2, iv cb0, iv cb1, iv cb2, iv q0, iv q1, iv q2, iv la0, iv la1, iv la2, iv lb0, iv lb1, iv lb2, rv b959, .unset, .unset, .unset, .unset, .unset, .unset, .unset] [.ref b980]))
      refine c_dup X983 hx hby at_373 rfl <| c_iconst X983 hx hby 1 at_374 rfl ?_
      have JO1_995 : ∀ (o1 : Addr) (ov1 : Addr) (ok1 : ClassId) (lo1 : Int32) (co1 : Int32) (T996 : State) (locs996 : List Loc) (_ : Stand p l e room_1 (s.setVm T996.vm) m #[.int p1, .int p2, .int p3, .int p4] below meth c T996 locs996 34 69) (_ : s.Since T996.vm T996.heap.size) (_ : Z.Warmed39 T996.vm) (_ : T996.vm.findClass "com/example/raccordo/raccordo/flow/XmlElementSameAttributesPinLaw" = some m.cls) (_ : Fr n0 locs996) (_ : Keep h0 T996.heap []) (_ : n0 ≤ T996.heap.size) (_ : Old Z n0 T996.heap) (_ : CHr Z own_EL s.vm h0 T996.vm T996.heap) (_ : Exa Z T996.heap b949 "[I") (_ : Arv Z T996.heap b949 k949 .int (0 : Int32) [] (.int (0 : Int32))) (_ : Exa Z T996.heap b950 "java/util/ArrayList") (_ : Fld Z T996.heap b950 "java/util/ArrayList" "size" "I" (.int (0 : Int32))) (_ : Fld Z T996.heap b950 "java/util/ArrayList" "elementData" "[Ljava/lang/Object;" (.ref d0)) (_ : Exa Z T996.heap b959 "[Ljava/lang/String;") (_ : Arv Z T996.heap b959 k959 (.object "java/lang/String") (3 : Int32) [(.ref b960), (.ref b968), (.ref b974)] .null) (_ : eS Z T996.heap b960) (_ : fC Z T996.heap b960) (_ : fV Z T996.heap b960 bb960) (_ : Arv Z T996.heap bb960 kb960 .byte la0 (own_vs la0 ca0) (.int (0 : Int32))) (_ : eS Z T996.heap b968) (_ : fC Z T996.heap b968) (_ : fV Z T996.heap b968 bb968) (_ : Arv Z T996.heap bb968 kb968 .byte la1 (own_vs la1 ca1) (.int (0 : Int32))) (_ : eS Z T996.heap b974) (_ : fC Z T996.heap b974) (_ : fV Z T996.heap b974 bb974) (_ : Arv Z T996.heap bb974 kb974 .byte la2 (own_vs la2 ca2) (.int (0 : Int32))) (_ : Exa Z T996.heap b980 "[Ljava/lang/String;") (_ : Arv Z T996.heap b980 k980 (.object "java/lang/String") (3 : Int32) [(.ref o0), .null, .null] .null) (_ : eS Z T996.heap o0) (_ : fC Z T996.heap o0) (_ : fV Z T996.heap o0 ov0) (_ : Arv Z T996.heap ov0 ok0 .byte lo0 (own_vs lo0 co0) (.int (0 : Int32))) (_ : eS Z T996.heap o1) (_ : fC Z T996.heap o1) (_ : fV Z T996.heap o1 ov1) (_ : Arv Z T996.heap ov1 ok1 .byte lo1 (own_vs lo1 co1) (.int (0 : Int32))) (_ : h983.size ≤ o1), (own_o q1 la1 ca1 lb1 cb1 lo1 co1) → (lo1 = 0 ∨ lo1 = 1) → (own_ch co1) → Go (own_EndH Z) p e below s room_1.cells room_1.slots (Q0 Z p1 p2 p3 p4 w0 d0 kd el em mr h0 n0) (T996.setTop (mkF m 397 #[iv p1, iv p2, iv p3, iv p4, iv 0, iv i0, iv i1, iv i2, rv b949, rv b950, iv ca0, iv ca1, iv ca2, iv cb0, iv cb1, iv cb2, iv q0, iv q1, iv q2, iv la0, iv la1, iv la2, iv lb0, iv lb1, iv lb2, rv b959, .unset, .unset, .unset, .unset, .unset, .unset, .unset] [.ref o1, .int 1, .ref b980, .ref b980])) := by
       intro o1 ov1 ok1 lo1 co1 T996 locs996 X996 hS996 hZ hown NF996 KK996 ZN996 OL996 ch996 ff996_0 ff996_1 ff996_2 ff996_3 ff996_4 ff996_5 ff996_6 ff996_7 ff996_8 ff996_9 ff996_10 ff996_11 ff996_12 ff996_13 ff996_14 ff996_15 ff996_16 ff996_17 ff996_18 ff996_19 ff996_20 ff996_21 ff996_22 ff996_23 ff996_24 ff996_25 ff996_26 ff996_27 ff996_28 fz996_0 ho1 hlo1 hco1
       have G_o1 := Nat.le_trans ZN983 fz996_0
       obtain ⟨cl997, Ar997, q997, Sz997, Nz997, Hs997, Gs997⟩ := id ff996_20
       have hin997 : ¬ ((1 : Int32) < 0 ∨ cl997.slots.size ≤ ((1 : Int32)).toNatClampNeg) := inb_of Sz997 ⟨by decide, by decide⟩
       obtain ⟨T997, h997, X997, e997, W997, st997⟩ := stR X996 hx hZ rfl Ar997 (j := (1 : Int32)) hin997 rfl (Sto.ofV Ar997 q997 O980 (Ins.self ff996_25)) (g := (mkF m 397 #[iv p1, iv p2, iv p3, iv p4, iv 0, iv i0, iv i1, iv i2, rv b949, rv b950, iv ca0, iv ca1, iv ca2, iv cb0, iv cb1, iv cb2, iv q0, iv q1, iv q2, iv la0, iv la1, iv la2, iv lb0, iv lb1, iv lb2, rv b959, .unset, .unset, .unset, .unset, .unset, .unset, .unset] [.ref o1, .int 1, .ref b980, .ref b980])) rfl rfl (hb hby at_397)
       have V997 := Arv.set Ar997 q997 Sz997 Nz997 Hs997 Gs997 rfl W997 1 rfl (Nat.le_of_ble_eq_true rfl)
       have VV997 : Arv Z h997 b980 k980 (.object "java/lang/String") (3 : Int32) [(.ref o0), (.ref o1), .null] .null := V997
       have ne998 : o1 ≠ b980 := (Ne.symm (Nat.ne_of_lt (Nat.lt_of_lt_of_le (ff982_19.wr W983).lt fz996_0)))
       have ne999 : ov1 ≠ b980 := (own_tyne ff996_28 ff996_20 (by decide))
       have KK997 := KK996.wr W997 (Or.inr (Nat.le_trans KK976.1 (Nat.le_of_eq g980.symm)))
       have ZN997 := Nat.le_trans ZN996 (Keep.of_wr W997).1
       have HK997 : T996.heap.size ≤ h997.size := Nat.le_trans (Nat.le_refl _) (Keep.of_wr W997).1
       have NN997 := Fr.snoc X997 NF996 G_b980
       have OL997 := OL996.wr W997 G_b980
       have ch997 := ch996.trans (CHr.wr W997 (Safe.exa hZ.alike ff996_19 (by decide) (by decide)) ch996.1)
       refine go st997 ?_
       show Go _ p e below s _ _ _ (T997.setTop (mkF m 398 #[iv p1, iv p2, iv p3, iv p4, iv 0, iv i0, iv i1, iv i2, rv b949, rv b950, iv ca0, iv ca1, iv ca2, iv cb0, iv cb1, iv cb2, iv q0, iv q1, iv q2, iv la0, iv la1, iv la2, iv lb0, iv lb1, iv lb2, rv b959, .unset, .unset, .unset, .unset, .unset, .unset, .unset] [.ref b980]))
       refine c_dup X997 hx hby at_398 rfl <| c_iconst X997 hx hby 2 at_399 rfl ?_
       have JO2_1000 : ∀ (o2 : Addr) (ov2 : Addr) (ok2 : ClassId) (lo2 : Int32) (co2 : Int32) (T1001 : State) (locs1001 : List Loc) (_ : Stand p l e room_1 (s.setVm T1001.vm) m #[.int p1, .int p2, .int p3, .int p4] below meth c T1001 locs1001 40 81) (_ : s.Since T1001.vm T1001.heap.size) (_ : Z.Warmed39 T1001.vm) (_ : T1001.vm.findClass "com/example/raccordo/raccordo/flow/XmlElementSameAttributesPinLaw" = some m.cls) (_ : Fr n0 locs1001) (_ : Keep h0 T1001.heap []) (_ : n0 ≤ T1001.heap.size) (_ : Old Z n0 T1001.heap) (_ : CHr Z own_EL s.vm h0 T1001.vm T1001.heap) (_ : Exa Z T1001.heap b949 "[I") (_ : Arv Z T1001.heap b949 k949 .int (0 : Int32) [] (.int (0 : Int32))) (_ : Exa Z T1001.heap b950 "java/util/ArrayList") (_ : Fld Z T1001.heap b950 "java/util/ArrayList" "size" "I" (.int (0 : Int32))) (_ : Fld Z T1001.heap b950 "java/util/ArrayList" "elementData" "[Ljava/lang/Object;" (.ref d0)) (_ : Exa Z T1001.heap b959 "[Ljava/lang/String;") (_ : Arv Z T1001.heap b959 k959 (.object "java/lang/String") (3 : Int32) [(.ref b960), (.ref b968), (.ref b974)] .null) (_ : eS Z T1001.heap b960) (_ : fC Z T1001.heap b960) (_ : fV Z T1001.heap b960 bb960) (_ : Arv Z T1001.heap bb960 kb960 .byte la0 (own_vs la0 ca0) (.int (0 : Int32))) (_ : eS Z T1001.heap b968) (_ : fC Z T1001.heap b968) (_ : fV Z T1001.heap b968 bb968) (_ : Arv Z T1001.heap bb968 kb968 .byte la1 (own_vs la1 ca1) (.int (0 : Int32))) (_ : eS Z T1001.heap b974) (_ : fC Z T1001.heap b974) (_ : fV Z T1001.heap b974 bb974) (_ : Arv Z T1001.heap bb974 kb974 .byte la2 (own_vs la2 ca2) (.int (0 : Int32))) (_ : Exa Z T1001.heap b980 "[Ljava/lang/String;") (_ : Arv Z T1001.heap b980 k980 (.object "java/lang/String") (3 : Int32) [(.ref o0), (.ref o1), .null] .null) (_ : eS Z T1001.heap o0) (_ : fC Z T1001.heap o0) (_ : fV Z T1001.heap o0 ov0) (_ : Arv Z T1001.heap ov0 ok0 .byte lo0 (own_vs lo0 co0) (.int (0 : Int32))) (_ : eS Z T1001.heap o1) (_ : fC Z T1001.heap o1) (_ : fV Z T1001.heap o1 ov1) (_ : Arv Z T1001.heap ov1 ok1 .byte lo1 (own_vs lo1 co1) (.int (0 : Int32))) (_ : eS Z T1001.heap o2) (_ : fC Z T1001.heap o2) (_ : fV Z T1001.heap o2 ov2) (_ : Arv Z T1001.heap ov2 ok2 .byte lo2 (own_vs lo2 co2) (.int (0 : Int32))) (_ : h997.size ≤ o2), (own_o q2 la2 ca2 lb2 cb2 lo2 co2) → (lo2 = 0 ∨ lo2 = 1) → (own_ch co2) → Go (own_EndH Z) p e below s room_1.cells room_1.slots (Q0 Z p1 p2 p3 p4 w0 d0 kd el em mr h0 n0) (T1001.setTop (mkF m 422 #[iv p1, iv p2, iv p3, iv p4, iv 0, iv i0, iv i1, iv i2, rv b949, rv b950, iv ca0, iv ca1, iv ca2, iv cb0, iv cb1, iv cb2, iv q0, iv q1, iv q2, iv la0, iv la1, iv la2, iv lb0, iv lb1, iv lb2, rv b959, .unset, .unset, .unset, .unset, .unset, .unset, .unset] [.ref o2, .int 2, .ref b980, .ref b980])) := by
        intro o2 ov2 ok2 lo2 co2 T1001 locs1001 X1001 hS1001 hZ hown NF1001 KK1001 ZN1001 OL1001 ch1001 ff1001_0 ff1001_1 ff1001_2 ff1001_3 ff1001_4 ff1001_5 ff1001_6 ff1001_7 ff1001_8 ff1001_9 ff1001_10 ff1001_11 ff1001_12 ff1001_13 ff1001_14 ff1001_15 ff1001_16 ff1001_17 ff1001_18 ff1001_19 ff1001_20 ff1001_21 ff1001_22 ff1001_23 ff1001_24 ff1001_25 ff1001_26 ff1001_27 ff1001_28 ff1001_29 ff1001_30 ff1001_31 ff1001_32 fz1001_0 ho2 hlo2 hco2
        have G_o2 := Nat.le_trans ZN997 fz1001_0
        obtain ⟨cl1002, Ar1002, q1002, Sz1002, Nz1002, Hs1002, Gs1002⟩ := id ff1001_20
        have hin1002 : ¬ ((2 : Int32) < 0 ∨ cl1002.slots.size ≤ ((2 : Int32)).toNatClampNeg) := inb_of Sz1002 ⟨by decide, by decide⟩
        obtain ⟨T1002, h1002, X1002, e1002, W1002, st1002⟩ := stR X1001 hx hZ rfl Ar1002 (j := (2 : Int32)) hin1002 rfl (Sto.ofV Ar1002 q1002 O980 (Ins.self ff1001_29)) (g := (mkF m 422 #[iv p1, iv p2, iv p3, iv p4, iv 0, iv i0, iv i1, iv i2, rv b949, rv b950, iv ca0, iv ca1, iv ca2, iv cb0, iv cb1, iv cb2, iv q0, iv q1, iv q2, iv la0, iv la1, iv la2, iv lb0, iv lb1, iv lb2, rv b959, .unset, .unset, .unset, .unset, .unset, .unset, .unset] [.ref o2, .int 2, .ref b980, .ref b980])) rfl rfl (hb hby at_422)
        have V1002 := Arv.set Ar1002 q1002 Sz1002 Nz1002 Hs1002 Gs1002 rfl W1002 2 rfl (Nat.le_of_ble_eq_true rfl)
        have VV1002 : Arv Z h1002 b980 k980 (.object "java/lang/String") (3 : Int32) [(.ref o0), (.ref o1), (.ref o2)] .null := V1002
        have ne1003 : o2 ≠ b980 := (Ne.symm (Nat.ne_of_lt (Nat.lt_of_lt_of_le (ff996_19.wr W997).lt fz1001_0)))
        have ne1004 : ov2 ≠ b980 := (own_tyne ff1001_32 ff1001_20 (by decide))
        have KK1002 := KK1001.wr W1002 (Or.inr (Nat.le_trans KK976.1 (Nat.le_of_eq g980.symm)))
        have ZN1002 := Nat.le_trans ZN1001 (Keep.of_wr W1002).1
        have HK1002 : T1001.heap.size ≤ h1002.size := Nat.le_trans (Nat.le_refl _) (Keep.of_wr W1002).1
        have NN1002 := Fr.snoc X1002 NF1001 G_b980
        have OL1002 := OL1001.wr W1002 G_b980
        have ch1002 := ch1001.trans (CHr.wr W1002 (Safe.exa hZ.alike ff1001_19 (by decide) (by decide)) ch1001.1)
        refine go st1002 ?_
        show Go _ p e below s _ _ _ (T1002.setTop (mkF m 423 #[iv p1, iv p2, iv p3, iv p4, iv 0, iv i0, iv i1, iv i2, rv b949, rv b950, iv ca0, iv ca1, iv ca2, iv cb0, iv cb1, iv cb2, iv q0, iv q1, iv q2, iv la0, iv la1, iv la2, iv lb0, iv lb1, iv lb2, rv b959, .unset, .unset, .unset, .unset, .unset, .unset, .unset] [.ref b980]))
        refine c_astore X1002 hx hby _ at_423 rfl rfl <| c_shL #[iv p1, iv p2, iv p3, iv p4, iv 0, iv i0, iv i1, iv i2, rv b949, rv b950, iv ca0, iv ca1, iv ca2, iv cb0, iv cb1, iv cb2, iv q0, iv q1, iv q2, iv la0, iv la1, iv la2, iv lb0, iv lb1, iv lb2, rv b959, rv b980, .unset, .unset, .unset, .unset, .unset, .unset] rfl ?_
        have JE0_1005 : ∀ (ze1006 : Int32), (ze1006 = (own_eq la0 ca0 lo0 co0)) → Go (own_EndH Z) p e below s room_1.cells room_1.slots (Q0 Z p1 p2 p3 p4 w0 d0 kd el em mr h0 n0) (T1002.setTop (mkF m 454 #[iv p1, iv p2, iv p3, iv p4, iv 0, iv i0, iv i1, iv i2, rv b949, rv b950, iv ca0, iv ca1, iv ca2, iv cb0, iv cb1, iv cb2, iv q0, iv q1, iv q2, iv la0, iv la1, iv la2, iv lb0, iv lb1, iv lb2, rv b959, rv b980, .unset, .unset, .unset, .unset, .unset, .unset] [.int ze1006])) := by
         intro ze1006 hz_
         subst hz_
         refine c_istore X1002 hx hby _ at_454 rfl <| c_shL #[iv p1, iv p2, iv p3, iv p4, iv 0, iv i0, iv i1, iv i2, rv b949, rv b950, iv ca0, iv ca1, iv ca2, iv cb0, iv cb1, iv cb2, iv q0, iv q1, iv q2, iv la0, iv la1, iv la2, iv lb0, iv lb1, iv lb2, rv b959, rv b980, iv (own_eq la0 ca0 lo0 co0), .unset, .unset, .unset, .unset, .unset] rfl ?_
         have JE1_1007 : ∀ (ze1008 : Int32), (ze1008 = (own_eq la1 ca1 lo1 co1)) → Go (own_EndH Z) p e below s room_1.cells room_1.slots (Q0 Z p1 p2 p3 p4 w0 d0 kd el em mr h0 n0) (T1002.setTop (mkF m 485 #[iv p1, iv p2, iv p3, iv p4, iv 0, iv i0, iv i1, iv i2, rv b949, rv b950, iv ca0, iv ca1, iv ca2, iv cb0, iv cb1, iv cb2, iv q0, iv q1, iv q2, iv la0, iv la1, iv la2, iv lb0, iv lb1, iv lb2, rv b959, rv b980, iv (own_eq la0 ca0 lo0 co0), .unset, .unset, .unset, .unset, .unset] [.int ze1008])) := by
          intro ze1008 hz_
          subst hz_
          refine c_istore X1002 hx hby _ at_485 rfl <| c_shL #[iv p1, iv p2, iv p3, iv p4, iv 0, iv i0, iv i1, iv i2, rv b949, rv b950, iv ca0, iv ca1, iv ca2, iv cb0, iv cb1, iv cb2, iv q0, iv q1, iv q2, iv la0, iv la1, iv la2, iv lb0, iv lb1, iv lb2, rv b959, rv b980, iv (own_eq la0 ca0 lo0 co0), iv (own_eq la1 ca1 lo1 co1), .unset, .unset, .unset, .unset] rfl ?_
          have JE2_1009 : ∀ (ze1010 : Int32), (ze1010 = (own_eq la2 ca2 lo2 co2)) → Go (own_EndH Z) p e below s room_1.cells room_1.slots (Q0 Z p1 p2 p3 p4 w0 d0 kd el em mr h0 n0) (T1002.setTop (mkF m 516 #[iv p1, iv p2, iv p3, iv p4, iv 0, iv i0, iv i1, iv i2, rv b949, rv b950, iv ca0, iv ca1, iv ca2, iv cb0, iv cb1, iv cb2, iv q0, iv q1, iv q2, iv la0, iv la1, iv la2, iv lb0, iv lb1, iv lb2, rv b959, rv b980, iv (own_eq la0 ca0 lo0 co0), iv (own_eq la1 ca1 lo1 co1), .unset, .unset, .unset, .unset] [.int ze1010])) := by
           intro ze1010 hz_
           subst hz_
           refine c_istore X1002 hx hby _ at_516 rfl <| c_shL #[iv p1, iv p2, iv p3, iv p4, iv 0, iv i0, iv i1, iv i2, rv b949, rv b950, iv ca0, iv ca1, iv ca2, iv cb0, iv cb1, iv cb2, iv q0, iv q1, iv q2, iv la0, iv la1, iv la2, iv lb0, iv lb1, iv lb2, rv b959, rv b980, iv (own_eq la0 ca0 lo0 co0), iv (own_eq la1 ca1 lo1 co1), iv (own_eq la2 ca2 lo2 co2), .unset, .unset, .unset] rfl <| c_new X1002 hx hby hZ hown (gw hw 52 rfl) (gw hw 53 rfl) (gw hw 54 rfl) e1002 at_518 (by decide) fun T1011 h1011 b1011 g1011 X1011 e1011 E1011 A1011 D1011 => ?_
           have G_b1011 := Nat.le_trans ZN1002 (Nat.le_of_eq g1011.symm)
           have KK1011 := KK1002.ext E1011
           have ZN1011 := Nat.le_trans ZN1002 E1011.1
           have HK1011 := Nat.le_trans HK1002 E1011.1
           have OL1011 := OL1002.ext E1011
           have ch1011 := ch1002.trans (CHr.ext E1011 ch1002.1)
           refine c_sh 521 [.ref b1011] rfl rfl <| c_dup X1011 hx hby at_521 rfl ?_
           obtain ⟨t1012, T1012, h1012, k1012, bs1012, ks1012, X1012, e1012, E1012, hS1012, hk1012, hZ, hown, LE1012, LC1012, LV1012, LA1012, -, -, cr1012, -, sn1012, st1012⟩ := ldcCH X1011 hx hZ hown (gw hw 55 rfl) (own_wS hw) e1011 hS1001 HK1011 (own_EW hw) (List.mem_of_getElem? (i := 3) rfl) ch1011.1 (vs := [(.int (120 : Int32))]) (z := (1 : Int32)) ⟨by decide, by decide⟩ (by decide) (by decide) (g := (mkF m 522 #[iv p1, iv p2, iv p3, iv p4, iv 0, iv i0, iv i1, iv i2, rv b949, rv b950, iv ca0, iv ca1, iv ca2, iv cb0, iv cb1, iv cb2, iv q0, iv q1, iv q2, iv la0, iv la1, iv la2, iv lb0, iv lb1, iv lb2, rv b959, rv b980, iv (own_eq la0 ca0 lo0 co0), iv (own_eq la1 ca1 lo1 co1), iv (own_eq la2 ca2 lo2 co2), .unset, .unset, .unset] [.ref b1011, .ref b1011])) rfl (hb hby at_522) (n := 4) (by decide) (by decide) (by decide) (by decide)
           have ch1012 := ch1011.trans cr1012
           have KK1012 := KK1011.ext E1012
           have ZN1012 := Nat.le_trans ZN1011 E1012.1
           have OL1012 := OL1011.ext E1012
           refine go st1012 ?_
           show Go _ p e below s _ _ _ (T1012.setTop (mkF m 524 #[iv p1, iv p2, iv p3, iv p4, iv 0, iv i0, iv i1, iv i2, rv b949, rv b950, iv ca0, iv ca1, iv ca2, iv cb0, iv cb1, iv cb2, iv q0, iv q1, iv q2, iv la0, iv la1, iv la2, iv lb0, iv lb1, iv lb2, rv b959, rv b980, iv (own_eq la0 ca0 lo0 co0), iv (own_eq la1 ca1 lo1 co1), iv (own_eq la2 ca2 lo2 co2), .unset, .unset, .unset] [.ref t1012, .ref b1011, .ref b1011]))
           refine c_aload X1012 hx hby at_524 rfl rfl <| c_aload X1012 hx hby at_526 rfl rfl <| c_iconst X1012 hx hby (-1) at_528 rfl <| c_new X1012 hx hby hZ hown (gw hw 1 rfl) (gw hw 2 rfl) (gw hw 3 rfl) e1012 at_529 (by decide) fun T1013 h1013 b1013 g1013 X1013 e1013 E1013 A1013 D1013 => ?_
           have G_b1013 := Nat.le_trans ZN1012 (Nat.le_of_eq g1013.symm)
           have KK1013 := KK1012.ext E1013
           have ZN1013 := Nat.le_trans ZN1012 E1013.1
           have HK1013 := Nat.le_trans hk1012 E1013.1
           have OL1013 := OL1012.ext E1013
           have ch1013 := ch1012.trans (CHr.ext E1013 ch1012.1)
           refine c_sh 532 [.ref b1013, .int (-1), .ref b949, .ref b950, .ref t1012, .ref b1011, .ref b1011] rfl rfl <| c_dup X1013 hx hby at_532 rfl ?_
           have cc1015 := show Fld Z h1013 b1013 "java/util/AbstractList" "modCount" "I" (.int (0 : Int32)) from D1013 (Or.inl (gw hw 23 rfl)) (ty := .int) (by decide)
           have cc1016 := show Fld Z h1013 b1013 "java/util/ArrayList" "size" "I" (.int (0 : Int32)) from D1013 (Or.inl (gw hw 86 rfl)) (ty := .int) (by decide)
           have cc1017 := show Fld Z h1013 b1013 "java/util/ArrayList" "elementData" "[Ljava/lang/Object;" .null from D1013 (Or.inl (gw hw 26 rfl)) (ty := (.array (.object "java/lang/Object"))) (by decide)
           refine c_init X1013 hx hby hZ hown hml (gw hw 4 rfl) (gw hw 5 rfl) (gw hw 6 rfl) (gw hw 3 rfl) rfl e1013 (rm1 hw b1013 (.int (0 : Int32)) (.int (0 : Int32)) .null d0 h1013 n0 ZN1013 P2 OL1013 A1013 G_b1013 cc1015 cc1016 cc1017) pd_4 rfl at_533 [.ref b1013, .int (-1), .ref b949, .ref b950, .ref t1012, .ref b1011, .ref b1011] rfl 7 (by decide) rfl rfl fun o1014 T1014 L1014 X1014 hQ1014 => ?_
           obtain ⟨rfl, N1014q, K1014, u1014_1, u1014_2, u1014_3⟩ := hQ1014
           have N1014 := Fr.app NN1002 N1014q
           have ne1018 : b949 ≠ b1013 := (Nat.ne_of_lt (Nat.lt_of_lt_of_le (((ff1001_0.wr W1002).ext E1011).ext E1012).lt (Nat.le_of_eq g1013.symm)))
           have ne1019 : b950 ≠ b1013 := (Nat.ne_of_lt (Nat.lt_of_lt_of_le (((ff1001_2.wr W1002).ext E1011).ext E1012).lt (Nat.le_of_eq g1013.symm)))
           have ne1020 : b959 ≠ b1013 := (Nat.ne_of_lt (Nat.lt_of_lt_of_le (((ff1001_5.wr W1002).ext E1011).ext E1012).lt (Nat.le_of_eq g1013.symm)))
           have ne1021 : b960 ≠ b1013 := (Nat.ne_of_lt (Nat.lt_of_lt_of_le (((ff1001_7.wr W1002).ext E1011).ext E1012).lt (Nat.le_of_eq g1013.symm)))
           have ne1022 : bb960 ≠ b1013 := (Nat.ne_of_lt (Nat.lt_of_lt_of_le (((ff1001_10.other W1002 ne988).ext E1011).ext E1012).lt (Nat.le_of_eq g1013.symm)))
           have ne1023 : b968 ≠ b1013 := (Nat.ne_of_lt (Nat.lt_of_lt_of_le (((ff1001_11.wr W1002).ext E1011).ext E1012).lt (Nat.le_of_eq g1013.symm)))
           have ne1024 : bb968 ≠ b1013 := (Nat.ne_of_lt (Nat.lt_of_lt_of_le (((ff1001_14.other W1002 ne990).ext E1011).ext E1012).lt (Nat.le_of_eq g1013.symm)))
           have ne1025 : b974 ≠ b1013 := (Nat.ne_of_lt (Nat.lt_of_lt_of_le (((ff1001_15.wr W1002).ext E1011).ext E1012).lt (Nat.le_of_eq g1013.symm)))
           have ne1026 : bb974 ≠ b1013 := (Nat.ne_of_lt (Nat.lt_of_lt_of_le (((ff1001_18.other W1002 ne992).ext E1011).ext E1012).lt (Nat.le_of_eq g1013.symm)))
           have ne1027 : b980 ≠ b1013 := (Nat.ne_of_lt (Nat.lt_of_lt_of_le (((ff1001_19.wr W1002).ext E1011).ext E1012).lt (Nat.le_of_eq g1013.symm)))
           have ne1028 : o0 ≠ b1013 := (Nat.ne_of_lt (Nat.lt_of_lt_of_le (((ff1001_21.wr W1002).ext E1011).ext E1012).lt (Nat.le_of_eq g1013.symm)))
           have ne1029 : ov0 ≠ b1013 := (Nat.ne_of_lt (Nat.lt_of_lt_of_le (((ff1001_24.other W1002 ne994).ext E1011).ext E1012).lt (Nat.le_of_eq g1013.symm)))
           have ne1030 : o1 ≠ b1013 := (Nat.ne_of_lt (Nat.lt_of_lt_of_le (((ff1001_25.wr W1002).ext E1011).ext E1012).lt (Nat.le_of_eq g1013.symm)))
           have ne1031 : ov1 ≠ b1013 := (Nat.ne_of_lt (Nat.lt_of_lt_of_le (((ff1001_28.other W1002 ne999).ext E1011).ext E1012).lt (Nat.le_of_eq g1013.symm)))
           have ne1032 : o2 ≠ b1013 := (Nat.ne_of_lt (Nat.lt_of_lt_of_le (((ff1001_29.wr W1002).ext E1011).ext E1012).lt (Nat.le_of_eq g1013.symm)))
           have ne1033 : ov2 ≠ b1013 := (Nat.ne_of_lt (Nat.lt_of_lt_of_le (((ff1001_32.other W1002 ne1004).ext E1011).ext E1012).lt (Nat.le_of_eq g1013.symm)))
           have ne1034 : b1011 ≠ b1013 := (Nat.ne_of_lt (Nat.lt_of_lt_of_le (A1011.ext E1012).lt (Nat.le_of_eq g1013.symm)))
           have ne1035 : t1012 ≠ b1013 := (Nat.ne_of_lt (Nat.lt_of_lt_of_le LE1012.lt (Nat.le_of_eq g1013.symm)))
           have ne1036 : bs1012 ≠ b1013 := (Nat.ne_of_lt (Nat.lt_of_lt_of_le LA1012.lt (Nat.le_of_eq g1013.symm)))
           have KK1014 := KK1013.trans K1014 (allS (P := fun x => x ∈ [] ∨ h0.size ≤ x) (Or.inr (Nat.le_trans KK1012.1 (Nat.le_of_eq g1013.symm))) all0)
           have ZN1014 := Nat.le_trans ZN1013 K1014.1
           have HK1014 : k1012 ≤ T1014.heap.size := Nat.le_trans HK1013 K1014.1
           have ch1014 := ch1013.trans (CHr.keep K1014 (allS (Safe.exa hZ.alike A1013 (by decide) (by decide)) all0) ch1013.1)
           have OL1014 := OL1013.keep K1014 (allS G_b1013 all0)
           refine c_sh 536 [.ref b1013, .int (-1), .ref b949, .ref b950, .ref t1012, .ref b1011, .ref b1011] rfl rfl ?_
           have cc1038 := ((A1011.ext E1012).ext E1013).keep K1014
           have cc1039 := (((show Fld Z h1011 b1011 "com/example/raccordo/raccordo/flow/XmlElement" "name" "Ljava/lang/String;" .null from D1011 (Or.inr (gw hw 61 rfl)) (ty := (.object "java/lang/String")) (by decide)).ext E1012).ext E1013).keep K1014 (ninS ne1034 nin0)
           have cc1040 := (((show Fld Z h1011 b1011 "com/example/raccordo/raccordo/flow/XmlElement" "attributes" "Ljava/util/List;" .null from D1011 (Or.inr (gw hw 92 rfl)) (ty := (.object "java/util/List")) (by decide)).ext E1012).ext E1013).keep K1014 (ninS ne1034 nin0)
           have cc1041 := (((show Fld Z h1011 b1011 "com/example/raccordo/raccordo/flow/XmlElement" "attributeIndexes" "[I" .null from D1011 (Or.inr (gw hw 103 rfl)) (ty := (.array .int)) (by decide)).ext E1012).ext E1013).keep K1014 (ninS ne1034 nin0)
           have cc1042 := (((show Fld Z h1011 b1011 "com/example/raccordo/raccordo/flow/XmlElement" "textIndex" "I" (.int (0 : Int32)) from D1011 (Or.inr (gw hw 105 rfl)) (ty := .int) (by decide)).ext E1012).ext E1013).keep K1014 (ninS ne1034 nin0)
           have cc1043 := (((show Fld Z h1011 b1011 "com/example/raccordo/raccordo/flow/XmlElement" "children" "Ljava/util/List;" .null from D1011 (Or.inr (gw hw 107 rfl)) (ty := (.object "java/util/List")) (by decide)).ext E1012).ext E1013).keep K1014 (ninS ne1034 nin0)
           have cc1044 := ((((ff1001_2.wr W1002).ext E1011).ext E1012).ext E1013).keep K1014
           have cc1045 := ((((ff1001_3.other W1002 (Or.inl ne985)).ext E1011).ext E1012).ext E1013).keep K1014 (ninS ne1019 nin0)
           have cc1046 := A1013.keep K1014
           have cc1047 := ((((ff1001_0.wr W1002).ext E1011).ext E1012).ext E1013).keep K1014
           have cc1048 := ((((ff1001_1.other W1002 ne984).ext E1011).ext E1012).ext E1013).keep K1014 (ninS ne1018 nin0)
           have ne1049 : b1011 ≠ b950 := (Ne.symm (Nat.ne_of_lt (Nat.lt_of_lt_of_le (ff1001_2.wr W1002).lt (Nat.le_of_eq g1011.symm))))
           have ne1050 : b1011 ≠ b949 := (Ne.symm (Nat.ne_of_lt (Nat.lt_of_lt_of_le (ff1001_0.wr W1002).lt (Nat.le_of_eq g1011.symm))))
           refine c_init X1014 hx hby hZ hown hml (gw hw 56 rfl) (gw hw 57 rfl) (gw hw 58 rfl) (gw hw 54 rfl) rfl rfl (rmXI0 hw b1011 t1012 b950 b949 b1013 .null .null .null (.int (0 : Int32)) .null el k949 (T1014.heap) n0 ZN1014 P4 OL1014 cc1038 G_b1011 cc1039 cc1040 cc1041 cc1042 cc1043 cc1044 cc1045 cc1046 u1014_2 cc1047 cc1048 ne1049 ne1050 ne1034) pd_23 rfl at_536 [.ref b1011] rfl 1 (by decide) rfl rfl fun o1037 T1037 L1037 X1037 hQ1037 => ?_
           obtain ⟨b1037, rfl, N1037q, u1037_0, u1037_1, K1037, u1037_3, u1037_4⟩ := hQ1037
           have N1037 := Fr.app N1014 N1037q
           have G_b1037 := Nat.le_trans ZN1014 u1037_0
           have ne1051 : b959 ≠ b1011 := (Nat.ne_of_lt (Nat.lt_of_lt_of_le (ff1001_5.wr W1002).lt (Nat.le_of_eq g1011.symm)))
           have ne1052 : b960 ≠ b1011 := (Nat.ne_of_lt (Nat.lt_of_lt_of_le (ff1001_7.wr W1002).lt (Nat.le_of_eq g1011.symm)))
           have ne1053 : bb960 ≠ b1011 := (Nat.ne_of_lt (Nat.lt_of_lt_of_le (ff1001_10.other W1002 ne988).lt (Nat.le_of_eq g1011.symm)))
           have ne1054 : b968 ≠ b1011 := (Nat.ne_of_lt (Nat.lt_of_lt_of_le (ff1001_11.wr W1002).lt (Nat.le_of_eq g1011.symm)))
           have ne1055 : bb968 ≠ b1011 := (Nat.ne_of_lt (Nat.lt_of_lt_of_le (ff1001_14.other W1002 ne990).lt (Nat.le_of_eq g1011.symm)))
           have ne1056 : b974 ≠ b1011 := (Nat.ne_of_lt (Nat.lt_of_lt_of_le (ff1001_15.wr W1002).lt (Nat.le_of_eq g1011.symm)))
           have ne1057 : bb974 ≠ b1011 := (Nat.ne_of_lt (Nat.lt_of_lt_of_le (ff1001_18.other W1002 ne992).lt (Nat.le_of_eq g1011.symm)))
           have ne1058 : b980 ≠ b1011 := (Nat.ne_of_lt (Nat.lt_of_lt_of_le (ff1001_19.wr W1002).lt (Nat.le_of_eq g1011.symm)))
           have ne1059 : o0 ≠ b1011 := (Nat.ne_of_lt (Nat.lt_of_lt_of_le (ff1001_21.wr W1002).lt (Nat.le_of_eq g1011.symm)))
           have ne1060 : ov0 ≠ b1011 := (Nat.ne_of_lt (Nat.lt_of_lt_of_le (ff1001_24.other W1002 ne994).lt (Nat.le_of_eq g1011.symm)))
           have ne1061 : o1 ≠ b1011 := (Nat.ne_of_lt (Nat.lt_of_lt_of_le (ff1001_25.wr W1002).lt (Nat.le_of_eq g1011.symm)))
           have ne1062 : ov1 ≠ b1011 := (Nat.ne_of_lt (Nat.lt_of_lt_of_le (ff1001_28.other W1002 ne999).lt (Nat.le_of_eq g1011.symm)))
           have ne1063 : o2 ≠ b1011 := (Nat.ne_of_lt (Nat.lt_of_lt_of_le (ff1001_29.wr W1002).lt (Nat.le_of_eq g1011.symm)))
           have ne1064 : ov2 ≠ b1011 := (Nat.ne_of_lt (Nat.lt_of_lt_of_le (ff1001_32.other W1002 ne1004).lt (Nat.le_of_eq g1011.symm)))
           have ne1065 : t1012 ≠ b1011 := (Exa.ne ((LE1012.ext E1013).keep K1014) cc1038 (by decide))
           have ne1066 : bs1012 ≠ b1011 := (Ne.symm (Exa.neArv cc1038 ((LA1012.ext E1013).keep K1014 (ninS ne1036 nin0)) (gw hw 53 rfl)))
           have KK1037 := KK1014.trans K1037 (allS (P := fun x => x ∈ [] ∨ h0.size ≤ x) (Or.inr (Nat.le_trans KK1002.1 (Nat.le_of_eq g1011.symm))) all0)
           have ZN1037 := Nat.le_trans ZN1014 K1037.1
           have HK1037 : k1012 ≤ T1037.heap.size := Nat.le_trans HK1014 K1037.1
           have ch1037 := ch1014.trans (CHr.keep K1037 (allS (Safe.exa hZ.alike cc1038 (by decide) (by decide)) all0) ch1014.1)
           have OL1037 := OL1014.keep K1037 (allS G_b1011 all0)
           refine c_sh 539 [.ref b1011] rfl rfl <| c_astore X1037 hx hby _ at_539 rfl rfl <| c_aload X1037 hx hby at_541 rfl rfl <| c_aload X1037 hx hby at_543 rfl rfl <| c_aload X1037 hx hby at_545 rfl rfl <| c_shL #[iv p1, iv p2, iv p3, iv p4, iv 0, iv i0, iv i1, iv i2, rv b949, rv b950, iv ca0, iv ca1, iv ca2, iv cb0, iv cb1, iv cb2, iv q0, iv q1, iv q2, iv la0, iv la1, iv la2, iv lb0, iv lb1, iv lb2, rv b959, rv b980, iv (own_eq la0 ca0 lo0 co0), iv (own_eq la1 ca1 lo1 co1), iv (own_eq la2 ca2 lo2 co2), rv b1011, .unset, .unset] rfl ?_
           have cc1068 := (((((ff1001_6.other W1002 ne986).ext E1011).ext E1012).ext E1013).keep K1014 (ninS ne1020 nin0)).keep K1037 (ninS ne1051 nin0)
           have cc1069 := ((((VV1002.ext E1011).ext E1012).ext E1013).keep K1014 (ninS ne1027 nin0)).keep K1037 (ninS ne1058 nin0)
           have cc1070 := (((((ff1001_7.wr W1002).ext E1011).ext E1012).ext E1013).keep K1014).keep K1037
           have cc1071 := (((((ff1001_8.other W1002 (Or.inl ne987)).ext E1011).ext E1012).ext E1013).keep K1014 (ninS ne1021 nin0)).keep K1037 (ninS ne1052 nin0)
           have cc1072 := (((((ff1001_9.other W1002 (Or.inl ne987)).ext E1011).ext E1012).ext E1013).keep K1014 (ninS ne1021 nin0)).keep K1037 (ninS ne1052 nin0)
           have cc1073 := (((((ff1001_10.other W1002 ne988).ext E1011).ext E1012).ext E1013).keep K1014 (ninS ne1022 nin0)).keep K1037 (ninS ne1053 nin0)
           have cc1074 := (((((ff1001_11.wr W1002).ext E1011).ext E1012).ext E1013).keep K1014).keep K1037
           have cc1075 := (((((ff1001_12.other W1002 (Or.inl ne989)).ext E1011).ext E1012).ext E1013).keep K1014 (ninS ne1023 nin0)).keep K1037 (ninS ne1054 nin0)
           have cc1076 := (((((ff1001_13.other W1002 (Or.inl ne989)).ext E1011).ext E1012).ext E1013).keep K1014 (ninS ne1023 nin0)).keep K1037 (ninS ne1054 nin0)
           have cc1077 := (((((ff1001_14.other W1002 ne990).ext E1011).ext E1012).ext E1013).keep K1014 (ninS ne1024 nin0)).keep K1037 (ninS ne1055 nin0)
           have cc1078 := (((((ff1001_15.wr W1002).ext E1011).ext E1012).ext E1013).keep K1014).keep K1037
           have cc1079 := (((((ff1001_16.other W1002 (Or.inl ne991)).ext E1011).ext E1012).ext E1013).keep K1014 (ninS ne1025 nin0)).keep K1037 (ninS ne1056 nin0)
           have cc1080 := (((((ff1001_17.other W1002 (Or.inl ne991)).ext E1011).ext E1012).ext E1013).keep K1014 (ninS ne1025 nin0)).keep K1037 (ninS ne1056 nin0)
           have cc1081 := (((((ff1001_18.other W1002 ne992).ext E1011).ext E1012).ext E1013).keep K1014 (ninS ne1026 nin0)).keep K1037 (ninS ne1057 nin0)
           have cc1082 := (((((ff1001_21.wr W1002).ext E1011).ext E1012).ext E1013).keep K1014).keep K1037
           have cc1083 := (((((ff1001_22.other W1002 (Or.inl ne993)).ext E1011).ext E1012).ext E1013).keep K1014 (ninS ne1028 nin0)).keep K1037 (ninS ne1059 nin0)
           have cc1084 := (((((ff1001_23.other W1002 (Or.inl ne993)).ext E1011).ext E1012).ext E1013).keep K1014 (ninS ne1028 nin0)).keep K1037 (ninS ne1059 nin0)
           have cc1085 := (((((ff1001_24.other W1002 ne994).ext E1011).ext E1012).ext E1013).keep K1014 (ninS ne1029 nin0)).keep K1037 (ninS ne1060 nin0)
           have cc1086 := (((((ff1001_25.wr W1002).ext E1011).ext E1012).ext E1013).keep K1014).keep K1037
           have cc1087 := (((((ff1001_26.other W1002 (Or.inl ne998)).ext E1011).ext E1012).ext E1013).keep K1014 (ninS ne1030 nin0)).keep K1037 (ninS ne1061 nin0)
           have cc1088 := (((((ff1001_27.other W1002 (Or.inl ne998)).ext E1011).ext E1012).ext E1013).keep K1014 (ninS ne1030 nin0)).keep K1037 (ninS ne1061 nin0)
           have cc1089 := (((((ff1001_28.other W1002 ne999).ext E1011).ext E1012).ext E1013).keep K1014 (ninS ne1031 nin0)).keep K1037 (ninS ne1062 nin0)
           have cc1090 := (((((ff1001_29.wr W1002).ext E1011).ext E1012).ext E1013).keep K1014).keep K1037
           have cc1091 := (((((ff1001_30.other W1002 (Or.inl ne1003)).ext E1011).ext E1012).ext E1013).keep K1014 (ninS ne1032 nin0)).keep K1037 (ninS ne1063 nin0)
           have cc1092 := (((((ff1001_31.other W1002 (Or.inl ne1003)).ext E1011).ext E1012).ext E1013).keep K1014 (ninS ne1032 nin0)).keep K1037 (ninS ne1063 nin0)
           have cc1093 := (((((ff1001_32.other W1002 ne1004).ext E1011).ext E1012).ext E1013).keep K1014 (ninS ne1033 nin0)).keep K1037 (ninS ne1064 nin0)
           have ne1094 : b960 ≠ o0 := (Nat.ne_of_lt (Nat.lt_of_lt_of_le ((((((u960_3.wr W962).keep K968).wr W970).keep K974).wr W976).ext E980).lt fz982_0))
           have ne1095 : b968 ≠ o1 := (Nat.ne_of_lt (Nat.lt_of_lt_of_le (ff982_11.wr W983).lt fz996_0))
           have ne1096 : b974 ≠ o2 := (Nat.ne_of_lt (Nat.lt_of_lt_of_le (ff996_15.wr W997).lt fz1001_0))
           have cc1097 := cc1038.keep K1037
           refine c_callV X1037 hx hby hZ hown hml (gw hw 108 rfl) (gw hw 109 rfl) (gw hw 111 rfl) (gw hw 110 rfl) (gw hw 112 rfl) (gw hw 54 rfl) cc1097 rfl (rmSM0 hw b1011 b959 b980 w0 b1037 k949 k959 k980 b960 bb960 kb960 la0 ca0 b968 bb968 kb968 la1 ca1 b974 bb974 kb974 la2 ca2 o0 ov0 ok0 lo0 co0 o1 ov1 ok1 lo1 co1 o2 ov2 ok2 lo2 co2 (T1037.heap) n0 ZN1037 P1 OL1037 u1037_3 u1037_4 cc1068 cc1069 cc1070 cc1071 cc1072 cc1073 cc1074 cc1075 cc1076 cc1077 cc1078 cc1079 cc1080 cc1081 cc1082 cc1083 cc1084 cc1085 cc1086 cc1087 cc1088 cc1089 cc1090 cc1091 cc1092 cc1093 ne1094 ne1095 ne1096 hw0 hla0 hla1 hla2 hlo0 hlo1 hlo2 hca0 hca1 hca2 hco0 hco1 hco2) pd_24 rfl at_547 [] rfl 0 (by decide) rfl rfl fun o1067 T1067 L1067 X1067 hQ1067 => ?_
           obtain ⟨rfl, N1067q, e1067⟩ := hQ1067
           have N1067 := Fr.app N1037 N1067q
           refine c_sh 550 [.int (own_cj [])] rfl rfl <| c_istore X1067 hx hby _ at_550 rfl <| c_iload X1067 hx hby at_552 rfl <| c_iconst X1067 hx hby 1 at_554 rfl <| c_icmpYes X1067 hx hby 572 at_555 (by decide) (by decide) <| c_iload X1067 hx hby at_572 rfl <| c_iconst X1067 hx hby 2 at_574 rfl <| c_icmpYes X1067 hx hby 592 at_575 (by decide) (by decide) <| c_iload X1067 hx hby at_592 rfl <| c_iconst X1067 hx hby 3 at_594 rfl <| c_icmpYes X1067 hx hby 612 at_595 (by decide) (by decide) <| c_iconst X1067 hx hby 1 at_612 rfl <| c_goto X1067 hx hby 617 at_613 (by decide) <| c_istore X1067 hx hby #[iv p1, iv p2, iv p3, iv p4, iv 0, iv i0, iv i1, iv i2, rv b949, rv b950, iv ca0, iv ca1, iv ca2, iv cb0, iv cb1, iv cb2, iv q0, iv q1, iv q2, iv la0, iv la1, iv la2, iv lb0, iv lb1, iv lb2, rv b959, rv b980, iv (own_eq la0 ca0 lo0 co0), iv (own_eq la1 ca1 lo1 co1), iv (own_eq la2 ca2 lo2 co2), rv b1011, iv (own_cj []), iv 1] at_617 rfl <| c_iload X1067 hx hby at_619 rfl <| c_iload X1067 hx hby at_621 rfl <| c_icmpNo X1067 hx hby at_623 (teq (by rfl)).2 <| c_iconst X1067 hx hby 1 at_626 rfl <| c_goto X1067 hx hby 631 at_627 (by decide) ?_
           refine goRetH X1067 hZ (own_EW hw) ch1037 hh e1067 hS1012 HK1037 hx Bd.notSynchronized Bd.returns rfl (Or.inl ⟨rfl, Or.inr (Or.inl rfl), _, rfl⟩) (hb hby at_631) (by decide) (by decide) ⟨rfl, N1067⟩
          refine c_iload X1002 hx hby at_487 rfl ?_
          by_cases hc489_1098 : q2 = (0 : Int32)
          ·refine c_ifNo X1002 hx hby at_489 ((if0 _ _).trans (teq hc489_1098).2) <| c_iload X1002 hx hby at_492 rfl <| c_iload X1002 hx hby at_494 rfl ?_
           by_cases hc496_1099 : la2 = lb2
           ·refine c_icmpNo X1002 hx hby at_496 (teq hc496_1099).2 <| c_iload X1002 hx hby at_499 rfl ?_
            by_cases hc501_1100 : la2 = (0 : Int32)
            ·refine c_ifYes X1002 hx hby 511 at_501 ((if0 _ _).trans (teq hc501_1100).1) (by decide) <| c_iconst X1002 hx hby 1 at_511 rfl <| c_goto X1002 hx hby 516 at_512 (by decide) ?_
             exact JE2_1009 _ ((own_e ho2).trans ((if_neg (fun k => k hc489_1098)).trans (if_pos ⟨hc496_1099, Or.inl hc501_1100⟩))).symm
            ·refine c_ifNo X1002 hx hby at_501 ((if0 _ _).trans (feq hc501_1100).1) <| c_iload X1002 hx hby at_504 rfl <| c_iload X1002 hx hby at_506 rfl ?_
             by_cases hc508_1101 : ca2 = cb2
             ·refine c_icmpNo X1002 hx hby at_508 (teq hc508_1101).2 <| c_iconst X1002 hx hby 1 at_511 rfl <| c_goto X1002 hx hby 516 at_512 (by decide) ?_
              exact JE2_1009 _ ((own_e ho2).trans ((if_neg (fun k => k hc489_1098)).trans (if_pos ⟨hc496_1099, Or.inr hc508_1101⟩))).symm
             ·refine c_icmpYes X1002 hx hby 515 at_508 (feq hc508_1101).2 (by decide) <| c_iconst X1002 hx hby 0 at_515 rfl ?_
              exact JE2_1009 _ ((own_e ho2).trans ((if_neg (fun k => k hc489_1098)).trans (if_neg fun h => h.2.elim hc501_1100 hc508_1101))).symm
           ·refine c_icmpYes X1002 hx hby 515 at_496 (feq hc496_1099).2 (by decide) <| c_iconst X1002 hx hby 0 at_515 rfl ?_
            exact JE2_1009 _ ((own_e ho2).trans ((if_neg (fun k => k hc489_1098)).trans (if_neg fun h => hc496_1099 h.1))).symm
          ·refine c_ifYes X1002 hx hby 511 at_489 ((if0 _ _).trans (feq hc489_1098).2) (by decide) <| c_iconst X1002 hx hby 1 at_511 rfl <| c_goto X1002 hx hby 516 at_512 (by decide) ?_
           exact JE2_1009 _ ((own_e ho2).trans (if_pos hc489_1098)).symm
         refine c_iload X1002 hx hby at_456 rfl ?_
         by_cases hc458_1102 : q1 = (0 : Int32)
         ·refine c_ifNo X1002 hx hby at_458 ((if0 _ _).trans (teq hc458_1102).2) <| c_iload X1002 hx hby at_461 rfl <| c_iload X1002 hx hby at_463 rfl ?_
          by_cases hc465_1103 : la1 = lb1
          ·refine c_icmpNo X1002 hx hby at_465 (teq hc465_1103).2 <| c_iload X1002 hx hby at_468 rfl ?_
           by_cases hc470_1104 : la1 = (0 : Int32)
           ·refine c_ifYes X1002 hx hby 480 at_470 ((if0 _ _).trans (teq hc470_1104).1) (by decide) <| c_iconst X1002 hx hby 1 at_480 rfl <| c_goto X1002 hx hby 485 at_481 (by decide) ?_
            exact JE1_1007 _ ((own_e ho1).trans ((if_neg (fun k => k hc458_1102)).trans (if_pos ⟨hc465_1103, Or.inl hc470_1104⟩))).symm
           ·refine c_ifNo X1002 hx hby at_470 ((if0 _ _).trans (feq hc470_1104).1) <| c_iload X1002 hx hby at_473 rfl <| c_iload X1002 hx hby at_475 rfl ?_
            by_cases hc477_1105 : ca1 = cb1
            ·refine c_icmpNo X1002 hx hby at_477 (teq hc477_1105).2 <| c_iconst X1002 hx hby 1 at_480 rfl <| c_goto X1002 hx hby 485 at_481 (by decide) ?_
             exact JE1_1007 _ ((own_e ho1).trans ((if_neg (fun k => k hc458_1102)).trans (if_pos ⟨hc465_1103, Or.inr hc477_1105⟩))).symm
            ·refine c_icmpYes X1002 hx hby 484 at_477 (feq hc477_1105).2 (by decide) <| c_iconst X1002 hx hby 0 at_484 rfl ?_
             exact JE1_1007 _ ((own_e ho1).trans ((if_neg (fun k => k hc458_1102)).trans (if_neg fun h => h.2.elim hc470_1104 hc477_1105))).symm
          ·refine c_icmpYes X1002 hx hby 484 at_465 (feq hc465_1103).2 (by decide) <| c_iconst X1002 hx hby 0 at_484 rfl ?_
           exact JE1_1007 _ ((own_e ho1).trans ((if_neg (fun k => k hc458_1102)).trans (if_neg fun h => hc465_1103 h.1))).symm
         ·refine c_ifYes X1002 hx hby 480 at_458 ((if0 _ _).trans (feq hc458_1102).2) (by decide) <| c_iconst X1002 hx hby 1 at_480 rfl <| c_goto X1002 hx hby 485 at_481 (by decide) ?_
          exact JE1_1007 _ ((own_e ho1).trans (if_pos hc458_1102)).symm
        refine c_iload X1002 hx hby at_425 rfl ?_
        by_cases hc427_1106 : q0 = (0 : Int32)
        ·refine c_ifNo X1002 hx hby at_427 ((if0 _ _).trans (teq hc427_1106).2) <| c_iload X1002 hx hby at_430 rfl <| c_iload X1002 hx hby at_432 rfl ?_
         by_cases hc434_1107 : la0 = lb0
         ·refine c_icmpNo X1002 hx hby at_434 (teq hc434_1107).2 <| c_iload X1002 hx hby at_437 rfl ?_
          by_cases hc439_1108 : la0 = (0 : Int32)
          ·refine c_ifYes X1002 hx hby 449 at_439 ((if0 _ _).trans (teq hc439_1108).1) (by decide) <| c_iconst X1002 hx hby 1 at_449 rfl <| c_goto X1002 hx hby 454 at_450 (by decide) ?_
           exact JE0_1005 _ ((own_e ho0).trans ((if_neg (fun k => k hc427_1106)).trans (if_pos ⟨hc434_1107, Or.inl hc439_1108⟩))).symm
          ·refine c_ifNo X1002 hx hby at_439 ((if0 _ _).trans (feq hc439_1108).1) <| c_iload X1002 hx hby at_442 rfl <| c_iload X1002 hx hby at_444 rfl ?_
           by_cases hc446_1109 : ca0 = cb0
           ·refine c_icmpNo X1002 hx hby at_446 (teq hc446_1109).2 <| c_iconst X1002 hx hby 1 at_449 rfl <| c_goto X1002 hx hby 454 at_450 (by decide) ?_
            exact JE0_1005 _ ((own_e ho0).trans ((if_neg (fun k => k hc427_1106)).trans (if_pos ⟨hc434_1107, Or.inr hc446_1109⟩))).symm
           ·refine c_icmpYes X1002 hx hby 453 at_446 (feq hc446_1109).2 (by decide) <| c_iconst X1002 hx hby 0 at_453 rfl ?_
            exact JE0_1005 _ ((own_e ho0).trans ((if_neg (fun k => k hc427_1106)).trans (if_neg fun h => h.2.elim hc439_1108 hc446_1109))).symm
         ·refine c_icmpYes X1002 hx hby 453 at_434 (feq hc434_1107).2 (by decide) <| c_iconst X1002 hx hby 0 at_453 rfl ?_
          exact JE0_1005 _ ((own_e ho0).trans ((if_neg (fun k => k hc427_1106)).trans (if_neg fun h => hc434_1107 h.1))).symm
        ·refine c_ifYes X1002 hx hby 449 at_427 ((if0 _ _).trans (feq hc427_1106).2) (by decide) <| c_iconst X1002 hx hby 1 at_449 rfl <| c_goto X1002 hx hby 454 at_450 (by decide) ?_
         exact JE0_1005 _ ((own_e ho0).trans (if_pos hc427_1106)).symm
       refine c_iload X997 hx hby at_400 rfl ?_
       by_cases hc402_1110 : q2 = (0 : Int32)
       ·refine c_ifYes X997 hx hby 415 at_402 ((if0 _ _).trans (teq hc402_1110).1) (by decide) <| c_iload X997 hx hby at_415 rfl <| c_iload X997 hx hby at_417 rfl <| c_callSH X997 hx hby hZ hown hml (gw hw 29 rfl) (gw hw 30 rfl) (gw hw 31 rfl) (gw hw 32 rfl) e997 (own_EW hw) ch997 hS996 HK997 (rmMK hw lb2 cb2 w0 h997 n0 ZN997 P1 OL997 hw0 hlb2 hcb2) pd_22 rfl at_419 [.int 2, .ref b980, .ref b980] rfl 3 (by decide) rfl rfl fun o1111 T1111 L1111 X1111 hS1111 hZ hown hR1111 ch1111 hQ1111 => ?_
        obtain ⟨b1111, bb1111, kb1111, rfl, N1111q, u1111_0, u1111_1, K1111, u1111_3, u1111_4, u1111_5, u1111_6⟩ := hQ1111
        have N1111 := Fr.app NN997 N1111q
        have G_b1111 := Nat.le_trans ZN997 u1111_0
        have KK1111 := KK997.trans K1111 all0
        have ZN1111 := Nat.le_trans ZN997 K1111.1
        have OL1111 := OL997.keep K1111 all0
        refine c_sh 422 [.ref b1111, .int 2, .ref b980, .ref b980] rfl rfl ?_
        have cc1112 := (ff996_0.wr W997).keep K1111
        have cc1113 := (ff996_1.other W997 ne984).keep K1111 nin0
        have cc1114 := (ff996_2.wr W997).keep K1111
        have cc1115 := (ff996_3.other W997 (Or.inl ne985)).keep K1111 nin0
        have cc1116 := (ff996_4.other W997 (Or.inl ne985)).keep K1111 nin0
        have cc1117 := (ff996_5.wr W997).keep K1111
        have cc1118 := (ff996_6.other W997 ne986).keep K1111 nin0
        have cc1119 := (ff996_7.wr W997).keep K1111
        have cc1120 := (ff996_8.other W997 (Or.inl ne987)).keep K1111 nin0
        have cc1121 := (ff996_9.other W997 (Or.inl ne987)).keep K1111 nin0
        have cc1122 := (ff996_10.other W997 ne988).keep K1111 nin0
        have cc1123 := (ff996_11.wr W997).keep K1111
        have cc1124 := (ff996_12.other W997 (Or.inl ne989)).keep K1111 nin0
        have cc1125 := (ff996_13.other W997 (Or.inl ne989)).keep K1111 nin0
        have cc1126 := (ff996_14.other W997 ne990).keep K1111 nin0
        have cc1127 := (ff996_15.wr W997).keep K1111
        have cc1128 := (ff996_16.other W997 (Or.inl ne991)).keep K1111 nin0
        have cc1129 := (ff996_17.other W997 (Or.inl ne991)).keep K1111 nin0
        have cc1130 := (ff996_18.other W997 ne992).keep K1111 nin0
        have cc1131 := (ff996_19.wr W997).keep K1111
        have cc1132 := VV997.keep K1111 nin0
        have cc1133 := (ff996_21.wr W997).keep K1111
        have cc1134 := (ff996_22.other W997 (Or.inl ne993)).keep K1111 nin0
        have cc1135 := (ff996_23.other W997 (Or.inl ne993)).keep K1111 nin0
        have cc1136 := (ff996_24.other W997 ne994).keep K1111 nin0
        have cc1137 := (ff996_25.wr W997).keep K1111
        have cc1138 := (ff996_26.other W997 (Or.inl ne998)).keep K1111 nin0
        have cc1139 := (ff996_27.other W997 (Or.inl ne998)).keep K1111 nin0
        have cc1140 := (ff996_28.other W997 ne999).keep K1111 nin0
        exact JO2_1000 b1111 bb1111 kb1111 lb2 cb2 T1111 _ X1111 hS1111 hZ hown N1111 KK1111 ZN1111 OL1111 ch1111 cc1112 cc1113 cc1114 cc1115 cc1116 cc1117 cc1118 cc1119 cc1120 cc1121 cc1122 cc1123 cc1124 cc1125 cc1126 cc1127 cc1128 cc1129 cc1130 cc1131 cc1132 cc1133 cc1134 cc1135 cc1136 cc1137 cc1138 cc1139 cc1140 u1111_3 u1111_4 u1111_5 u1111_6 u1111_0 (Or.inr ⟨hc402_1110, rfl, rfl⟩) hlb2 hcb2
       ·refine c_ifNo X997 hx hby at_402 ((if0 _ _).trans (feq hc402_1110).1) <| c_iload X997 hx hby at_405 rfl <| c_iload X997 hx hby at_407 rfl <| c_callSH X997 hx hby hZ hown hml (gw hw 29 rfl) (gw hw 30 rfl) (gw hw 31 rfl) (gw hw 32 rfl) e997 (own_EW hw) ch997 hS996 HK997 (rmMK hw la2 ca2 w0 h997 n0 ZN997 P1 OL997 hw0 hla2 hca2) pd_22 rfl at_409 [.int 2, .ref b980, .ref b980] rfl 3 (by decide) rfl rfl fun o1141 T1141 L1141 X1141 hS1141 hZ hown hR1141 ch1141 hQ1141 => ?_
        obtain ⟨b1141, bb1141, kb1141, rfl, N1141q, u1141_0, u1141_1, K1141, u1141_3, u1141_4, u1141_5, u1141_6⟩ := hQ1141
        have N1141 := Fr.app NN997 N1141q
        have G_b1141 := Nat.le_trans ZN997 u1141_0
        have KK1141 := KK997.trans K1141 all0
        have ZN1141 := Nat.le_trans ZN997 K1141.1
        have OL1141 := OL997.keep K1141 all0
        refine c_sh 412 [.ref b1141, .int 2, .ref b980, .ref b980] rfl rfl <| c_goto X1141 hx hby 422 at_412 (by decide) ?_
        have cc1142 := (ff996_0.wr W997).keep K1141
        have cc1143 := (ff996_1.other W997 ne984).keep K1141 nin0
        have cc1144 := (ff996_2.wr W997).keep K1141
        have cc1145 := (ff996_3.other W997 (Or.inl ne985)).keep K1141 nin0
        have cc1146 := (ff996_4.other W997 (Or.inl ne985)).keep K1141 nin0
        have cc1147 := (ff996_5.wr W997).keep K1141
        have cc1148 := (ff996_6.other W997 ne986).keep K1141 nin0
        have cc1149 := (ff996_7.wr W997).keep K1141
        have cc1150 := (ff996_8.other W997 (Or.inl ne987)).keep K1141 nin0
        have cc1151 := (ff996_9.other W997 (Or.inl ne987)).keep K1141 nin0
        have cc1152 := (ff996_10.other W997 ne988).keep K1141 nin0
        have cc1153 := (ff996_11.wr W997).keep K1141
        have cc1154 := (ff996_12.other W997 (Or.inl ne989)).keep K1141 nin0
        have cc1155 := (ff996_13.other W997 (Or.inl ne989)).keep K1141 nin0
        have cc1156 := (ff996_14.other W997 ne990).keep K1141 nin0
        have cc1157 := (ff996_15.wr W997).keep K1141
        have cc1158 := (ff996_16.other W997 (Or.inl ne991)).keep K1141 nin0
        have cc1159 := (ff996_17.other W997 (Or.inl ne991)).keep K1141 nin0
        have cc1160 := (ff996_18.other W997 ne992).keep K1141 nin0
        have cc1161 := (ff996_19.wr W997).keep K1141
        have cc1162 := VV997.keep K1141 nin0
        have cc1163 := (ff996_21.wr W997).keep K1141
        have cc1164 := (ff996_22.other W997 (Or.inl ne993)).keep K1141 nin0
        have cc1165 := (ff996_23.other W997 (Or.inl ne993)).keep K1141 nin0
        have cc1166 := (ff996_24.other W997 ne994).keep K1141 nin0
        have cc1167 := (ff996_25.wr W997).keep K1141
        have cc1168 := (ff996_26.other W997 (Or.inl ne998)).keep K1141 nin0
        have cc1169 := (ff996_27.other W997 (Or.inl ne998)).keep K1141 nin0
        have cc1170 := (ff996_28.other W997 ne999).keep K1141 nin0
        exact JO2_1000 b1141 bb1141 kb1141 la2 ca2 T1141 _ X1141 hS1141 hZ hown N1141 KK1141 ZN1141 OL1141 ch1141 cc1142 cc1143 cc1144 cc1145 cc1146 cc1147 cc1148 cc1149 cc1150 cc1151 cc1152 cc1153 cc1154 cc1155 cc1156 cc1157 cc1158 cc1159 cc1160 cc1161 cc1162 cc1163 cc1164 cc1165 cc1166 cc1167 cc1168 cc1169 cc1170 u1141_3 u1141_4 u1141_5 u1141_6 u1141_0 (Or.inl ⟨hc402_1110, rfl, rfl⟩) hla2 hca2
      refine c_iload X983 hx hby at_375 rfl ?_
      by_cases hc377_1171 : q1 = (0 : Int32)
      ·refine c_ifYes X983 hx hby 390 at_377 ((if0 _ _).trans (teq hc377_1171).1) (by decide) <| c_iload X983 hx hby at_390 rfl <| c_iload X983 hx hby at_392 rfl <| c_callSH X983 hx hby hZ hown hml (gw hw 29 rfl) (gw hw 30 rfl) (gw hw 31 rfl) (gw hw 32 rfl) e983 (own_EW hw) ch983 hS982 HK983 (rmMK hw lb1 cb1 w0 h983 n0 ZN983 P1 OL983 hw0 hlb1 hcb1) pd_22 rfl at_394 [.int 1, .ref b980, .ref b980] rfl 3 (by decide) rfl rfl fun o1172 T1172 L1172 X1172 hS1172 hZ hown hR1172 ch1172 hQ1172 => ?_
       obtain ⟨b1172, bb1172, kb1172, rfl, N1172q, u1172_0, u1172_1, K1172, u1172_3, u1172_4, u1172_5, u1172_6⟩ := hQ1172
       have N1172 := Fr.app NN983 N1172q
       have G_b1172 := Nat.le_trans ZN983 u1172_0
       have KK1172 := KK983.trans K1172 all0
       have ZN1172 := Nat.le_trans ZN983 K1172.1
       have OL1172 := OL983.keep K1172 all0
       refine c_sh 397 [.ref b1172, .int 1, .ref b980, .ref b980] rfl rfl ?_
       have cc1173 := (ff982_0.wr W983).keep K1172
       have cc1174 := (ff982_1.other W983 ne984).keep K1172 nin0
       have cc1175 := (ff982_2.wr W983).keep K1172
       have cc1176 := (ff982_3.other W983 (Or.inl ne985)).keep K1172 nin0
       have cc1177 := (ff982_4.other W983 (Or.inl ne985)).keep K1172 nin0
       have cc1178 := (ff982_5.wr W983).keep K1172
       have cc1179 := (ff982_6.other W983 ne986).keep K1172 nin0
       have cc1180 := (ff982_7.wr W983).keep K1172
       have cc1181 := (ff982_8.other W983 (Or.inl ne987)).keep K1172 nin0
       have cc1182 := (ff982_9.other W983 (Or.inl ne987)).keep K1172 nin0
       have cc1183 := (ff982_10.other W983 ne988).keep K1172 nin0
       have cc1184 := (ff982_11.wr W983).keep K1172
       have cc1185 := (ff982_12.other W983 (Or.inl ne989)).keep K1172 nin0
       have cc1186 := (ff982_13.other W983 (Or.inl ne989)).keep K1172 nin0
       have cc1187 := (ff982_14.other W983 ne990).keep K1172 nin0
       have cc1188 := (ff982_15.wr W983).keep K1172
       have cc1189 := (ff982_16.other W983 (Or.inl ne991)).keep K1172 nin0
       have cc1190 := (ff982_17.other W983 (Or.inl ne991)).keep K1172 nin0
       have cc1191 := (ff982_18.other W983 ne992).keep K1172 nin0
       have cc1192 := (ff982_19.wr W983).keep K1172
       have cc1193 := VV983.keep K1172 nin0
       have cc1194 := (ff982_21.wr W983).keep K1172
       have cc1195 := (ff982_22.other W983 (Or.inl ne993)).keep K1172 nin0
       have cc1196 := (ff982_23.other W983 (Or.inl ne993)).keep K1172 nin0
       have cc1197 := (ff982_24.other W983 ne994).keep K1172 nin0
       exact JO1_995 b1172 bb1172 kb1172 lb1 cb1 T1172 _ X1172 hS1172 hZ hown N1172 KK1172 ZN1172 OL1172 ch1172 cc1173 cc1174 cc1175 cc1176 cc1177 cc1178 cc1179 cc1180 cc1181 cc1182 cc1183 cc1184 cc1185 cc1186 cc1187 cc1188 cc1189 cc1190 cc1191 cc1192 cc1193 cc1194 cc1195 cc1196 cc1197 u1172_3 u1172_4 u1172_5 u1172_6 u1172_0 (Or.inr ⟨hc377_1171, rfl, rfl⟩) hlb1 hcb1
      ·refine c_ifNo X983 hx hby at_377 ((if0 _ _).trans (feq hc377_1171).1) <| c_iload X983 hx hby at_380 rfl <| c_iload X983 hx hby at_382 rfl <| c_callSH X983 hx hby hZ hown hml (gw hw 29 rfl) (gw hw 30 rfl) (gw hw 31 rfl) (gw hw 32 rfl) e983 (own_EW hw) ch983 hS982 HK983 (rmMK hw la1 ca1 w0 h983 n0 ZN983 P1 OL983 hw0 hla1 hca1) pd_22 rfl at_384 [.int 1, .ref b980, .ref b980] rfl 3 (by decide) rfl rfl fun o1198 T1198 L1198 X1198 hS1198 hZ hown hR1198 ch1198 hQ1198 => ?_
       obtain ⟨b1198, bb1198, kb1198, rfl, N1198q, u1198_0, u1198_1, K1198, u1198_3, u1198_4, u1198_5, u1198_6⟩ := hQ1198
       have N1198 := Fr.app NN983 N1198q
       have G_b1198 := Nat.le_trans ZN983 u1198_0
       have KK1198 := KK983.trans K1198 all0
       have ZN1198 := Nat.le_trans ZN983 K1198.1
       have OL1198 := OL983.keep K1198 all0
       refine c_sh 387 [.ref b1198, .int 1, .ref b980, .ref b980] rfl rfl <| c_goto X1198 hx hby 397 at_387 (by decide) ?_
       have cc1199 := (ff982_0.wr W983).keep K1198
       have cc1200 := (ff982_1.other W983 ne984).keep K1198 nin0
       have cc1201 := (ff982_2.wr W983).keep K1198
       have cc1202 := (ff982_3.other W983 (Or.inl ne985)).keep K1198 nin0
       have cc1203 := (ff982_4.other W983 (Or.inl ne985)).keep K1198 nin0
       have cc1204 := (ff982_5.wr W983).keep K1198
       have cc1205 := (ff982_6.other W983 ne986).keep K1198 nin0
       have cc1206 := (ff982_7.wr W983).keep K1198
       have cc1207 := (ff982_8.other W983 (Or.inl ne987)).keep K1198 nin0
       have cc1208 := (ff982_9.other W983 (Or.inl ne987)).keep K1198 nin0
       have cc1209 := (ff982_10.other W983 ne988).keep K1198 nin0
       have cc1210 := (ff982_11.wr W983).keep K1198
       have cc1211 := (ff982_12.other W983 (Or.inl ne989)).keep K1198 nin0
       have cc1212 := (ff982_13.other W983 (Or.inl ne989)).keep K1198 nin0
       have cc1213 := (ff982_14.other W983 ne990).keep K1198 nin0
       have cc1214 := (ff982_15.wr W983).keep K1198
       have cc1215 := (ff982_16.other W983 (Or.inl ne991)).keep K1198 nin0
       have cc1216 := (ff982_17.other W983 (Or.inl ne991)).keep K1198 nin0
       have cc1217 := (ff982_18.other W983 ne992).keep K1198 nin0
       have cc1218 := (ff982_19.wr W983).keep K1198
       have cc1219 := VV983.keep K1198 nin0
       have cc1220 := (ff982_21.wr W983).keep K1198
       have cc1221 := (ff982_22.other W983 (Or.inl ne993)).keep K1198 nin0
       have cc1222 := (ff982_23.other W983 (Or.inl ne993)).keep K1198 nin0
       have cc1223 := (ff982_24.other W983 ne994).keep K1198 nin0
       exact JO1_995 b1198 bb1198 kb1198 la1 ca1 T1198 _ X1198 hS1198 hZ hown N1198 KK1198 ZN1198 OL1198 ch1198 cc1199 cc1200 cc1201 cc1202 cc1203 cc1204 cc1205 cc1206 cc1207 cc1208 cc1209 cc1210 cc1211 cc1212 cc1213 cc1214 cc1215 cc1216 cc1217 cc1218 cc1219 cc1220 cc1221 cc1222 cc1223 u1198_3 u1198_4 u1198_5 u1198_6 u1198_0 (Or.inl ⟨hc377_1171, rfl, rfl⟩) hla1 hca1
     refine c_iload X980 hx hby at_350 rfl ?_
     by_cases hc352_1224 : q0 = (0 : Int32)
     ·refine c_ifYes X980 hx hby 365 at_352 ((if0 _ _).trans (teq hc352_1224).1) (by decide) <| c_iload X980 hx hby at_365 rfl <| c_iload X980 hx hby at_367 rfl <| c_callSH X980 hx hby hZ hown hml (gw hw 29 rfl) (gw hw 30 rfl) (gw hw 31 rfl) (gw hw 32 rfl) e980 (own_EW hw) ch980 hS974 HK980 (rmMK hw lb0 cb0 w0 h980 n0 ZN980 P1 OL980 hw0 hlb0 hcb0) pd_22 rfl at_369 [.int 0, .ref b980, .ref b980] rfl 3 (by decide) rfl rfl fun o1225 T1225 L1225 X1225 hS1225 hZ hown hR1225 ch1225 hQ1225 => ?_
      obtain ⟨b1225, bb1225, kb1225, rfl, N1225q, u1225_0, u1225_1, K1225, u1225_3, u1225_4, u1225_5, u1225_6⟩ := hQ1225
      have N1225 := Fr.app NN976 N1225q
      have G_b1225 := Nat.le_trans ZN980 u1225_0
      have KK1225 := KK980.trans K1225 all0
      have ZN1225 := Nat.le_trans ZN980 K1225.1
      have OL1225 := OL980.keep K1225 all0
      refine c_sh 372 [.ref b1225, .int 0, .ref b980, .ref b980] rfl rfl ?_
      have cc1226 := ((((((((((AE949.ext E950).keep K951).ext E959).keep K960).wr W962).keep K968).wr W970).keep K974).wr W976).ext E980).keep K1225
      have cc1227 := ((((((((((V949.ext E950).keep K951 (ninS ne955 nin0)).ext E959).keep K960 nin0).other W962 ne964).keep K968 nin0).other W970 ne964).keep K974 nin0).other W976 ne964).ext E980).keep K1225 nin0
      have cc1228 := (((((((((A950.keep K951).ext E959).keep K960).wr W962).keep K968).wr W970).keep K974).wr W976).ext E980).keep K1225
      have cc1229 := ((((((((u951_2.ext E959).keep K960 nin0).other W962 (Or.inl ne965)).keep K968 nin0).other W970 (Or.inl ne965)).keep K974 nin0).other W976 (Or.inl ne965)).ext E980).keep K1225 nin0
      have cc1230 := ((((((((u951_3.ext E959).keep K960 nin0).other W962 (Or.inl ne965)).keep K968 nin0).other W970 (Or.inl ne965)).keep K974 nin0).other W976 (Or.inl ne965)).ext E980).keep K1225 nin0
      have cc1231 := ((cc977.wr W976).ext E980).keep K1225
      have cc1232 := (VV976.ext E980).keep K1225 nin0
      have cc1233 := ((((((u960_3.wr W962).keep K968).wr W970).keep K974).wr W976).ext E980).keep K1225
      have cc1234 := ((((((u960_4.other W962 (Or.inl ne966)).keep K968 nin0).other W970 (Or.inl ne966)).keep K974 nin0).other W976 (Or.inl ne966)).ext E980).keep K1225 nin0
      have cc1235 := ((((((u960_5.other W962 (Or.inl ne966)).keep K968 nin0).other W970 (Or.inl ne966)).keep K974 nin0).other W976 (Or.inl ne966)).ext E980).keep K1225 nin0
      have cc1236 := ((((((u960_6.other W962 ne967).keep K968 nin0).other W970 ne967).keep K974 nin0).other W976 ne967).ext E980).keep K1225 nin0
      have cc1237 := ((((u968_3.wr W970).keep K974).wr W976).ext E980).keep K1225
      have cc1238 := ((((u968_4.other W970 (Or.inl ne972)).keep K974 nin0).other W976 (Or.inl ne972)).ext E980).keep K1225 nin0
      have cc1239 := ((((u968_5.other W970 (Or.inl ne972)).keep K974 nin0).other W976 (Or.inl ne972)).ext E980).keep K1225 nin0
      have cc1240 := ((((u968_6.other W970 ne973).keep K974 nin0).other W976 ne973).ext E980).keep K1225 nin0
      have cc1241 := ((u974_3.wr W976).ext E980).keep K1225
      have cc1242 := ((u974_4.other W976 (Or.inl ne978)).ext E980).keep K1225 nin0
      have cc1243 := ((u974_5.other W976 (Or.inl ne978)).ext E980).keep K1225 nin0
      have cc1244 := ((u974_6.other W976 ne979).ext E980).keep K1225 nin0
      have cc1245 := AE980.keep K1225
      have cc1246 := V980.keep K1225 nin0
      exact JO0_981 b1225 bb1225 kb1225 lb0 cb0 T1225 _ X1225 hS1225 hZ hown N1225 KK1225 ZN1225 OL1225 ch1225 cc1226 cc1227 cc1228 cc1229 cc1230 cc1231 cc1232 cc1233 cc1234 cc1235 cc1236 cc1237 cc1238 cc1239 cc1240 cc1241 cc1242 cc1243 cc1244 cc1245 cc1246 u1225_3 u1225_4 u1225_5 u1225_6 u1225_0 (Or.inr ⟨hc352_1224, rfl, rfl⟩) hlb0 hcb0
     ·refine c_ifNo X980 hx hby at_352 ((if0 _ _).trans (feq hc352_1224).1) <| c_iload X980 hx hby at_355 rfl <| c_iload X980 hx hby at_357 rfl <| c_callSH X980 hx hby hZ hown hml (gw hw 29 rfl) (gw hw 30 rfl) (gw hw 31 rfl) (gw hw 32 rfl) e980 (own_EW hw) ch980 hS974 HK980 (rmMK hw la0 ca0 w0 h980 n0 ZN980 P1 OL980 hw0 hla0 hca0) pd_22 rfl at_359 [.int 0, .ref b980, .ref b980] rfl 3 (by decide) rfl rfl fun o1247 T1247 L1247 X1247 hS1247 hZ hown hR1247 ch1247 hQ1247 => ?_
      obtain ⟨b1247, bb1247, kb1247, rfl, N1247q, u1247_0, u1247_1, K1247, u1247_3, u1247_4, u1247_5, u1247_6⟩ := hQ1247
      have N1247 := Fr.app NN976 N1247q
      have G_b1247 := Nat.le_trans ZN980 u1247_0
      have KK1247 := KK980.trans K1247 all0
      have ZN1247 := Nat.le_trans ZN980 K1247.1
      have OL1247 := OL980.keep K1247 all0
      refine c_sh 362 [.ref b1247, .int 0, .ref b980, .ref b980] rfl rfl <| c_goto X1247 hx hby 372 at_362 (by decide) ?_
      have cc1248 := ((((((((((AE949.ext E950).keep K951).ext E959).keep K960).wr W962).keep K968).wr W970).keep K974).wr W976).ext E980).keep K1247
      have cc1249 := ((((((((((V949.ext E950).keep K951 (ninS ne955 nin0)).ext E959).keep K960 nin0).other W962 ne964).keep K968 nin0).other W970 ne964).keep K974 nin0).other W976 ne964).ext E980).keep K1247 nin0
      have cc1250 := (((((((((A950.keep K951).ext E959).keep K960).wr W962).keep K968).wr W970).keep K974).wr W976).ext E980).keep K1247
      have cc1251 := ((((((((u951_2.ext E959).keep K960 nin0).other W962 (Or.inl ne965)).keep K968 nin0).other W970 (Or.inl ne965)).keep K974 nin0).other W976 (Or.inl ne965)).ext E980).keep K1247 nin0
      have cc1252 := ((((((((u951_3.ext E959).keep K960 nin0).other W962 (Or.inl ne965)).keep K968 nin0).other W970 (Or.inl ne965)).keep K974 nin0).other W976 (Or.inl ne965)).ext E980).keep K1247 nin0
      have cc1253 := ((cc977.wr W976).ext E980).keep K1247
      have cc1254 := (VV976.ext E980).keep K1247 nin0
      have cc1255 := ((((((u960_3.wr W962).keep K968).wr W970).keep K974).wr W976).ext E980).keep K1247
      have cc1256 := ((((((u960_4.other W962 (Or.inl ne966)).keep K968 nin0).other W970 (Or.inl ne966)).keep K974 nin0).other W976 (Or.inl ne966)).ext E980).keep K1247 nin0
      have cc1257 := ((((((u960_5.other W962 (Or.inl ne966)).keep K968 nin0).other W970 (Or.inl ne966)).keep K974 nin0).other W976 (Or.inl ne966)).ext E980).keep K1247 nin0
      have cc1258 := ((((((u960_6.other W962 ne967).keep K968 nin0).other W970 ne967).keep K974 nin0).other W976 ne967).ext E980).keep K1247 nin0
      have cc1259 := ((((u968_3.wr W970).keep K974).wr W976).ext E980).keep K1247
      have cc1260 := ((((u968_4.other W970 (Or.inl ne972)).keep K974 nin0).other W976 (Or.inl ne972)).ext E980).keep K1247 nin0
      have cc1261 := ((((u968_5.other W970 (Or.inl ne972)).keep K974 nin0).other W976 (Or.inl ne972)).ext E980).keep K1247 nin0
      have cc1262 := ((((u968_6.other W970 ne973).keep K974 nin0).other W976 ne973).ext E980).keep K1247 nin0
      have cc1263 := ((u974_3.wr W976).ext E980).keep K1247
      have cc1264 := ((u974_4.other W976 (Or.inl ne978)).ext E980).keep K1247 nin0
      have cc1265 := ((u974_5.other W976 (Or.inl ne978)).ext E980).keep K1247 nin0
      have cc1266 := ((u974_6.other W976 ne979).ext E980).keep K1247 nin0
      have cc1267 := AE980.keep K1247
      have cc1268 := V980.keep K1247 nin0
      exact JO0_981 b1247 bb1247 kb1247 la0 ca0 T1247 _ X1247 hS1247 hZ hown N1247 KK1247 ZN1247 OL1247 ch1247 cc1248 cc1249 cc1250 cc1251 cc1252 cc1253 cc1254 cc1255 cc1256 cc1257 cc1258 cc1259 cc1260 cc1261 cc1262 cc1263 cc1264 cc1265 cc1266 cc1267 cc1268 u1247_3 u1247_4 u1247_5 u1247_6 u1247_0 (Or.inl ⟨hc352_1224, rfl, rfl⟩) hla0 hca0
    refine c_iloadN X951 hx hby at_248 rfl <| c_iconst X951 hx hby 2 at_249 rfl <| c_iushr X951 hx hby at_250 <| c_iconst X951 hx hby 1 at_251 rfl <| c_iand X951 hx hby at_252 ?_
    by_cases hc253_1269 : (((p4.toUInt32 >>> ((2 : Int32) &&& 31).toUInt32).toInt32) &&& (1 : Int32)) = (0 : Int32)
    ·refine c_ifYes X951 hx hby 260 at_253 ((if0 _ _).trans (teq hc253_1269).1) (by decide) <| c_iconst X951 hx hby 0 at_260 rfl ?_
     exact JQ2_958 _
    ·refine c_ifNo X951 hx hby at_253 ((if0 _ _).trans (feq hc253_1269).1) <| c_iconst X951 hx hby 1 at_256 rfl <| c_goto X951 hx hby 261 at_257 (by decide) ?_
     exact JQ2_958 _
   refine c_iloadN X951 hx hby at_233 rfl <| c_iconst X951 hx hby 1 at_234 rfl <| c_iushr X951 hx hby at_235 <| c_iconst X951 hx hby 1 at_236 rfl <| c_iand X951 hx hby at_237 ?_
   by_cases hc238_1270 : (((p4.toUInt32 >>> ((1 : Int32) &&& 31).toUInt32).toInt32) &&& (1 : Int32)) = (0 : Int32)
   ·refine c_ifYes X951 hx hby 245 at_238 ((if0 _ _).trans (teq hc238_1270).1) (by decide) <| c_iconst X951 hx hby 0 at_245 rfl ?_
    exact JQ1_957 _
   ·refine c_ifNo X951 hx hby at_238 ((if0 _ _).trans (feq hc238_1270).1) <| c_iconst X951 hx hby 1 at_241 rfl <| c_goto X951 hx hby 246 at_242 (by decide) ?_
    exact JQ1_957 _
  refine c_sh 220 [] rfl rfl <| c_iloadN X951 hx hby at_220 rfl <| c_iconst X951 hx hby 1 at_221 rfl <| c_iand X951 hx hby at_222 ?_
  by_cases hc223_1271 : (p4 &&& (1 : Int32)) = (0 : Int32)
  ·refine c_ifYes X951 hx hby 230 at_223 ((if0 _ _).trans (teq hc223_1271).1) (by decide) <| c_iconst X951 hx hby 0 at_230 rfl ?_
   exact JQ0_956 _
  ·refine c_ifNo X951 hx hby at_223 ((if0 _ _).trans (feq hc223_1271).1) <| c_iconst X951 hx hby 1 at_226 rfl <| c_goto X951 hx hby 231 at_227 (by decide) ?_
   exact JQ0_956 _
 ·refine c_sh 33 [] rfl rfl <| c_iload X0 hx hby at_33 rfl <| c_ifYes X0 hx hby 46 at_35 (by decide) (by decide) <| c_iload X0 hx hby at_46 rfl <| c_iconst X0 hx hby 1 at_48 rfl <| c_icmpNo X0 hx hby at_49 (teq (rfl : (1 : Int32) = (1 : Int32))).2 <| c_iconst X0 hx hby 1 at_52 rfl <| c_newP X0 hx hby hZ (gw hw 0 rfl) e0 at_53 (by decide) 1 (by decide) (by decide) "[I" (by first | rfl | decide) fun T1272 h1272 k1272 b1272 g1272 X1272 e1272 E1272 A1272 AE1272 => ?_
  have G_b1272 := Nat.le_trans Z0 (Nat.le_of_eq g1272.symm)
  have KK1272 := (Keep.refl h0 []).ext E1272
  have ZN1272 := Nat.le_trans Z0 E1272.1
  have HK1272 : 0 ≤ h1272.size := Nat.le_trans (Nat.zero_le _) E1272.1
  have OL1272 := P0.ext E1272
  have ch1272 := ch0.trans (CHr.ext E1272 ch0.1)
  have V1272 : Arv Z h1272 b1272 k1272 .int (1 : Int32) [(.int (0 : Int32))] (.int (0 : Int32)) := (Arv.new A1272 (by decide)).pad (pad_rep [] (.int (0 : Int32)) 1)
  refine c_sh 55 [.ref b1272] rfl rfl <| c_dup X1272 hx hby at_55 rfl <| c_iconst X1272 hx hby 0 at_56 rfl <| c_iload X1272 hx hby at_57 rfl <| c_ist X1272 hx hby hZ e1272 V1272 (by decide) 0 rfl (Nat.le_of_ble_eq_true rfl) at_59 fun T1273 h1273 X1273 e1273 W1273 V1273 => ?_
  have V1273 : Arv Z h1273 b1272 k1272 .int (1 : Int32) [(.int i0)] (.int (0 : Int32)) := V1273
  have KK1273 := KK1272.wr W1273 (Or.inr (Nat.le_trans (Keep.refl h0 []).1 (Nat.le_of_eq g1272.symm)))
  have ZN1273 := Nat.le_trans ZN1272 (Keep.of_wr W1273).1
  have HK1273 : 0 ≤ h1273.size := Nat.le_trans HK1272 (Keep.of_wr W1273).1
  have NN1273 := Fr.snoc X1273 N0 G_b1272
  have OL1273 := OL1272.wr W1273 G_b1272
  have ch1273 := ch1272.trans (CHr.wr W1273 (Safe.exa hZ.alike AE1272 (by decide) (by decide)) ch1272.1)
  refine c_sh 60 [.ref b1272] rfl rfl <| c_astore X1273 hx hby _ at_60 rfl rfl <| c_goto X1273 hx hby 109 at_62 (by decide) <| c_shL #[iv p1, iv p2, iv p3, iv p4, iv 1, iv i0, iv i1, iv i2, rv b1272, .unset, .unset, .unset, .unset, .unset, .unset, .unset, .unset, .unset, .unset, .unset, .unset, .unset, .unset, .unset, .unset, .unset, .unset, .unset, .unset, .unset, .unset, .unset, .unset] rfl <| c_new X1273 hx hby hZ hown (gw hw 1 rfl) (gw hw 2 rfl) (gw hw 3 rfl) e1273 at_109 (by decide) fun T1274 h1274 b1274 g1274 X1274 e1274 E1274 A1274 D1274 => ?_
  have G_b1274 := Nat.le_trans ZN1273 (Nat.le_of_eq g1274.symm)
  have KK1274 := KK1273.ext E1274
  have ZN1274 := Nat.le_trans ZN1273 E1274.1
  have HK1274 := Nat.le_trans HK1273 E1274.1
  have OL1274 := OL1273.ext E1274
  have ch1274 := ch1273.trans (CHr.ext E1274 ch1273.1)
  refine c_sh 112 [.ref b1274] rfl rfl <| c_dup X1274 hx hby at_112 rfl ?_
  have cc1276 := show Fld Z h1274 b1274 "java/util/AbstractList" "modCount" "I" (.int (0 : Int32)) from D1274 (Or.inl (gw hw 23 rfl)) (ty := .int) (by decide)
  have cc1277 := show Fld Z h1274 b1274 "java/util/ArrayList" "size" "I" (.int (0 : Int32)) from D1274 (Or.inl (gw hw 86 rfl)) (ty := .int) (by decide)
  have cc1278 := show Fld Z h1274 b1274 "java/util/ArrayList" "elementData" "[Ljava/lang/Object;" .null from D1274 (Or.inl (gw hw 26 rfl)) (ty := (.array (.object "java/lang/Object"))) (by decide)
  refine c_init X1274 hx hby hZ hown hml (gw hw 4 rfl) (gw hw 5 rfl) (gw hw 6 rfl) (gw hw 3 rfl) rfl e1274 (rm1 hw b1274 (.int (0 : Int32)) (.int (0 : Int32)) .null d0 h1274 n0 ZN1274 P2 OL1274 A1274 G_b1274 cc1276 cc1277 cc1278) pd_4 rfl at_113 [.ref b1274] rfl 1 (by decide) rfl rfl fun o1275 T1275 L1275 X1275 hQ1275 => ?_
  obtain ⟨rfl, N1275q, K1275, u1275_1, u1275_2, u1275_3⟩ := hQ1275
  have N1275 := Fr.app NN1273 N1275q
  have ne1279 : b1272 ≠ b1274 := (Nat.ne_of_lt (Nat.lt_of_lt_of_le (AE1272.wr W1273).lt (Nat.le_of_eq g1274.symm)))
  have KK1275 := KK1274.trans K1275 (allS (P := fun x => x ∈ [] ∨ h0.size ≤ x) (Or.inr (Nat.le_trans KK1273.1 (Nat.le_of_eq g1274.symm))) all0)
  have ZN1275 := Nat.le_trans ZN1274 K1275.1
  have HK1275 : 0 ≤ T1275.heap.size := Nat.le_trans HK1274 K1275.1
  have ch1275 := ch1274.trans (CHr.keep K1275 (allS (Safe.exa hZ.alike A1274 (by decide) (by decide)) all0) ch1274.1)
  have OL1275 := OL1274.keep K1275 (allS G_b1274 all0)
  refine c_sh 116 [.ref b1274] rfl rfl <| c_astore X1275 hx hby _ at_116 rfl rfl <| c_iload X1275 hx hby at_118 rfl <| c_iconst X1275 hx hby 1 at_120 rfl <| c_icmpNo X1275 hx hby at_121 (by decide) <| c_aload X1275 hx hby at_124 rfl rfl <| c_shL #[iv p1, iv p2, iv p3, iv p4, iv 1, iv i0, iv i1, iv i2, rv b1272, rv b1274, .unset, .unset, .unset, .unset, .unset, .unset, .unset, .unset, .unset, .unset, .unset, .unset, .unset, .unset, .unset, .unset, .unset, .unset, .unset, .unset, .unset, .unset, .unset] rfl ?_
  obtain ⟨t1280, T1280, h1280, k1280, bs1280, ks1280, X1280, e1280, E1280, hS1280, hk1280, hZ, hown, LE1280, LC1280, LV1280, LA1280, -, -, cr1280, -, sn1280, st1280⟩ := ldcCH X1275 hx hZ hown (gw hw 124 rfl) (own_wS hw) rfl hS0 HK1275 (own_EW hw) (List.mem_of_getElem? (i := 0) rfl) ch1275.1 (vs := [(.int (97 : Int32))]) (z := (1 : Int32)) ⟨by decide, by decide⟩ (by decide) (by decide) (g := (mkF m 126 #[iv p1, iv p2, iv p3, iv p4, iv 1, iv i0, iv i1, iv i2, rv b1272, rv b1274, .unset, .unset, .unset, .unset, .unset, .unset, .unset, .unset, .unset, .unset, .unset, .unset, .unset, .unset, .unset, .unset, .unset, .unset, .unset, .unset, .unset, .unset, .unset] [.ref b1274])) rfl (hb hby at_126) (n := 4) (by decide) (by decide) (by decide) (by decide)
  have ch1280 := ch1275.trans cr1280
  have KK1280 := KK1275.ext E1280
  have ZN1280 := Nat.le_trans ZN1275 E1280.1
  have OL1280 := OL1275.ext E1280
  refine go st1280 ?_
  show Go _ p e below s _ _ _ (T1280.setTop (mkF m 128 #[iv p1, iv p2, iv p3, iv p4, iv 1, iv i0, iv i1, iv i2, rv b1272, rv b1274, .unset, .unset, .unset, .unset, .unset, .unset, .unset, .unset, .unset, .unset, .unset, .unset, .unset, .unset, .unset, .unset, .unset, .unset, .unset, .unset, .unset, .unset, .unset] [.ref t1280, .ref b1274]))
  have cc1282 := (A1274.keep K1275).ext E1280
  have cc1283 := u1275_1.ext E1280
  have cc1284 := u1275_2.ext E1280
  have cc1285 := u1275_3.ext E1280
  refine c_callV X1280 hx hby hZ hown hml (gw hw 125 rfl) (gw hw 126 rfl) (gw hw 128 rfl) (gw hw 127 rfl) (gw hw 129 rfl) (gw hw 3 rfl) cc1282 e1280 (rmX10 hw b1274 t1280 d0 kd h1280 n0 ZN1280 P2 OL1280 P3 cc1282 G_b1274 LE1280 cc1283 cc1284 cc1285) pd_21 rfl at_128 [] rfl 0 (by decide) rfl rfl fun o1281 T1281 L1281 X1281 hQ1281 => ?_
  obtain ⟨b1281, k1281, rfl, N1281q, u1281_0, u1281_1, K1281, u1281_3, u1281_4, u1281_5, u1281_6, u1281_7, u1281_8⟩ := hQ1281
  have N1281 := Fr.app N1275 N1281q
  have G_b1281 := Nat.le_trans ZN1280 u1281_0
  have ne1286 : t1280 ≠ b1274 := (Exa.ne LE1280 cc1282 (by decide))
  have ne1287 : bs1280 ≠ b1274 := (Ne.symm (Exa.neArv cc1282 LA1280 (gw hw 2 rfl)))
  have KK1281 := KK1280.trans K1281 (allS (P := fun x => x ∈ [] ∨ h0.size ≤ x) (Or.inr (Nat.le_trans KK1273.1 (Nat.le_of_eq g1274.symm))) all0)
  have ZN1281 := Nat.le_trans ZN1280 K1281.1
  have HK1281 : k1280 ≤ T1281.heap.size := Nat.le_trans hk1280 K1281.1
  have ch1281 := ch1280.trans (CHr.keep K1281 (allS (Safe.exa hZ.alike cc1282 (by decide) (by decide)) all0) ch1280.1)
  have OL1281 := OL1280.keep K1281 (allS G_b1274 all0)
  refine c_sh 131 [.int 1] rfl rfl <| c_pop X1281 hx hby at_131 rfl <| c_iload X1281 hx hby at_132 rfl <| c_iconst X1281 hx hby 2 at_134 rfl <| c_icmpYes X1281 hx hby 146 at_135 (by decide) (by decide) <| c_iload X1281 hx hby at_146 rfl <| c_iconst X1281 hx hby 3 at_148 rfl <| c_icmpYes X1281 hx hby 160 at_149 (by decide) (by decide) <| c_iloadN X1281 hx hby at_160 rfl <| c_sipush X1281 hx hby 255 at_161 rfl <| c_iand X1281 hx hby at_164 <| c_i2c X1281 hx hby at_165 ?_
  rw [i2c_mask]
  refine c_sh 166 [.int (p2 &&& (255 : Int32))] rfl rfl <| c_istore X1281 hx hby _ at_166 rfl <| c_iloadN X1281 hx hby at_168 rfl <| c_bipush X1281 hx hby 8 at_169 rfl <| c_iushr X1281 hx hby at_171 <| c_sipush X1281 hx hby 255 at_172 rfl <| c_iand X1281 hx hby at_175 <| c_i2c X1281 hx hby at_176 <| c_shL #[iv p1, iv p2, iv p3, iv p4, iv 1, iv i0, iv i1, iv i2, rv b1272, rv b1274, iv (p2 &&& (255 : Int32)), .unset, .unset, .unset, .unset, .unset, .unset, .unset, .unset, .unset, .unset, .unset, .unset, .unset, .unset, .unset, .unset, .unset, .unset, .unset, .unset, .unset, .unset] rfl ?_
  rw [i2c_mask]
  refine c_sh 177 [.int (((p2.toUInt32 >>> ((8 : Int32) &&& 31).toUInt32).toInt32) &&& (255 : Int32))] rfl rfl <| c_istore X1281 hx hby _ at_177 rfl <| c_iloadN X1281 hx hby at_179 rfl <| c_bipush X1281 hx hby 16 at_180 rfl <| c_iushr X1281 hx hby at_182 <| c_sipush X1281 hx hby 255 at_183 rfl <| c_iand X1281 hx hby at_186 <| c_i2c X1281 hx hby at_187 <| c_shL #[iv p1, iv p2, iv p3, iv p4, iv 1, iv i0, iv i1, iv i2, rv b1272, rv b1274, iv (p2 &&& (255 : Int32)), iv (((p2.toUInt32 >>> ((8 : Int32) &&& 31).toUInt32).toInt32) &&& (255 : Int32)), .unset, .unset, .unset, .unset, .unset, .unset, .unset, .unset, .unset, .unset, .unset, .unset, .unset, .unset, .unset, .unset, .unset, .unset, .unset, .unset, .unset] rfl ?_
  rw [i2c_mask]
  refine c_sh 188 [.int (((p2.toUInt32 >>> ((16 : Int32) &&& 31).toUInt32).toInt32) &&& (255 : Int32))] rfl rfl <| c_istore X1281 hx hby _ at_188 rfl <| c_iloadN X1281 hx hby at_190 rfl <| c_sipush X1281 hx hby 255 at_191 rfl <| c_iand X1281 hx hby at_194 <| c_i2c X1281 hx hby at_195 <| c_shL #[iv p1, iv p2, iv p3, iv p4, iv 1, iv i0, iv i1, iv i2, rv b1272, rv b1274, iv (p2 &&& (255 : Int32)), iv (((p2.toUInt32 >>> ((8 : Int32) &&& 31).toUInt32).toInt32) &&& (255 : Int32)), iv (((p2.toUInt32 >>> ((16 : Int32) &&& 31).toUInt32).toInt32) &&& (255 : Int32)), .unset, .unset, .unset, .unset, .unset, .unset, .unset, .unset, .unset, .unset, .unset, .unset, .unset, .unset, .unset, .unset, .unset, .unset, .unset, .unset] rfl ?_
  rw [i2c_mask]
  refine c_sh 196 [.int (p3 &&& (255 : Int32))] rfl rfl <| c_istore X1281 hx hby _ at_196 rfl <| c_iloadN X1281 hx hby at_198 rfl <| c_bipush X1281 hx hby 8 at_199 rfl <| c_iushr X1281 hx hby at_201 <| c_sipush X1281 hx hby 255 at_202 rfl <| c_iand X1281 hx hby at_205 <| c_i2c X1281 hx hby at_206 <| c_shL #[iv p1, iv p2, iv p3, iv p4, iv 1, iv i0, iv i1, iv i2, rv b1272, rv b1274, iv (p2 &&& (255 : Int32)), iv (((p2.toUInt32 >>> ((8 : Int32) &&& 31).toUInt32).toInt32) &&& (255 : Int32)), iv (((p2.toUInt32 >>> ((16 : Int32) &&& 31).toUInt32).toInt32) &&& (255 : Int32)), iv (p3 &&& (255 : Int32)), .unset, .unset, .unset, .unset, .unset, .unset, .unset, .unset, .unset, .unset, .unset, .unset, .unset, .unset, .unset, .unset, .unset, .unset, .unset] rfl ?_
  rw [i2c_mask]
  refine c_sh 207 [.int (((p3.toUInt32 >>> ((8 : Int32) &&& 31).toUInt32).toInt32) &&& (255 : Int32))] rfl rfl <| c_istore X1281 hx hby _ at_207 rfl <| c_iloadN X1281 hx hby at_209 rfl <| c_bipush X1281 hx hby 16 at_210 rfl <| c_iushr X1281 hx hby at_212 <| c_sipush X1281 hx hby 255 at_213 rfl <| c_iand X1281 hx hby at_216 <| c_i2c X1281 hx hby at_217 <| c_shL #[iv p1, iv p2, iv p3, iv p4, iv 1, iv i0, iv i1, iv i2, rv b1272, rv b1274, iv (p2 &&& (255 : Int32)), iv (((p2.toUInt32 >>> ((8 : Int32) &&& 31).toUInt32).toInt32) &&& (255 : Int32)), iv (((p2.toUInt32 >>> ((16 : Int32) &&& 31).toUInt32).toInt32) &&& (255 : Int32)), iv (p3 &&& (255 : Int32)), iv (((p3.toUInt32 >>> ((8 : Int32) &&& 31).toUInt32).toInt32) &&& (255 : Int32)), .unset, .unset, .unset, .unset, .unset, .unset, .unset, .unset, .unset, .unset, .unset, .unset, .unset, .unset, .unset, .unset, .unset, .unset] rfl ?_
  rw [i2c_mask]
  refine c_sh 218 [.int (((p3.toUInt32 >>> ((16 : Int32) &&& 31).toUInt32).toInt32) &&& (255 : Int32))] rfl rfl <| c_istore X1281 hx hby _ at_218 rfl <| c_shL #[iv p1, iv p2, iv p3, iv p4, iv 1, iv i0, iv i1, iv i2, rv b1272, rv b1274, iv (p2 &&& (255 : Int32)), iv (((p2.toUInt32 >>> ((8 : Int32) &&& 31).toUInt32).toInt32) &&& (255 : Int32)), iv (((p2.toUInt32 >>> ((16 : Int32) &&& 31).toUInt32).toInt32) &&& (255 : Int32)), iv (p3 &&& (255 : Int32)), iv (((p3.toUInt32 >>> ((8 : Int32) &&& 31).toUInt32).toInt32) &&& (255 : Int32)), iv (((p3.toUInt32 >>> ((16 : Int32) &&& 31).toUInt32).toInt32) &&& (255 : Int32)), .unset, .unset, .unset, .unset, .unset, .unset, .unset, .unset, .unset, .unset, .unset, .unset, .unset, .unset, .unset, .unset, .unset] rfl ?_
  have hca0 := own_chm p2
  generalize (p2 &&& (255 : Int32)) = ca0 at hca0 ⊢
  have hca1 := own_chm ((p2.toUInt32 >>> ((8 : Int32) &&& 31).toUInt32).toInt32)
  generalize (((p2.toUInt32 >>> ((8 : Int32) &&& 31).toUInt32).toInt32) &&& (255 : Int32)) = ca1 at hca1 ⊢
  have hca2 := own_chm ((p2.toUInt32 >>> ((16 : Int32) &&& 31).toUInt32).toInt32)
  generalize (((p2.toUInt32 >>> ((16 : Int32) &&& 31).toUInt32).toInt32) &&& (255 : Int32)) = ca2 at hca2 ⊢
  have hcb0 := own_chm p3
  generalize (p3 &&& (255 : Int32)) = cb0 at hcb0 ⊢
  have hcb1 := own_chm ((p3.toUInt32 >>> ((8 : Int32) &&& 31).toUInt32).toInt32)
  generalize (((p3.toUInt32 >>> ((8 : Int32) &&& 31).toUInt32).toInt32) &&& (255 : Int32)) = cb1 at hcb1 ⊢
  have hcb2 := own_chm ((p3.toUInt32 >>> ((16 : Int32) &&& 31).toUInt32).toInt32)
  generalize (((p3.toUInt32 >>> ((16 : Int32) &&& 31).toUInt32).toInt32) &&& (255 : Int32)) = cb2 at hcb2 ⊢
  refine c_sh 220 [] rfl rfl ?_
  have JQ0_1288 : ∀ (q0 : Int32), Go (own_EndH Z) p e below s room_1.cells room_1.slots (Q0 Z p1 p2 p3 p4 w0 d0 kd el em mr h0 n0) (T1281.setTop (mkF m 231 #[iv p1, iv p2, iv p3, iv p4, iv 1, iv i0, iv i1, iv i2, rv b1272, rv b1274, iv ca0, iv ca1, iv ca2, iv cb0, iv cb1, iv cb2, .unset, .unset, .unset, .unset, .unset, .unset, .unset, .unset, .unset, .unset, .unset, .unset, .unset, .unset, .unset, .unset, .unset] [.int q0])) := by
   intro q0
   refine c_istore X1281 hx hby _ at_231 rfl <| c_shL #[iv p1, iv p2, iv p3, iv p4, iv 1, iv i0, iv i1, iv i2, rv b1272, rv b1274, iv ca0, iv ca1, iv ca2, iv cb0, iv cb1, iv cb2, iv q0, .unset, .unset, .unset, .unset, .unset, .unset, .unset, .unset, .unset, .unset, .unset, .unset, .unset, .unset, .unset, .unset] rfl ?_
   have JQ1_1289 : ∀ (q1 : Int32), Go (own_EndH Z) p e below s room_1.cells room_1.slots (Q0 Z p1 p2 p3 p4 w0 d0 kd el em mr h0 n0) (T1281.setTop (mkF m 246 #[iv p1, iv p2, iv p3, iv p4, iv 1, iv i0, iv i1, iv i2, rv b1272, rv b1274, iv ca0, iv ca1, iv ca2, iv cb0, iv cb1, iv cb2, iv q0, .unset, .unset, .unset, .unset, .unset, .unset, .unset, .unset, .unset, .unset, .unset, .unset, .unset, .unset, .unset, .unset] [.int q1])) := by
    intro q1
    refine c_istore X1281 hx hby _ at_246 rfl <| c_shL #[iv p1, iv p2, iv p3, iv p4, iv 1, iv i0, iv i1, iv i2, rv b1272, rv b1274, iv ca0, iv ca1, iv ca2, iv cb0, iv cb1, iv cb2, iv q0, iv q1, .unset, .unset, .unset, .unset, .unset, .unset, .unset, .unset, .unset, .unset, .unset, .unset, .unset, .unset, .unset] rfl ?_
    have JQ2_1290 : ∀ (q2 : Int32), Go (own_EndH Z) p e below s room_1.cells room_1.slots (Q0 Z p1 p2 p3 p4 w0 d0 kd el em mr h0 n0) (T1281.setTop (mkF m 261 #[iv p1, iv p2, iv p3, iv p4, iv 1, iv i0, iv i1, iv i2, rv b1272, rv b1274, iv ca0, iv ca1, iv ca2, iv cb0, iv cb1, iv cb2, iv q0, iv q1, .unset, .unset, .unset, .unset, .unset, .unset, .unset, .unset, .unset, .unset, .unset, .unset, .unset, .unset, .unset] [.int q2])) := by
     intro q2
     refine c_istore X1281 hx hby _ at_261 rfl <| c_iloadN X1281 hx hby at_263 rfl <| c_iconst X1281 hx hby 3 at_264 rfl <| c_iushr X1281 hx hby at_265 <| c_iconst X1281 hx hby 1 at_266 rfl <| c_iand X1281 hx hby at_267 <| c_istore X1281 hx hby #[iv p1, iv p2, iv p3, iv p4, iv 1, iv i0, iv i1, iv i2, rv b1272, rv b1274, iv ca0, iv ca1, iv ca2, iv cb0, iv cb1, iv cb2, iv q0, iv q1, iv q2, iv (((p4.toUInt32 >>> ((3 : Int32) &&& 31).toUInt32).toInt32) &&& (1 : Int32)), .unset, .unset, .unset, .unset, .unset, .unset, .unset, .unset, .unset, .unset, .unset, .unset, .unset] at_268 rfl <| c_iloadN X1281 hx hby at_270 rfl <| c_iconst X1281 hx hby 4 at_271 rfl <| c_iushr X1281 hx hby at_272 <| c_iconst X1281 hx hby 1 at_273 rfl <| c_iand X1281 hx hby at_274 <| c_istore X1281 hx hby _ at_275 rfl <| c_iloadN X1281 hx hby at_277 rfl <| c_iconst X1281 hx hby 5 at_278 rfl <| c_sh 279 _ rfl rfl <| c_iushr X1281 hx hby at_279 <| c_iconst X1281 hx hby 1 at_280 rfl <| c_iand X1281 hx hby at_281 <| c_istore X1281 hx hby #[iv p1, iv p2, iv p3, iv p4, iv 1, iv i0, iv i1, iv i2, rv b1272, rv b1274, iv ca0, iv ca1, iv ca2, iv cb0, iv cb1, iv cb2, iv q0, iv q1, iv q2, iv (((p4.toUInt32 >>> ((3 : Int32) &&& 31).toUInt32).toInt32) &&& (1 : Int32)), iv (((p4.toUInt32 >>> ((4 : Int32) &&& 31).toUInt32).toInt32) &&& (1 : Int32)), iv (((p4.toUInt32 >>> ((5 : Int32) &&& 31).toUInt32).toInt32) &&& (1 : Int32)), .unset, .unset, .unset, .unset, .unset, .unset, .unset, .unset, .unset, .unset, .unset] at_282 rfl <| c_iloadN X1281 hx hby at_284 rfl <| c_bipush X1281 hx hby 6 at_285 rfl <| c_iushr X1281 hx hby at_287 <| c_iconst X1281 hx hby 1 at_288 rfl <| c_iand X1281 hx hby at_289 <| c_istore X1281 hx hby _ at_290 rfl <| c_iloadN X1281 hx hby at_292 rfl <| c_bipush X1281 hx hby 7 at_293 rfl <| c_iushr X1281 hx hby at_295 <| c_iconst X1281 hx hby 1 at_296 rfl <| c_iand X1281 hx hby at_297 <| c_sh 298 _ rfl rfl <| c_istore X1281 hx hby #[iv p1, iv p2, iv p3, iv p4, iv 1, iv i0, iv i1, iv i2, rv b1272, rv b1274, iv ca0, iv ca1, iv ca2, iv cb0, iv cb1, iv cb2, iv q0, iv q1, iv q2, iv (((p4.toUInt32 >>> ((3 : Int32) &&& 31).toUInt32).toInt32) &&& (1 : Int32)), iv (((p4.toUInt32 >>> ((4 : Int32) &&& 31).toUInt32).toInt32) &&& (1 : Int32)), iv (((p4.toUInt32 >>> ((5 : Int32) &&& 31).toUInt32).toInt32) &&& (1 : Int32)), iv (((p4.toUInt32 >>> ((6 : Int32) &&& 31).toUInt32).toInt32) &&& (1 : Int32)), iv (((p4.toUInt32 >>> ((7 : Int32) &&& 31).toUInt32).toInt32) &&& (1 : Int32)), .unset, .unset, .unset, .unset, .unset, .unset, .unset, .unset, .unset] at_298 rfl <| c_iloadN X1281 hx hby at_300 rfl <| c_bipush X1281 hx hby 8 at_301 rfl <| c_iushr X1281 hx hby at_303 <| c_iconst X1281 hx hby 1 at_304 rfl <| c_iand X1281 hx hby at_305 <| c_istore X1281 hx hby _ at_306 rfl <| c_shL #[iv p1, iv p2, iv p3, iv p4, iv 1, iv i0, iv i1, iv i2, rv b1272, rv b1274, iv ca0, iv ca1, iv ca2, iv cb0, iv cb1, iv cb2, iv q0, iv q1, iv q2, iv (((p4.toUInt32 >>> ((3 : Int32) &&& 31).toUInt32).toInt32) &&& (1 : Int32)), iv (((p4.toUInt32 >>> ((4 : Int32) &&& 31).toUInt32).toInt32) &&& (1 : Int32)), iv (((p4.toUInt32 >>> ((5 : Int32) &&& 31).toUInt32).toInt32) &&& (1 : Int32)), iv (((p4.toUInt32 >>> ((6 : Int32) &&& 31).toUInt32).toInt32) &&& (1 : Int32)), iv (((p4.toUInt32 >>> ((7 : Int32) &&& 31).toUInt32).toInt32) &&& (1 : Int32)), iv (((p4.toUInt32 >>> ((8 : Int32) &&& 31).toUInt32).toInt32) &&& (1 : Int32)), .unset, .unset, .unset, .unset, .unset, .unset, .unset, .unset] rfl ?_
     have hla0 := own_bit ((p4.toUInt32 >>> ((3 : Int32) &&& 31).toUInt32).toInt32)
     generalize (((p4.toUInt32 >>> ((3 : Int32) &&& 31).toUInt32).toInt32) &&& (1 : Int32)) = la0 at hla0 ⊢
     have hla1 := own_bit ((p4.toUInt32 >>> ((4 : Int32) &&& 31).toUInt32).toInt32)
     generalize (((p4.toUInt32 >>> ((4 : Int32) &&& 31).toUInt32).toInt32) &&& (1 : Int32)) = la1 at hla1 ⊢
     have hla2 := own_bit ((p4.toUInt32 >>> ((5 : Int32) &&& 31).toUInt32).toInt32)
     generalize (((p4.toUInt32 >>> ((5 : Int32) &&& 31).toUInt32).toInt32) &&& (1 : Int32)) = la2 at hla2 ⊢
     have hlb0 := own_bit ((p4.toUInt32 >>> ((6 : Int32) &&& 31).toUInt32).toInt32)
     generalize (((p4.toUInt32 >>> ((6 : Int32) &&& 31).toUInt32).toInt32) &&& (1 : Int32)) = lb0 at hlb0 ⊢
     have hlb1 := own_bit ((p4.toUInt32 >>> ((7 : Int32) &&& 31).toUInt32).toInt32)
     generalize (((p4.toUInt32 >>> ((7 : Int32) &&& 31).toUInt32).toInt32) &&& (1 : Int32)) = lb1 at hlb1 ⊢
     have hlb2 := own_bit ((p4.toUInt32 >>> ((8 : Int32) &&& 31).toUInt32).toInt32)
     generalize (((p4.toUInt32 >>> ((8 : Int32) &&& 31).toUInt32).toInt32) &&& (1 : Int32)) = lb2 at hlb2 ⊢
     refine c_sh 308 [] rfl rfl <| c_iconst X1281 hx hby 3 at_308 rfl ?_
     obtain ⟨T1291, h1291, k1291, X1291, e1291, E1291, A1291, AE1291, O1291, st1291⟩ := newRE X1281 hx hZ hown (gw hw 27 rfl) (gw hw 28 rfl) rfl (g := (mkF m 309 #[iv p1, iv p2, iv p3, iv p4, iv 1, iv i0, iv i1, iv i2, rv b1272, rv b1274, iv ca0, iv ca1, iv ca2, iv cb0, iv cb1, iv cb2, iv q0, iv q1, iv q2, iv la0, iv la1, iv la2, iv lb0, iv lb1, iv lb2, .unset, .unset, .unset, .unset, .unset, .unset, .unset, .unset] [.int 3])) rfl (hb hby at_309) rfl (by decide) (cap := 3) (by decide) (by decide) (by decide) (by decide) (ad := "[Ljava/lang/String;") (by first | rfl | decide)
     obtain ⟨b1291, g1291⟩ : ∃ z, z = T1281.heap.size := ⟨_, rfl⟩
     rw [← g1291] at A1291 AE1291 st1291
     have G_b1291 := Nat.le_trans ZN1281 (Nat.le_of_eq g1291.symm)
     have KK1291 := KK1281.ext E1291
     have ZN1291 := Nat.le_trans ZN1281 E1291.1
     have HK1291 := Nat.le_trans HK1281 E1291.1
     have OL1291 := OL1281.ext E1291
     have ch1291 := ch1281.trans (CHr.ext E1291 ch1281.1)
     have V1291 : Arv Z h1291 b1291 k1291 (.object "java/lang/String") (3 : Int32) [.null, .null, .null] .null := (Arv.new A1291 (by decide)).pad (pad_rep [] .null 3)
     refine go st1291 ?_
     show Go _ p e below s _ _ _ (T1291.setTop (mkF m 312 #[iv p1, iv p2, iv p3, iv p4, iv 1, iv i0, iv i1, iv i2, rv b1272, rv b1274, iv ca0, iv ca1, iv ca2, iv cb0, iv cb1, iv cb2, iv q0, iv q1, iv q2, iv la0, iv la1, iv la2, iv lb0, iv lb1, iv lb2, .unset, .unset, .unset, .unset, .unset, .unset, .unset, .unset] [.ref b1291]))
     refine c_dup X1291 hx hby at_312 rfl <| c_iconst X1291 hx hby 0 at_313 rfl <| c_iload X1291 hx hby at_314 rfl <| c_iload X1291 hx hby at_316 rfl <| c_callSH X1291 hx hby hZ hown hml (gw hw 29 rfl) (gw hw 30 rfl) (gw hw 31 rfl) (gw hw 32 rfl) e1291 (own_EW hw) ch1291 hS1280 HK1291 (rmMK hw la0 ca0 w0 h1291 n0 ZN1291 P1 OL1291 hw0 hla0 hca0) pd_22 rfl at_318 [.int 0, .ref b1291, .ref b1291] rfl 3 (by decide) rfl rfl fun o1292 T1292 L1292 X1292 hS1292 hZ hown hR1292 ch1292 hQ1292 => ?_
     obtain ⟨b1292, bb1292, kb1292, rfl, N1292q, u1292_0, u1292_1, K1292, u1292_3, u1292_4, u1292_5, u1292_6⟩ := hQ1292
     have N1292 := Fr.app N1281 N1292q
     have G_b1292 := Nat.le_trans ZN1291 u1292_0
     have KK1292 := KK1291.trans K1292 all0
     have ZN1292 := Nat.le_trans ZN1291 K1292.1
     have OL1292 := OL1291.keep K1292 all0
     refine c_sh 321 [.ref b1292, .int 0, .ref b1291, .ref b1291] rfl rfl ?_
     have cc1293 := V1291.keep K1292 nin0
     obtain ⟨cl1294, Ar1294, q1294, Sz1294, Nz1294, Hs1294, Gs1294⟩ := id cc1293
     have hin1294 : ¬ ((0 : Int32) < 0 ∨ cl1294.slots.size ≤ ((0 : Int32)).toNatClampNeg) := inb_of Sz1294 ⟨by decide, by decide⟩
     obtain ⟨T1294, h1294, X1294, e1294, W1294, st1294⟩ := stR X1292 hx hZ rfl Ar1294 (j := (0 : Int32)) hin1294 rfl (Sto.ofV Ar1294 q1294 O1291 (Ins.self u1292_3)) (g := (mkF m 321 #[iv p1, iv p2, iv p3, iv p4, iv 1, iv i0, iv i1, iv i2, rv b1272, rv b1274, iv ca0, iv ca1, iv ca2, iv cb0, iv cb1, iv cb2, iv q0, iv q1, iv q2, iv la0, iv la1, iv la2, iv lb0, iv lb1, iv lb2, .unset, .unset, .unset, .unset, .unset, .unset, .unset, .unset] [.ref b1292, .int 0, .ref b1291, .ref b1291])) rfl rfl (hb hby at_321)
     have V1294 := Arv.set Ar1294 q1294 Sz1294 Nz1294 Hs1294 Gs1294 rfl W1294 0 rfl (Nat.le_of_ble_eq_true rfl)
     have VV1294 : Arv Z h1294 b1291 k1291 (.object "java/lang/String") (3 : Int32) [(.ref b1292), .null, .null] .null := V1294
     have cc1295 := AE1291.keep K1292
     have ne1296 : b1272 ≠ b1291 := (Nat.ne_of_lt (Nat.lt_of_lt_of_le (((((AE1272.wr W1273).ext E1274).keep K1275).ext E1280).keep K1281).lt (Nat.le_of_eq g1291.symm)))
     have ne1297 : b1274 ≠ b1291 := (Nat.ne_of_lt (Nat.lt_of_lt_of_le (cc1282.keep K1281).lt (Nat.le_of_eq g1291.symm)))
     have ne1298 : b1281 ≠ b1291 := (Nat.ne_of_lt (Nat.lt_of_lt_of_le u1281_6.lt (Nat.le_of_eq g1291.symm)))
     have ne1299 : b1292 ≠ b1291 := (Ne.symm (Nat.ne_of_lt (Nat.lt_of_lt_of_le AE1291.lt u1292_0)))
     have ne1300 : bb1292 ≠ b1291 := (own_tyne u1292_6 cc1293 (by decide))
     have KK1294 := KK1292.wr W1294 (Or.inr (Nat.le_trans KK1281.1 (Nat.le_of_eq g1291.symm)))
     have ZN1294 := Nat.le_trans ZN1292 (Keep.of_wr W1294).1
     have HK1294 : T1292.heap.size ≤ h1294.size := Nat.le_trans (Nat.le_refl _) (Keep.of_wr W1294).1
     have NN1294 := Fr.snoc X1294 N1292 G_b1291
     have OL1294 := OL1292.wr W1294 G_b1291
     have ch1294 := ch1292.trans (CHr.wr W1294 (Safe.exa hZ.alike cc1295 (by decide) (by decide)) ch1292.1)
     refine go st1294 ?_
     show Go _ p e below s _ _ _ (T1294.setTop (mkF m 322 #[iv p1, iv p2, iv p3, iv p4, iv 1, iv i0, iv i1, iv i2, rv b1272, rv b1274, iv ca0, iv ca1, iv ca2, iv cb0, iv cb1, iv cb2, iv q0, iv q1, iv q2, iv la0, iv la1, iv la2, iv lb0, iv lb1, iv lb2, .unset, .unset, .unset, .unset, .unset, .unset, .unset, .unset] [.ref b1291]))
     refine c_dup X1294 hx hby at_322 rfl <| c_iconst X1294 hx hby 1 at_323 rfl <| c_iload X1294 hx hby at_324 rfl <| c_iload X1294 hx hby at_326 rfl <| c_callSH X1294 hx hby hZ hown hml (gw hw 29 rfl) (gw hw 30 rfl) (gw hw 31 rfl) (gw hw 32 rfl) e1294 (own_EW hw) ch1294 hS1292 HK1294 (rmMK hw la1 ca1 w0 h1294 n0 ZN1294 P1 OL1294 hw0 hla1 hca1) pd_22 rfl at_328 [.int 1, .ref b1291, .ref b1291] rfl 3 (by decide) rfl rfl fun o1301 T1301 L1301 X1301 hS1301 hZ hown hR1301 ch1301 hQ1301 => ?_
     obtain ⟨b1301, bb1301, kb1301, rfl, N1301q, u1301_0, u1301_1, K1301, u1301_3, u1301_4, u1301_5, u1301_6⟩ := hQ1301
     have N1301 := Fr.app NN1294 N1301q
     have G_b1301 := Nat.le_trans ZN1294 u1301_0
     have KK1301 := KK1294.trans K1301 all0
     have ZN1301 := Nat.le_trans ZN1294 K1301.1
     have OL1301 := OL1294.keep K1301 all0
     refine c_sh 331 [.ref b1301, .int 1, .ref b1291, .ref b1291] rfl rfl ?_
     have cc1302 := VV1294.keep K1301 nin0
     obtain ⟨cl1303, Ar1303, q1303, Sz1303, Nz1303, Hs1303, Gs1303⟩ := id cc1302
     have hin1303 : ¬ ((1 : Int32) < 0 ∨ cl1303.slots.size ≤ ((1 : Int32)).toNatClampNeg) := inb_of Sz1303 ⟨by decide, by decide⟩
     obtain ⟨T1303, h1303, X1303, e1303, W1303, st1303⟩ := stR X1301 hx hZ rfl Ar1303 (j := (1 : Int32)) hin1303 rfl (Sto.ofV Ar1303 q1303 O1291 (Ins.self u1301_3)) (g := (mkF m 331 #[iv p1, iv p2, iv p3, iv p4, iv 1, iv i0, iv i1, iv i2, rv b1272, rv b1274, iv ca0, iv ca1, iv ca2, iv cb0, iv cb1, iv cb2, iv q0, iv q1, iv q2, iv la0, iv la1, iv la2, iv lb0, iv lb1, iv lb2, .unset, .unset, .unset, .unset, .unset, .unset, .unset, .unset] [.ref b1301, .int 1, .ref b1291, .ref b1291])) rfl rfl (hb hby at_331)
     have V1303 := Arv.set Ar1303 q1303 Sz1303 Nz1303 Hs1303 Gs1303 rfl W1303 1 rfl (Nat.le_of_ble_eq_true rfl)
     have VV1303 : Arv Z h1303 b1291 k1291 (.object "java/lang/String") (3 : Int32) [(.ref b1292), (.ref b1301), .null] .null := V1303
     have cc1304 := (cc1295.wr W1294).keep K1301
     have ne1305 : b1301 ≠ b1291 := (Ne.symm (Nat.ne_of_lt (Nat.lt_of_lt_of_le (cc1295.wr W1294).lt u1301_0)))
     have ne1306 : bb1301 ≠ b1291 := (own_tyne u1301_6 cc1302 (by decide))
     have KK1303 := KK1301.wr W1303 (Or.inr (Nat.le_trans KK1281.1 (Nat.le_of_eq g1291.symm)))
     have ZN1303 := Nat.le_trans ZN1301 (Keep.of_wr W1303).1
     have HK1303 : T1301.heap.size ≤ h1303.size := Nat.le_trans (Nat.le_refl _) (Keep.of_wr W1303).1
     have NN1303 := Fr.snoc X1303 N1301 G_b1291
     have OL1303 := OL1301.wr W1303 G_b1291
     have ch1303 := ch1301.trans (CHr.wr W1303 (Safe.exa hZ.alike cc1304 (by decide) (by decide)) ch1301.1)
     refine go st1303 ?_
     show Go _ p e below s _ _ _ (T1303.setTop (mkF m 332 #[iv p1, iv p2, iv p3, iv p4, iv 1, iv i0, iv i1, iv i2, rv b1272, rv b1274, iv ca0, iv ca1, iv ca2, iv cb0, iv cb1, iv cb2, iv q0, iv q1, iv q2, iv la0, iv la1, iv la2, iv lb0, iv lb1, iv lb2, .unset, .unset, .unset, .unset, .unset, .unset, .unset, .unset] [.ref b1291]))
     refine c_dup X1303 hx hby at_332 rfl <| c_iconst X1303 hx hby 2 at_333 rfl <| c_iload X1303 hx hby at_334 rfl <| c_iload X1303 hx hby at_336 rfl <| c_callSH X1303 hx hby hZ hown hml (gw hw 29 rfl) (gw hw 30 rfl) (gw hw 31 rfl) (gw hw 32 rfl) e1303 (own_EW hw) ch1303 hS1301 HK1303 (rmMK hw la2 ca2 w0 h1303 n0 ZN1303 P1 OL1303 hw0 hla2 hca2) pd_22 rfl at_338 [.int 2, .ref b1291, .ref b1291] rfl 3 (by decide) rfl rfl fun o1307 T1307 L1307 X1307 hS1307 hZ hown hR1307 ch1307 hQ1307 => ?_
     obtain ⟨b1307, bb1307, kb1307, rfl, N1307q, u1307_0, u1307_1, K1307, u1307_3, u1307_4, u1307_5, u1307_6⟩ := hQ1307
     have N1307 := Fr.app NN1303 N1307q
     have G_b1307 := Nat.le_trans ZN1303 u1307_0
     have KK1307 := KK1303.trans K1307 all0
     have ZN1307 := Nat.le_trans ZN1303 K1307.1
     have OL1307 := OL1303.keep K1307 all0
     refine c_sh 341 [.ref b1307, .int 2, .ref b1291, .ref b1291] rfl rfl ?_
     have cc1308 := VV1303.keep K1307 nin0
     obtain ⟨cl1309, Ar1309, q1309, Sz1309, Nz1309, Hs1309, Gs1309⟩ := id cc1308
     have hin1309 : ¬ ((2 : Int32) < 0 ∨ cl1309.slots.size ≤ ((2 : Int32)).toNatClampNeg) := inb_of Sz1309 ⟨by decide, by decide⟩
     obtain ⟨T1309, h1309, X1309, e1309, W1309, st1309⟩ := stR X1307 hx hZ rfl Ar1309 (j := (2 : Int32)) hin1309 rfl (Sto.ofV Ar1309 q1309 O1291 (Ins.self u1307_3)) (g := (mkF m 341 #[iv p1, iv p2, iv p3, iv p4, iv 1, iv i0, iv i1, iv i2, rv b1272, rv b1274, iv ca0, iv ca1, iv ca2, iv cb0, iv cb1, iv cb2, iv q0, iv q1, iv q2, iv la0, iv la1, iv la2, iv lb0, iv lb1, iv lb2, .unset, .unset, .unset, .unset, .unset, .unset, .unset, .unset] [.ref b1307, .int 2, .ref b1291, .ref b1291])) rfl rfl (hb hby at_341)
     have V1309 := Arv.set Ar1309 q1309 Sz1309 Nz1309 Hs1309 Gs1309 rfl W1309 2 rfl (Nat.le_of_ble_eq_true rfl)
     have VV1309 : Arv Z h1309 b1291 k1291 (.object "java/lang/String") (3 : Int32) [(.ref b1292), (.ref b1301), (.ref b1307)] .null := V1309
     have cc1310 := (cc1304.wr W1303).keep K1307
     have ne1311 : b1307 ≠ b1291 := (Ne.symm (Nat.ne_of_lt (Nat.lt_of_lt_of_le (cc1304.wr W1303).lt u1307_0)))
     have ne1312 : bb1307 ≠ b1291 := (own_tyne u1307_6 cc1308 (by decide))
     have KK1309 := KK1307.wr W1309 (Or.inr (Nat.le_trans KK1281.1 (Nat.le_of_eq g1291.symm)))
     have ZN1309 := Nat.le_trans ZN1307 (Keep.of_wr W1309).1
     have HK1309 : T1307.heap.size ≤ h1309.size := Nat.le_trans (Nat.le_refl _) (Keep.of_wr W1309).1
     have NN1309 := Fr.snoc X1309 N1307 G_b1291
     have OL1309 := OL1307.wr W1309 G_b1291
     have ch1309 := ch1307.trans (CHr.wr W1309 (Safe.exa hZ.alike cc1310 (by decide) (by decide)) ch1307.1)
     refine go st1309 ?_
     show Go _ p e below s _ _ _ (T1309.setTop (mkF m 342 #[iv p1, iv p2, iv p3, iv p4, iv 1, iv i0, iv i1, iv i2, rv b1272, rv b1274, iv ca0, iv ca1, iv ca2, iv cb0, iv cb1, iv cb2, iv q0, iv q1, iv q2, iv la0, iv la1, iv la2, iv lb0, iv lb1, iv lb2, .unset, .unset, .unset, .unset, .unset, .unset, .unset, .unset] [.ref b1291]))
     refine c_astore X1309 hx hby _ at_342 rfl rfl <| c_iconst X1309 hx hby 3 at_344 rfl <| c_shL #[iv p1, iv p2, iv p3, iv p4, iv 1, iv i0, iv i1, iv i2, rv b1272, rv b1274, iv ca0, iv ca1, iv ca2, iv cb0, iv cb1, iv cb2, iv q0, iv q1, iv q2, iv la0, iv la1, iv la2, iv lb0, iv lb1, iv lb2, rv b1291, .unset, .unset, .unset, .unset, .unset, .unset, .unset] rfl ?_
     obtain ⟨T1313, h1313, k1313, X1313, e1313, E1313, A1313, AE1313, O1313, st1313⟩ := newRE X1309 hx hZ hown (gw hw 27 rfl) (gw hw 28 rfl) e1309 (g := (mkF m 345 #[iv p1, iv p2, iv p3, iv p4, iv 1, iv i0, iv i1, iv i2, rv b1272, rv b1274, iv ca0, iv ca1, iv ca2, iv cb0, iv cb1, iv cb2, iv q0, iv q1, iv q2, iv la0, iv la1, iv la2, iv lb0, iv lb1, iv lb2, rv b1291, .unset, .unset, .unset, .unset, .unset, .unset, .unset] [.int 3])) rfl (hb hby at_345) rfl (by decide) (cap := 3) (by decide) (by decide) (by decide) (by decide) (ad := "[Ljava/lang/String;") (by first | rfl | decide)
     obtain ⟨b1313, g1313⟩ : ∃ z, z = h1309.size := ⟨_, rfl⟩
     rw [← g1313] at A1313 AE1313 st1313
     have G_b1313 := Nat.le_trans ZN1309 (Nat.le_of_eq g1313.symm)
     have KK1313 := KK1309.ext E1313
     have ZN1313 := Nat.le_trans ZN1309 E1313.1
     have HK1313 := Nat.le_trans HK1309 E1313.1
     have OL1313 := OL1309.ext E1313
     have ch1313 := ch1309.trans (CHr.ext E1313 ch1309.1)
     have V1313 : Arv Z h1313 b1313 k1313 (.object "java/lang/String") (3 : Int32) [.null, .null, .null] .null := (Arv.new A1313 (by decide)).pad (pad_rep [] .null 3)
     refine go st1313 ?_
     show Go _ p e below s _ _ _ (T1313.setTop (mkF m 348 #[iv p1, iv p2, iv p3, iv p4, iv 1, iv i0, iv i1, iv i2, rv b1272, rv b1274, iv ca0, iv ca1, iv ca2, iv cb0, iv cb1, iv cb2, iv q0, iv q1, iv q2, iv la0, iv la1, iv la2, iv lb0, iv lb1, iv lb2, rv b1291, .unset, .unset, .unset, .unset, .unset, .unset, .unset] [.ref b1313]))
     refine c_dup X1313 hx hby at_348 rfl <| c_iconst X1313 hx hby 0 at_349 rfl ?_
     have JO0_1314 : ∀ (o0 : Addr) (ov0 : Addr) (ok0 : ClassId) (lo0 : Int32) (co0 : Int32) (T1315 : State) (locs1315 : List Loc) (_ : Stand p l e room_1 (s.setVm T1315.vm) m #[.int p1, .int p2, .int p3, .int p4] below meth c T1315 locs1315 31 76) (_ : s.Since T1315.vm T1315.heap.size) (_ : Z.Warmed39 T1315.vm) (_ : T1315.vm.findClass "com/example/raccordo/raccordo/flow/XmlElementSameAttributesPinLaw" = some m.cls) (_ : Fr n0 locs1315) (_ : Keep h0 T1315.heap []) (_ : n0 ≤ T1315.heap.size) (_ : Old Z n0 T1315.heap) (_ : CHr Z own_EL s.vm h0 T1315.vm T1315.heap) (_ : Exa Z T1315.heap b1272 "[I") (_ : Arv Z T1315.heap b1272 k1272 .int (1 : Int32) [(.int i0)] (.int (0 : Int32))) (_ : Exa Z T1315.heap b1274 "java/util/ArrayList") (_ : eS Z T1315.heap t1280) (_ : Fld Z T1315.heap b1274 "java/util/ArrayList" "size" "I" (.int (1 : Int32))) (_ : Fld Z T1315.heap b1274 "java/util/ArrayList" "elementData" "[Ljava/lang/Object;" (.ref b1281)) (_ : Exa Z T1315.heap b1281 "[Ljava/lang/Object;") (_ : Arv Z T1315.heap b1281 k1281 (.object "java/lang/Object") (10 : Int32) [(.ref t1280), .null, .null, .null, .null, .null, .null, .null, .null, .null] .null) (_ : Exa Z T1315.heap b1291 "[Ljava/lang/String;") (_ : Arv Z T1315.heap b1291 k1291 (.object "java/lang/String") (3 : Int32) [(.ref b1292), (.ref b1301), (.ref b1307)] .null) (_ : eS Z T1315.heap b1292) (_ : fC Z T1315.heap b1292) (_ : fV Z T1315.heap b1292 bb1292) (_ : Arv Z T1315.heap bb1292 kb1292 .byte la0 (own_vs la0 ca0) (.int (0 : Int32))) (_ : eS Z T1315.heap b1301) (_ : fC Z T1315.heap b1301) (_ : fV Z T1315.heap b1301 bb1301) (_ : Arv Z T1315.heap bb1301 kb1301 .byte la1 (own_vs la1 ca1) (.int (0 : Int32))) (_ : eS Z T1315.heap b1307) (_ : fC Z T1315.heap b1307) (_ : fV Z T1315.heap b1307 bb1307) (_ : Arv Z T1315.heap bb1307 kb1307 .byte la2 (own_vs la2 ca2) (.int (0 : Int32))) (_ : Exa Z T1315.heap b1313 "[Ljava/lang/String;") (_ : Arv Z T1315.heap b1313 k1313 (.object "java/lang/String") (3 : Int32) [.null, .null, .null] .null) (_ : eS Z T1315.heap o0) (_ : fC Z T1315.heap o0) (_ : fV Z T1315.heap o0 ov0) (_ : Arv Z T1315.heap ov0 ok0 .byte lo0 (own_vs lo0 co0) (.int (0 : Int32))) (_ : h1313.size ≤ o0), (own_o q0 la0 ca0 lb0 cb0 lo0 co0) → (lo0 = 0 ∨ lo0 = 1) → (own_ch co0) → Go (own_EndH Z) p e below s room_1.cells room_1.slots (Q0 Z p1 p2 p3 p4 w0 d0 kd el em mr h0 n0) (T1315.setTop (mkF m 372 #[iv p1, iv p2, iv p3, iv p4, iv 1, iv i0, iv i1, iv i2, rv b1272, rv b1274, iv ca0, iv ca1, iv ca2, iv cb0, iv cb1, iv cb2, iv q0, iv q1, iv q2, iv la0, iv la1, iv la2, iv lb0, iv lb1, iv lb2, rv b1291, .unset, .unset, .unset, .unset, .unset, .unset, .unset] [.ref o0, .int 0, .ref b1313, .ref b1313])) := by
      intro o0 ov0 ok0 lo0 co0 T1315 locs1315 X1315 hS1315 hZ hown NF1315 KK1315 ZN1315 OL1315 ch1315 ff1315_0 ff1315_1 ff1315_2 ff1315_3 ff1315_4 ff1315_5 ff1315_6 ff1315_7 ff1315_8 ff1315_9 ff1315_10 ff1315_11 ff1315_12 ff1315_13 ff1315_14 ff1315_15 ff1315_16 ff1315_17 ff1315_18 ff1315_19 ff1315_20 ff1315_21 ff1315_22 ff1315_23 ff1315_24 ff1315_25 ff1315_26 ff1315_27 fz1315_0 ho0 hlo0 hco0
      have G_o0 := Nat.le_trans ZN1313 fz1315_0
      obtain ⟨cl1316, Ar1316, q1316, Sz1316, Nz1316, Hs1316, Gs1316⟩ := id ff1315_23
      have hin1316 : ¬ ((0 : Int32) < 0 ∨ cl1316.slots.size ≤ ((0 : Int32)).toNatClampNeg) := inb_of Sz1316 ⟨by decide, by decide⟩
      obtain ⟨T1316, h1316, X1316, e1316, W1316, st1316⟩ := stR X1315 hx hZ rfl Ar1316 (j := (0 : Int32)) hin1316 rfl (Sto.ofV Ar1316 q1316 O1313 (Ins.self ff1315_24)) (g := (mkF m 372 #[iv p1, iv p2, iv p3, iv p4, iv 1, iv i0, iv i1, iv i2, rv b1272, rv b1274, iv ca0, iv ca1, iv ca2, iv cb0, iv cb1, iv cb2, iv q0, iv q1, iv q2, iv la0, iv la1, iv la2, iv lb0, iv lb1, iv lb2, rv b1291, .unset, .unset, .unset, .unset, .unset, .unset, .unset] [.ref o0, .int 0, .ref b1313, .ref b1313])) rfl rfl (hb hby at_372)
      have V1316 := Arv.set Ar1316 q1316 Sz1316 Nz1316 Hs1316 Gs1316 rfl W1316 0 rfl (Nat.le_of_ble_eq_true rfl)
      have VV1316 : Arv Z h1316 b1313 k1313 (.object "java/lang/String") (3 : Int32) [(.ref o0), .null, .null] .null := V1316
      have ne1317 : b1272 ≠ b1313 := (Nat.ne_of_lt (Nat.lt_of_lt_of_le ((((((((((((AE1272.wr W1273).ext E1274).keep K1275).ext E1280).keep K1281).ext E1291).keep K1292).wr W1294).keep K1301).wr W1303).keep K1307).wr W1309).lt (Nat.le_of_eq g1313.symm)))
      have ne1318 : b1274 ≠ b1313 := (Nat.ne_of_lt (Nat.lt_of_lt_of_le ((((((((cc1282.keep K1281).ext E1291).keep K1292).wr W1294).keep K1301).wr W1303).keep K1307).wr W1309).lt (Nat.le_of_eq g1313.symm)))
      have ne1319 : b1281 ≠ b1313 := (Nat.ne_of_lt (Nat.lt_of_lt_of_le (((((((u1281_6.ext E1291).keep K1292).wr W1294).keep K1301).wr W1303).keep K1307).wr W1309).lt (Nat.le_of_eq g1313.symm)))
      have ne1320 : b1291 ≠ b1313 := (Nat.ne_of_lt (Nat.lt_of_lt_of_le (cc1310.wr W1309).lt (Nat.le_of_eq g1313.symm)))
      have ne1321 : b1292 ≠ b1313 := (Nat.ne_of_lt (Nat.lt_of_lt_of_le (((((u1292_3.wr W1294).keep K1301).wr W1303).keep K1307).wr W1309).lt (Nat.le_of_eq g1313.symm)))
      have ne1322 : bb1292 ≠ b1313 := (Nat.ne_of_lt (Nat.lt_of_lt_of_le (((((u1292_6.other W1294 ne1300).keep K1301 nin0).other W1303 ne1300).keep K1307 nin0).other W1309 ne1300).lt (Nat.le_of_eq g1313.symm)))
      have ne1323 : b1301 ≠ b1313 := (Nat.ne_of_lt (Nat.lt_of_lt_of_le (((u1301_3.wr W1303).keep K1307).wr W1309).lt (Nat.le_of_eq g1313.symm)))
      have ne1324 : bb1301 ≠ b1313 := (Nat.ne_of_lt (Nat.lt_of_lt_of_le (((u1301_6.other W1303 ne1306).keep K1307 nin0).other W1309 ne1306).lt (Nat.le_of_eq g1313.symm)))
      have ne1325 : b1307 ≠ b1313 := (Nat.ne_of_lt (Nat.lt_of_lt_of_le (u1307_3.wr W1309).lt (Nat.le_of_eq g1313.symm)))
      have ne1326 : bb1307 ≠ b1313 := (Nat.ne_of_lt (Nat.lt_of_lt_of_le (u1307_6.other W1309 ne1312).lt (Nat.le_of_eq g1313.symm)))
      have ne1327 : o0 ≠ b1313 := (Ne.symm (Nat.ne_of_lt (Nat.lt_of_lt_of_le AE1313.lt fz1315_0)))
      have ne1328 : ov0 ≠ b1313 := (own_tyne ff1315_27 ff1315_23 (by decide))
      have KK1316 := KK1315.wr W1316 (Or.inr (Nat.le_trans KK1309.1 (Nat.le_of_eq g1313.symm)))
      have ZN1316 := Nat.le_trans ZN1315 (Keep.of_wr W1316).1
      have HK1316 : T1315.heap.size ≤ h1316.size := Nat.le_trans (Nat.le_refl _) (Keep.of_wr W1316).1
      have NN1316 := Fr.snoc X1316 NF1315 G_b1313
      have OL1316 := OL1315.wr W1316 G_b1313
      have ch1316 := ch1315.trans (CHr.wr W1316 (Safe.exa hZ.alike ff1315_22 (by decide) (by decide)) ch1315.1)
      refine go st1316 ?_
      show Go _ p e below s _ _ _ (T1316.setTop (mkF m 373 #[iv p1, iv p2, iv p3, iv p4, iv 1, iv i0, iv i1, iv i2, rv b1272, rv b1274, iv ca0, iv ca1, iv ca2, iv cb0, iv cb1, iv cb2, iv q0, iv q1, iv q2, iv la0, iv la1, iv la2, iv lb0, iv lb1, iv lb2, rv b1291, .unset, .unset, .unset, .unset, .unset, .unset, .unset] [.ref b1313]))
      refine c_dup X1316 hx hby at_373 rfl <| c_iconst X1316 hx hby 1 at_374 rfl ?_
      have JO1_1329 : ∀ (o1 : Addr) (ov1 : Addr) (ok1 : ClassId) (lo1 : Int32) (co1 : Int32) (T1330 : State) (locs1330 : List Loc) (_ : Stand p l e room_1 (s.setVm T1330.vm) m #[.int p1, .int p2, .int p3, .int p4] below meth c T1330 locs1330 37 88) (_ : s.Since T1330.vm T1330.heap.size) (_ : Z.Warmed39 T1330.vm) (_ : T1330.vm.findClass "com/example/raccordo/raccordo/flow/XmlElementSameAttributesPinLaw" = some m.cls) (_ : Fr n0 locs1330) (_ : Keep h0 T1330.heap []) (_ : n0 ≤ T1330.heap.size) (_ : Old Z n0 T1330.heap) (_ : CHr Z own_EL s.vm h0 T1330.vm T1330.heap) (_ : Exa Z T1330.heap b1272 "[I") (_ : Arv Z T1330.heap b1272 k1272 .int (1 : Int32) [(.int i0)] (.int (0 : Int32))) (_ : Exa Z T1330.heap b1274 "java/util/ArrayList") (_ : eS Z T1330.heap t1280) (_ : Fld Z T1330.heap b1274 "java/util/ArrayList" "size" "I" (.int (1 : Int32))) (_ : Fld Z T1330.heap b1274 "java/util/ArrayList" "elementData" "[Ljava/lang/Object;" (.ref b1281)) (_ : Exa Z T1330.heap b1281 "[Ljava/lang/Object;") (_ : Arv Z T1330.heap b1281 k1281 (.object "java/lang/Object") (10 : Int32) [(.ref t1280), .null, .null, .null, .null, .null, .null, .null, .null, .null] .null) (_ : Exa Z T1330.heap b1291 "[Ljava/lang/String;") (_ : Arv Z T1330.heap b1291 k1291 (.object "java/lang/String") (3 : Int32) [(.ref b1292), (.ref b1301), (.ref b1307)] .null) (_ : eS Z T1330.heap b1292) (_ : fC Z T1330.heap b1292) (_ : fV Z T1330.heap b1292 bb1292) (_ : Arv Z T1330.heap bb1292 kb1292 .byte la0 (own_vs la0 ca0) (.int (0 : Int32))) (_ : eS Z T1330.heap b1301) (_ : fC Z T1330.heap b1301) (_ : fV Z T1330.heap b1301 bb1301) (_ : Arv Z T1330.heap bb1301 kb1301 .byte la1 (own_vs la1 ca1) (.int (0 : Int32))) (_ : eS Z T1330.heap b1307) (_ : fC Z T1330.heap b1307) (_ : fV Z T1330.heap b1307 bb1307) (_ : Arv Z T1330.heap bb1307 kb1307 .byte la2 (own_vs la2 ca2) (.int (0 : Int32))) (_ : Exa Z T1330.heap b1313 "[Ljava/lang/String;") (_ : Arv Z T1330.heap b1313 k1313 (.object "java/lang/String") (3 : Int32) [(.ref o0), .null, .null] .null) (_ : eS Z T1330.heap o0) (_ : fC Z T1330.heap o0) (_ : fV Z T1330.heap o0 ov0) (_ : Arv Z T1330.heap ov0 ok0 .byte lo0 (own_vs lo0 co0) (.int (0 : Int32))) (_ : eS Z T1330.heap o1) (_ : fC Z T1330.heap o1) (_ : fV Z T1330.heap o1 ov1) (_ : Arv Z T1330.heap ov1 ok1 .byte lo1 (own_vs lo1 co1) (.int (0 : Int32))) (_ : h1316.size ≤ o1), (own_o q1 la1 ca1 lb1 cb1 lo1 co1) → (lo1 = 0 ∨ lo1 = 1) → (own_ch co1) → Go (own_EndH Z) p e below s room_1.cells room_1.slots (Q0 Z p1 p2 p3 p4 w0 d0 kd el em mr h0 n0) (T1330.setTop (mkF m 397 #[iv p1, iv p2, iv p3, iv p4, iv 1, iv i0, iv i1, iv i2, rv b1272, rv b1274, iv ca0, iv ca1, iv ca2, iv cb0, iv cb1, iv cb2, iv q0, iv q1, iv q2, iv la0, iv la1, iv la2, iv lb0, iv lb1, iv lb2, rv b1291, .unset, .unset, .unset, .unset, .unset, .unset, .unset] [.ref o1, .int 1, .ref b1313, .ref b1313])) := by
       intro o1 ov1 ok1 lo1 co1 T1330 locs1330 X1330 hS1330 hZ hown NF1330 KK1330 ZN1330 OL1330 ch1330 ff1330_0 ff1330_1 ff1330_2 ff1330_3 ff1330_4 ff1330_5 ff1330_6 ff1330_7 ff1330_8 ff1330_9 ff1330_10 ff1330_11 ff1330_12 ff1330_13 ff1330_14 ff1330_15 ff1330_16 ff1330_17 ff1330_18 ff1330_19 ff1330_20 ff1330_21 ff1330_22 ff1330_23 ff1330_24 ff1330_25 ff1330_26 ff1330_27 ff1330_28 ff1330_29 ff1330_30 ff1330_31 fz1330_0 ho1 hlo1 hco1
       have G_o1 := Nat.le_trans ZN1316 fz1330_0
       obtain ⟨cl1331, Ar1331, q1331, Sz1331, Nz1331, Hs1331, Gs1331⟩ := id ff1330_23
       have hin1331 : ¬ ((1 : Int32) < 0 ∨ cl1331.slots.size ≤ ((1 : Int32)).toNatClampNeg) := inb_of Sz1331 ⟨by decide, by decide⟩
       obtain ⟨T1331, h1331, X1331, e1331, W1331, st1331⟩ := stR X1330 hx hZ rfl Ar1331 (j := (1 : Int32)) hin1331 rfl (Sto.ofV Ar1331 q1331 O1313 (Ins.self ff1330_28)) (g := (mkF m 397 #[iv p1, iv p2, iv p3, iv p4, iv 1, iv i0, iv i1, iv i2, rv b1272, rv b1274, iv ca0, iv ca1, iv ca2, iv cb0, iv cb1, iv cb2, iv q0, iv q1, iv q2, iv la0, iv la1, iv la2, iv lb0, iv lb1, iv lb2, rv b1291, .unset, .unset, .unset, .unset, .unset, .unset, .unset] [.ref o1, .int 1, .ref b1313, .ref b1313])) rfl rfl (hb hby at_397)
       have V1331 := Arv.set Ar1331 q1331 Sz1331 Nz1331 Hs1331 Gs1331 rfl W1331 1 rfl (Nat.le_of_ble_eq_true rfl)
       have VV1331 : Arv Z h1331 b1313 k1313 (.object "java/lang/String") (3 : Int32) [(.ref o0), (.ref o1), .null] .null := V1331
       have ne1332 : o1 ≠ b1313 := (Ne.symm (Nat.ne_of_lt (Nat.lt_of_lt_of_le (ff1315_22.wr W1316).lt fz1330_0)))
       have ne1333 : ov1 ≠ b1313 := (own_tyne ff1330_31 ff1330_23 (by decide))
       have KK1331 := KK1330.wr W1331 (Or.inr (Nat.le_trans KK1309.1 (Nat.le_of_eq g1313.symm)))
       have ZN1331 := Nat.le_trans ZN1330 (Keep.of_wr W1331).1
       have HK1331 : T1330.heap.size ≤ h1331.size := Nat.le_trans (Nat.le_refl _) (Keep.of_wr W1331).1
       have NN1331 := Fr.snoc X1331 NF1330 G_b1313
       have OL1331 := OL1330.wr W1331 G_b1313
       have ch1331 := ch1330.trans (CHr.wr W1331 (Safe.exa hZ.alike ff1330_22 (by decide) (by decide)) ch1330.1)
       refine go st1331 ?_
       show Go _ p e below s _ _ _ (T1331.setTop (mkF m 398 #[iv p1, iv p2, iv p3, iv p4, iv 1, iv i0, iv i1, iv i2, rv b1272, rv b1274, iv ca0, iv ca1, iv ca2, iv cb0, iv cb1, iv cb2, iv q0, iv q1, iv q2, iv la0, iv la1, iv la2, iv lb0, iv lb1, iv lb2, rv b1291, .unset, .unset, .unset, .unset, .unset, .unset, .unset] [.ref b1313]))
       refine c_dup X1331 hx hby at_398 rfl <| c_iconst X1331 hx hby 2 at_399 rfl ?_
       have JO2_1334 : ∀ (o2 : Addr) (ov2 : Addr) (ok2 : ClassId) (lo2 : Int32) (co2 : Int32) (T1335 : State) (locs1335 : List Loc) (_ : Stand p l e room_1 (s.setVm T1335.vm) m #[.int p1, .int p2, .int p3, .int p4] below meth c T1335 locs1335 43 100) (_ : s.Since T1335.vm T1335.heap.size) (_ : Z.Warmed39 T1335.vm) (_ : T1335.vm.findClass "com/example/raccordo/raccordo/flow/XmlElementSameAttributesPinLaw" = some m.cls) (_ : Fr n0 locs1335) (_ : Keep h0 T1335.heap []) (_ : n0 ≤ T1335.heap.size) (_ : Old Z n0 T1335.heap) (_ : CHr Z own_EL s.vm h0 T1335.vm T1335.heap) (_ : Exa Z T1335.heap b1272 "[I") (_ : Arv Z T1335.heap b1272 k1272 .int (1 : Int32) [(.int i0)] (.int (0 : Int32))) (_ : Exa Z T1335.heap b1274 "java/util/ArrayList") (_ : eS Z T1335.heap t1280) (_ : Fld Z T1335.heap b1274 "java/util/ArrayList" "size" "I" (.int (1 : Int32))) (_ : Fld Z T1335.heap b1274 "java/util/ArrayList" "elementData" "[Ljava/lang/Object;" (.ref b1281)) (_ : Exa Z T1335.heap b1281 "[Ljava/lang/Object;") (_ : Arv Z T1335.heap b1281 k1281 (.object "java/lang/Object") (10 : Int32) [(.ref t1280), .null, .null, .null, .null, .null, .null, .null, .null, .null] .null) (_ : Exa Z T1335.heap b1291 "[Ljava/lang/String;") (_ : Arv Z T1335.heap b1291 k1291 (.object "java/lang/String") (3 : Int32) [(.ref b1292), (.ref b1301), (.ref b1307)] .null) (_ : eS Z T1335.heap b1292) (_ : fC Z T1335.heap b1292) (_ : fV Z T1335.heap b1292 bb1292) (_ : Arv Z T1335.heap bb1292 kb1292 .byte la0 (own_vs la0 ca0) (.int (0 : Int32))) (_ : eS Z T1335.heap b1301) (_ : fC Z T1335.heap b1301) (_ : fV Z T1335.heap b1301 bb1301) (_ : Arv Z T1335.heap bb1301 kb1301 .byte la1 (own_vs la1 ca1) (.int (0 : Int32))) (_ : eS Z T1335.heap b1307) (_ : fC Z T1335.heap b1307) (_ : fV Z T1335.heap b1307 bb1307) (_ : Arv Z T1335.heap bb1307 kb1307 .byte la2 (own_vs la2 ca2) (.int (0 : Int32))) (_ : Exa Z T1335.heap b1313 "[Ljava/lang/String;") (_ : Arv Z T1335.heap b1313 k1313 (.object "java/lang/String") (3 : Int32) [(.ref o0), (.ref o1), .null] .null) (_ : eS Z T1335.heap o0) (_ : fC Z T1335.heap o0) (_ : fV Z T1335.heap o0 ov0) (_ : Arv Z T1335.heap ov0 ok0 .byte lo0 (own_vs lo0 co0) (.int (0 : Int32))) (_ : eS Z T1335.heap o1) (_ : fC Z T1335.heap o1) (_ : fV Z T1335.heap o1 ov1) (_ : Arv Z T1335.heap ov1 ok1 .byte lo1 (own_vs lo1 co1) (.int (0 : Int32))) (_ : eS Z T1335.heap o2) (_ : fC Z T1335.heap o2) (_ : fV Z T1335.heap o2 ov2) (_ : Arv Z T1335.heap ov2 ok2 .byte lo2 (own_vs lo2 co2) (.int (0 : Int32))) (_ : h1331.size ≤ o2), (own_o q2 la2 ca2 lb2 cb2 lo2 co2) → (lo2 = 0 ∨ lo2 = 1) → (own_ch co2) → Go (own_EndH Z) p e below s room_1.cells room_1.slots (Q0 Z p1 p2 p3 p4 w0 d0 kd el em mr h0 n0) (T1335.setTop (mkF m 422 #[iv p1, iv p2, iv p3, iv p4, iv 1, iv i0, iv i1, iv i2, rv b1272, rv b1274, iv ca0, iv ca1, iv ca2, iv cb0, iv cb1, iv cb2, iv q0, iv q1, iv q2, iv la0, iv la1, iv la2, iv lb0, iv lb1, iv lb2, rv b1291, .unset, .unset, .unset, .unset, .unset, .unset, .unset] [.ref o2, .int 2, .ref b1313, .ref b1313])) := by
        intro o2 ov2 ok2 lo2 co2 T1335 locs1335 X1335 hS1335 hZ hown NF1335 KK1335 ZN1335 OL1335 ch1335 ff1335_0 ff1335_1 ff1335_2 ff1335_3 ff1335_4 ff1335_5 ff1335_6 ff1335_7 ff1335_8 ff1335_9 ff1335_10 ff1335_11 ff1335_12 ff1335_13 ff1335_14 ff1335_15 ff1335_16 ff1335_17 ff1335_18 ff1335_19 ff1335_20 ff1335_21 ff1335_22 ff1335_23 ff1335_24 ff1335_25 ff1335_26 ff1335_27 ff1335_28 ff1335_29 ff1335_30 ff1335_31 ff1335_32 ff1335_33 ff1335_34 ff1335_35 fz1335_0 ho2 hlo2 hco2
        have G_o2 := Nat.le_trans ZN1331 fz1335_0
        obtain ⟨cl1336, Ar1336, q1336, Sz1336, Nz1336, Hs1336, Gs1336⟩ := id ff1335_23
        have hin1336 : ¬ ((2 : Int32) < 0 ∨ cl1336.slots.size ≤ ((2 : Int32)).toNatClampNeg) := inb_of Sz1336 ⟨by decide, by decide⟩
        obtain ⟨T1336, h1336, X1336, e1336, W1336, st1336⟩ := stR X1335 hx hZ rfl Ar1336 (j := (2 : Int32)) hin1336 rfl (Sto.ofV Ar1336 q1336 O1313 (Ins.self ff1335_32)) (g := (mkF m 422 #[iv p1, iv p2, iv p3, iv p4, iv 1, iv i0, iv i1, iv i2, rv b1272, rv b1274, iv ca0, iv ca1, iv ca2, iv cb0, iv cb1, iv cb2, iv q0, iv q1, iv q2, iv la0, iv la1, iv la2, iv lb0, iv lb1, iv lb2, rv b1291, .unset, .unset, .unset, .unset, .unset, .unset, .unset] [.ref o2, .int 2, .ref b1313, .ref b1313])) rfl rfl (hb hby at_422)
        have V1336 := Arv.set Ar1336 q1336 Sz1336 Nz1336 Hs1336 Gs1336 rfl W1336 2 rfl (Nat.le_of_ble_eq_true rfl)
        have VV1336 : Arv Z h1336 b1313 k1313 (.object "java/lang/String") (3 : Int32) [(.ref o0), (.ref o1), (.ref o2)] .null := V1336
        have ne1337 : o2 ≠ b1313 := (Ne.symm (Nat.ne_of_lt (Nat.lt_of_lt_of_le (ff1330_22.wr W1331).lt fz1335_0)))
        have ne1338 : ov2 ≠ b1313 := (own_tyne ff1335_35 ff1335_23 (by decide))
        have KK1336 := KK1335.wr W1336 (Or.inr (Nat.le_trans KK1309.1 (Nat.le_of_eq g1313.symm)))
        have ZN1336 := Nat.le_trans ZN1335 (Keep.of_wr W1336).1
        have HK1336 : T1335.heap.size ≤ h1336.size := Nat.le_trans (Nat.le_refl _) (Keep.of_wr W1336).1
        have NN1336 := Fr.snoc X1336 NF1335 G_b1313
        have OL1336 := OL1335.wr W1336 G_b1313
        have ch1336 := ch1335.trans (CHr.wr W1336 (Safe.exa hZ.alike ff1335_22 (by decide) (by decide)) ch1335.1)
        refine go st1336 ?_
        show Go _ p e below s _ _ _ (T1336.setTop (mkF m 423 #[iv p1, iv p2, iv p3, iv p4, iv 1, iv i0, iv i1, iv i2, rv b1272, rv b1274, iv ca0, iv ca1, iv ca2, iv cb0, iv cb1, iv cb2, iv q0, iv q1, iv q2, iv la0, iv la1, iv la2, iv lb0, iv lb1, iv lb2, rv b1291, .unset, .unset, .unset, .unset, .unset, .unset, .unset] [.ref b1313]))
        refine c_astore X1336 hx hby _ at_423 rfl rfl <| c_shL #[iv p1, iv p2, iv p3, iv p4, iv 1, iv i0, iv i1, iv i2, rv b1272, rv b1274, iv ca0, iv ca1, iv ca2, iv cb0, iv cb1, iv cb2, iv q0, iv q1, iv q2, iv la0, iv la1, iv la2, iv lb0, iv lb1, iv lb2, rv b1291, rv b1313, .unset, .unset, .unset, .unset, .unset, .unset] rfl ?_
        have JE0_1339 : ∀ (ze1340 : Int32), (ze1340 = (own_eq la0 ca0 lo0 co0)) → Go (own_EndH Z) p e below s room_1.cells room_1.slots (Q0 Z p1 p2 p3 p4 w0 d0 kd el em mr h0 n0) (T1336.setTop (mkF m 454 #[iv p1, iv p2, iv p3, iv p4, iv 1, iv i0, iv i1, iv i2, rv b1272, rv b1274, iv ca0, iv ca1, iv ca2, iv cb0, iv cb1, iv cb2, iv q0, iv q1, iv q2, iv la0, iv la1, iv la2, iv lb0, iv lb1, iv lb2, rv b1291, rv b1313, .unset, .unset, .unset, .unset, .unset, .unset] [.int ze1340])) := by
         intro ze1340 hz_
         subst hz_
         refine c_istore X1336 hx hby _ at_454 rfl <| c_shL #[iv p1, iv p2, iv p3, iv p4, iv 1, iv i0, iv i1, iv i2, rv b1272, rv b1274, iv ca0, iv ca1, iv ca2, iv cb0, iv cb1, iv cb2, iv q0, iv q1, iv q2, iv la0, iv la1, iv la2, iv lb0, iv lb1, iv lb2, rv b1291, rv b1313, iv (own_eq la0 ca0 lo0 co0), .unset, .unset, .unset, .unset, .unset] rfl ?_
         have JE1_1341 : ∀ (ze1342 : Int32), (ze1342 = (own_eq la1 ca1 lo1 co1)) → Go (own_EndH Z) p e below s room_1.cells room_1.slots (Q0 Z p1 p2 p3 p4 w0 d0 kd el em mr h0 n0) (T1336.setTop (mkF m 485 #[iv p1, iv p2, iv p3, iv p4, iv 1, iv i0, iv i1, iv i2, rv b1272, rv b1274, iv ca0, iv ca1, iv ca2, iv cb0, iv cb1, iv cb2, iv q0, iv q1, iv q2, iv la0, iv la1, iv la2, iv lb0, iv lb1, iv lb2, rv b1291, rv b1313, iv (own_eq la0 ca0 lo0 co0), .unset, .unset, .unset, .unset, .unset] [.int ze1342])) := by
          intro ze1342 hz_
          subst hz_
          refine c_istore X1336 hx hby _ at_485 rfl <| c_shL #[iv p1, iv p2, iv p3, iv p4, iv 1, iv i0, iv i1, iv i2, rv b1272, rv b1274, iv ca0, iv ca1, iv ca2, iv cb0, iv cb1, iv cb2, iv q0, iv q1, iv q2, iv la0, iv la1, iv la2, iv lb0, iv lb1, iv lb2, rv b1291, rv b1313, iv (own_eq la0 ca0 lo0 co0), iv (own_eq la1 ca1 lo1 co1), .unset, .unset, .unset, .unset] rfl ?_
          have JE2_1343 : ∀ (ze1344 : Int32), (ze1344 = (own_eq la2 ca2 lo2 co2)) → Go (own_EndH Z) p e below s room_1.cells room_1.slots (Q0 Z p1 p2 p3 p4 w0 d0 kd el em mr h0 n0) (T1336.setTop (mkF m 516 #[iv p1, iv p2, iv p3, iv p4, iv 1, iv i0, iv i1, iv i2, rv b1272, rv b1274, iv ca0, iv ca1, iv ca2, iv cb0, iv cb1, iv cb2, iv q0, iv q1, iv q2, iv la0, iv la1, iv la2, iv lb0, iv lb1, iv lb2, rv b1291, rv b1313, iv (own_eq la0 ca0 lo0 co0), iv (own_eq la1 ca1 lo1 co1), .unset, .unset, .unset, .unset] [.int ze1344])) := by
           intro ze1344 hz_
           subst hz_
           refine c_istore X1336 hx hby _ at_516 rfl <| c_shL #[iv p1, iv p2, iv p3, iv p4, iv 1, iv i0, iv i1, iv i2, rv b1272, rv b1274, iv ca0, iv ca1, iv ca2, iv cb0, iv cb1, iv cb2, iv q0, iv q1, iv q2, iv la0, iv la1, iv la2, iv lb0, iv lb1, iv lb2, rv b1291, rv b1313, iv (own_eq la0 ca0 lo0 co0), iv (own_eq la1 ca1 lo1 co1), iv (own_eq la2 ca2 lo2 co2), .unset, .unset, .unset] rfl <| c_new X1336 hx hby hZ hown (gw hw 52 rfl) (gw hw 53 rfl) (gw hw 54 rfl) e1336 at_518 (by decide) fun T1345 h1345 b1345 g1345 X1345 e1345 E1345 A1345 D1345 => ?_
           have G_b1345 := Nat.le_trans ZN1336 (Nat.le_of_eq g1345.symm)
           have KK1345 := KK1336.ext E1345
           have ZN1345 := Nat.le_trans ZN1336 E1345.1
           have HK1345 := Nat.le_trans HK1336 E1345.1
           have OL1345 := OL1336.ext E1345
           have ch1345 := ch1336.trans (CHr.ext E1345 ch1336.1)
           refine c_sh 521 [.ref b1345] rfl rfl <| c_dup X1345 hx hby at_521 rfl ?_
           obtain ⟨t1346, T1346, h1346, k1346, bs1346, ks1346, X1346, e1346, E1346, hS1346, hk1346, hZ, hown, LE1346, LC1346, LV1346, LA1346, -, -, cr1346, -, sn1346, st1346⟩ := ldcCH X1345 hx hZ hown (gw hw 55 rfl) (own_wS hw) e1345 hS1335 HK1345 (own_EW hw) (List.mem_of_getElem? (i := 3) rfl) ch1345.1 (vs := [(.int (120 : Int32))]) (z := (1 : Int32)) ⟨by decide, by decide⟩ (by decide) (by decide) (g := (mkF m 522 #[iv p1, iv p2, iv p3, iv p4, iv 1, iv i0, iv i1, iv i2, rv b1272, rv b1274, iv ca0, iv ca1, iv ca2, iv cb0, iv cb1, iv cb2, iv q0, iv q1, iv q2, iv la0, iv la1, iv la2, iv lb0, iv lb1, iv lb2, rv b1291, rv b1313, iv (own_eq la0 ca0 lo0 co0), iv (own_eq la1 ca1 lo1 co1), iv (own_eq la2 ca2 lo2 co2), .unset, .unset, .unset] [.ref b1345, .ref b1345])) rfl (hb hby at_522) (n := 4) (by decide) (by decide) (by decide) (by decide)
           have ch1346 := ch1345.trans cr1346
           have KK1346 := KK1345.ext E1346
           have ZN1346 := Nat.le_trans ZN1345 E1346.1
           have OL1346 := OL1345.ext E1346
           refine go st1346 ?_
           show Go _ p e below s _ _ _ (T1346.setTop (mkF m 524 #[iv p1, iv p2, iv p3, iv p4, iv 1, iv i0, iv i1, iv i2, rv b1272, rv b1274, iv ca0, iv ca1, iv ca2, iv cb0, iv cb1, iv cb2, iv q0, iv q1, iv q2, iv la0, iv la1, iv la2, iv lb0, iv lb1, iv lb2, rv b1291, rv b1313, iv (own_eq la0 ca0 lo0 co0), iv (own_eq la1 ca1 lo1 co1), iv (own_eq la2 ca2 lo2 co2), .unset, .unset, .unset] [.ref t1346, .ref b1345, .ref b1345]))
           refine c_aload X1346 hx hby at_524 rfl rfl <| c_aload X1346 hx hby at_526 rfl rfl <| c_iconst X1346 hx hby (-1) at_528 rfl <| c_new X1346 hx hby hZ hown (gw hw 1 rfl) (gw hw 2 rfl) (gw hw 3 rfl) e1346 at_529 (by decide) fun T1347 h1347 b1347 g1347 X1347 e1347 E1347 A1347 D1347 => ?_
           have G_b1347 := Nat.le_trans ZN1346 (Nat.le_of_eq g1347.symm)
           have KK1347 := KK1346.ext E1347
           have ZN1347 := Nat.le_trans ZN1346 E1347.1
           have HK1347 := Nat.le_trans hk1346 E1347.1
           have OL1347 := OL1346.ext E1347
           have ch1347 := ch1346.trans (CHr.ext E1347 ch1346.1)
           refine c_sh 532 [.ref b1347, .int (-1), .ref b1272, .ref b1274, .ref t1346, .ref b1345, .ref b1345] rfl rfl <| c_dup X1347 hx hby at_532 rfl ?_
           have cc1349 := show Fld Z h1347 b1347 "java/util/AbstractList" "modCount" "I" (.int (0 : Int32)) from D1347 (Or.inl (gw hw 23 rfl)) (ty := .int) (by decide)
           have cc1350 := show Fld Z h1347 b1347 "java/util/ArrayList" "size" "I" (.int (0 : Int32)) from D1347 (Or.inl (gw hw 86 rfl)) (ty := .int) (by decide)
           have cc1351 := show Fld Z h1347 b1347 "java/util/ArrayList" "elementData" "[Ljava/lang/Object;" .null from D1347 (Or.inl (gw hw 26 rfl)) (ty := (.array (.object "java/lang/Object"))) (by decide)
           refine c_init X1347 hx hby hZ hown hml (gw hw 4 rfl) (gw hw 5 rfl) (gw hw 6 rfl) (gw hw 3 rfl) rfl e1347 (rm1 hw b1347 (.int (0 : Int32)) (.int (0 : Int32)) .null d0 h1347 n0 ZN1347 P2 OL1347 A1347 G_b1347 cc1349 cc1350 cc1351) pd_4 rfl at_533 [.ref b1347, .int (-1), .ref b1272, .ref b1274, .ref t1346, .ref b1345, .ref b1345] rfl 7 (by decide) rfl rfl fun o1348 T1348 L1348 X1348 hQ1348 => ?_
           obtain ⟨rfl, N1348q, K1348, u1348_1, u1348_2, u1348_3⟩ := hQ1348
           have N1348 := Fr.app NN1336 N1348q
           have ne1352 : b1272 ≠ b1347 := (Nat.ne_of_lt (Nat.lt_of_lt_of_le (((ff1335_0.wr W1336).ext E1345).ext E1346).lt (Nat.le_of_eq g1347.symm)))
           have ne1353 : b1274 ≠ b1347 := (Nat.ne_of_lt (Nat.lt_of_lt_of_le (((ff1335_2.wr W1336).ext E1345).ext E1346).lt (Nat.le_of_eq g1347.symm)))
           have ne1354 : b1281 ≠ b1347 := (Nat.ne_of_lt (Nat.lt_of_lt_of_le (((ff1335_6.wr W1336).ext E1345).ext E1346).lt (Nat.le_of_eq g1347.symm)))
           have ne1355 : b1291 ≠ b1347 := (Nat.ne_of_lt (Nat.lt_of_lt_of_le (((ff1335_8.wr W1336).ext E1345).ext E1346).lt (Nat.le_of_eq g1347.symm)))
           have ne1356 : b1292 ≠ b1347 := (Nat.ne_of_lt (Nat.lt_of_lt_of_le (((ff1335_10.wr W1336).ext E1345).ext E1346).lt (Nat.le_of_eq g1347.symm)))
           have ne1357 : bb1292 ≠ b1347 := (Nat.ne_of_lt (Nat.lt_of_lt_of_le (((ff1335_13.other W1336 ne1322).ext E1345).ext E1346).lt (Nat.le_of_eq g1347.symm)))
           have ne1358 : b1301 ≠ b1347 := (Nat.ne_of_lt (Nat.lt_of_lt_of_le (((ff1335_14.wr W1336).ext E1345).ext E1346).lt (Nat.le_of_eq g1347.symm)))
           have ne1359 : bb1301 ≠ b1347 := (Nat.ne_of_lt (Nat.lt_of_lt_of_le (((ff1335_17.other W1336 ne1324).ext E1345).ext E1346).lt (Nat.le_of_eq g1347.symm)))
           have ne1360 : b1307 ≠ b1347 := (Nat.ne_of_lt (Nat.lt_of_lt_of_le (((ff1335_18.wr W1336).ext E1345).ext E1346).lt (Nat.le_of_eq g1347.symm)))
           have ne1361 : bb1307 ≠ b1347 := (Nat.ne_of_lt (Nat.lt_of_lt_of_le (((ff1335_21.other W1336 ne1326).ext E1345).ext E1346).lt (Nat.le_of_eq g1347.symm)))
           have ne1362 : b1313 ≠ b1347 := (Nat.ne_of_lt (Nat.lt_of_lt_of_le (((ff1335_22.wr W1336).ext E1345).ext E1346).lt (Nat.le_of_eq g1347.symm)))
           have ne1363 : o0 ≠ b1347 := (Nat.ne_of_lt (Nat.lt_of_lt_of_le (((ff1335_24.wr W1336).ext E1345).ext E1346).lt (Nat.le_of_eq g1347.symm)))
           have ne1364 : ov0 ≠ b1347 := (Nat.ne_of_lt (Nat.lt_of_lt_of_le (((ff1335_27.other W1336 ne1328).ext E1345).ext E1346).lt (Nat.le_of_eq g1347.symm)))
           have ne1365 : o1 ≠ b1347 := (Nat.ne_of_lt (Nat.lt_of_lt_of_le (((ff1335_28.wr W1336).ext E1345).ext E1346).lt (Nat.le_of_eq g1347.symm)))
           have ne1366 : ov1 ≠ b1347 := (Nat.ne_of_lt (Nat.lt_of_lt_of_le (((ff1335_31.other W1336 ne1333).ext E1345).ext E1346).lt (Nat.le_of_eq g1347.symm)))
           have ne1367 : o2 ≠ b1347 := (Nat.ne_of_lt (Nat.lt_of_lt_of_le (((ff1335_32.wr W1336).ext E1345).ext E1346).lt (Nat.le_of_eq g1347.symm)))
           have ne1368 : ov2 ≠ b1347 := (Nat.ne_of_lt (Nat.lt_of_lt_of_le (((ff1335_35.other W1336 ne1338).ext E1345).ext E1346).lt (Nat.le_of_eq g1347.symm)))
           have ne1369 : b1345 ≠ b1347 := (Nat.ne_of_lt (Nat.lt_of_lt_of_le (A1345.ext E1346).lt (Nat.le_of_eq g1347.symm)))
           have ne1370 : t1346 ≠ b1347 := (Nat.ne_of_lt (Nat.lt_of_lt_of_le LE1346.lt (Nat.le_of_eq g1347.symm)))
           have ne1371 : bs1346 ≠ b1347 := (Nat.ne_of_lt (Nat.lt_of_lt_of_le LA1346.lt (Nat.le_of_eq g1347.symm)))
           have KK1348 := KK1347.trans K1348 (allS (P := fun x => x ∈ [] ∨ h0.size ≤ x) (Or.inr (Nat.le_trans KK1346.1 (Nat.le_of_eq g1347.symm))) all0)
           have ZN1348 := Nat.le_trans ZN1347 K1348.1
           have HK1348 : k1346 ≤ T1348.heap.size := Nat.le_trans HK1347 K1348.1
           have ch1348 := ch1347.trans (CHr.keep K1348 (allS (Safe.exa hZ.alike A1347 (by decide) (by decide)) all0) ch1347.1)
           have OL1348 := OL1347.keep K1348 (allS G_b1347 all0)
           refine c_sh 536 [.ref b1347, .int (-1), .ref b1272, .ref b1274, .ref t1346, .ref b1345, .ref b1345] rfl rfl ?_
           have cc1373 := ((A1345.ext E1346).ext E1347).keep K1348
           have cc1374 := (((show Fld Z h1345 b1345 "com/example/raccordo/raccordo/flow/XmlElement" "name" "Ljava/lang/String;" .null from D1345 (Or.inr (gw hw 61 rfl)) (ty := (.object "java/lang/String")) (by decide)).ext E1346).ext E1347).keep K1348 (ninS ne1369 nin0)
           have cc1375 := (((show Fld Z h1345 b1345 "com/example/raccordo/raccordo/flow/XmlElement" "attributes" "Ljava/util/List;" .null from D1345 (Or.inr (gw hw 92 rfl)) (ty := (.object "java/util/List")) (by decide)).ext E1346).ext E1347).keep K1348 (ninS ne1369 nin0)
           have cc1376 := (((show Fld Z h1345 b1345 "com/example/raccordo/raccordo/flow/XmlElement" "attributeIndexes" "[I" .null from D1345 (Or.inr (gw hw 103 rfl)) (ty := (.array .int)) (by decide)).ext E1346).ext E1347).keep K1348 (ninS ne1369 nin0)
           have cc1377 := (((show Fld Z h1345 b1345 "com/example/raccordo/raccordo/flow/XmlElement" "textIndex" "I" (.int (0 : Int32)) from D1345 (Or.inr (gw hw 105 rfl)) (ty := .int) (by decide)).ext E1346).ext E1347).keep K1348 (ninS ne1369 nin0)
           have cc1378 := (((show Fld Z h1345 b1345 "com/example/raccordo/raccordo/flow/XmlElement" "children" "Ljava/util/List;" .null from D1345 (Or.inr (gw hw 107 rfl)) (ty := (.object "java/util/List")) (by decide)).ext E1346).ext E1347).keep K1348 (ninS ne1369 nin0)
           have cc1379 := ((((ff1335_2.wr W1336).ext E1345).ext E1346).ext E1347).keep K1348
           have cc1380 := ((((ff1335_4.other W1336 (Or.inl ne1318)).ext E1345).ext E1346).ext E1347).keep K1348 (ninS ne1353 nin0)
           have cc1381 := ((((ff1335_5.other W1336 (Or.inl ne1318)).ext E1345).ext E1346).ext E1347).keep K1348 (ninS ne1353 nin0)
           have cc1382 := ((((ff1335_6.wr W1336).ext E1345).ext E1346).ext E1347).keep K1348
           have cc1383 := ((((ff1335_7.other W1336 ne1319).ext E1345).ext E1346).ext E1347).keep K1348 (ninS ne1354 nin0)
           have cc1384 := ((((ff1335_3.wr W1336).ext E1345).ext E1346).ext E1347).keep K1348
           have cc1385 := A1347.keep K1348
           have cc1386 := ((((ff1335_0.wr W1336).ext E1345).ext E1346).ext E1347).keep K1348
           have cc1387 := ((((ff1335_1.other W1336 ne1317).ext E1345).ext E1346).ext E1347).keep K1348 (ninS ne1352 nin0)
           have ne1388 : b1345 ≠ b1274 := (Ne.symm (Nat.ne_of_lt (Nat.lt_of_lt_of_le (ff1335_2.wr W1336).lt (Nat.le_of_eq g1345.symm))))
           have ne1389 : b1345 ≠ b1272 := (Ne.symm (Nat.ne_of_lt (Nat.lt_of_lt_of_le (ff1335_0.wr W1336).lt (Nat.le_of_eq g1345.symm))))
           have ne1390 : b1345 ≠ b1281 := (Ne.symm (Nat.ne_of_lt (Nat.lt_of_lt_of_le (ff1335_6.wr W1336).lt (Nat.le_of_eq g1345.symm))))
           refine c_init X1348 hx hby hZ hown hml (gw hw 56 rfl) (gw hw 57 rfl) (gw hw 58 rfl) (gw hw 54 rfl) rfl rfl (rmXI1 hw b1345 t1346 b1274 b1272 b1347 .null .null .null (.int (0 : Int32)) .null el k1272 i0 b1281 k1281 t1280 mr em (T1348.heap) n0 ZN1348 P4 OL1348 cc1373 G_b1345 cc1374 cc1375 cc1376 cc1377 cc1378 cc1379 cc1380 cc1381 cc1382 cc1383 cc1384 P5 cc1385 u1348_2 cc1386 cc1387 ne1388 ne1389 ne1369 ne1390 hm) pd_23 rfl at_536 [.ref b1345] rfl 1 (by decide) rfl rfl fun o1372 T1372 L1372 X1372 hQ1372 => ?_
           obtain ⟨b1372, rfl, N1372q, u1372_0, u1372_1, K1372, u1372_3, u1372_4⟩ := hQ1372
           have N1372 := Fr.app N1348 N1372q
           have G_b1372 := Nat.le_trans ZN1348 u1372_0
           have ne1391 : b1291 ≠ b1345 := (Nat.ne_of_lt (Nat.lt_of_lt_of_le (ff1335_8.wr W1336).lt (Nat.le_of_eq g1345.symm)))
           have ne1392 : b1292 ≠ b1345 := (Nat.ne_of_lt (Nat.lt_of_lt_of_le (ff1335_10.wr W1336).lt (Nat.le_of_eq g1345.symm)))
           have ne1393 : bb1292 ≠ b1345 := (Nat.ne_of_lt (Nat.lt_of_lt_of_le (ff1335_13.other W1336 ne1322).lt (Nat.le_of_eq g1345.symm)))
           have ne1394 : b1301 ≠ b1345 := (Nat.ne_of_lt (Nat.lt_of_lt_of_le (ff1335_14.wr W1336).lt (Nat.le_of_eq g1345.symm)))
           have ne1395 : bb1301 ≠ b1345 := (Nat.ne_of_lt (Nat.lt_of_lt_of_le (ff1335_17.other W1336 ne1324).lt (Nat.le_of_eq g1345.symm)))
           have ne1396 : b1307 ≠ b1345 := (Nat.ne_of_lt (Nat.lt_of_lt_of_le (ff1335_18.wr W1336).lt (Nat.le_of_eq g1345.symm)))
           have ne1397 : bb1307 ≠ b1345 := (Nat.ne_of_lt (Nat.lt_of_lt_of_le (ff1335_21.other W1336 ne1326).lt (Nat.le_of_eq g1345.symm)))
           have ne1398 : b1313 ≠ b1345 := (Nat.ne_of_lt (Nat.lt_of_lt_of_le (ff1335_22.wr W1336).lt (Nat.le_of_eq g1345.symm)))
           have ne1399 : o0 ≠ b1345 := (Nat.ne_of_lt (Nat.lt_of_lt_of_le (ff1335_24.wr W1336).lt (Nat.le_of_eq g1345.symm)))
           have ne1400 : ov0 ≠ b1345 := (Nat.ne_of_lt (Nat.lt_of_lt_of_le (ff1335_27.other W1336 ne1328).lt (Nat.le_of_eq g1345.symm)))
           have ne1401 : o1 ≠ b1345 := (Nat.ne_of_lt (Nat.lt_of_lt_of_le (ff1335_28.wr W1336).lt (Nat.le_of_eq g1345.symm)))
           have ne1402 : ov1 ≠ b1345 := (Nat.ne_of_lt (Nat.lt_of_lt_of_le (ff1335_31.other W1336 ne1333).lt (Nat.le_of_eq g1345.symm)))
           have ne1403 : o2 ≠ b1345 := (Nat.ne_of_lt (Nat.lt_of_lt_of_le (ff1335_32.wr W1336).lt (Nat.le_of_eq g1345.symm)))
           have ne1404 : ov2 ≠ b1345 := (Nat.ne_of_lt (Nat.lt_of_lt_of_le (ff1335_35.other W1336 ne1338).lt (Nat.le_of_eq g1345.symm)))
           have ne1405 : t1346 ≠ b1345 := (Exa.ne ((LE1346.ext E1347).keep K1348) cc1373 (by decide))
           have ne1406 : bs1346 ≠ b1345 := (Ne.symm (Exa.neArv cc1373 ((LA1346.ext E1347).keep K1348 (ninS ne1371 nin0)) (gw hw 53 rfl)))
           have KK1372 := KK1348.trans K1372 (allS (P := fun x => x ∈ [] ∨ h0.size ≤ x) (Or.inr (Nat.le_trans KK1336.1 (Nat.le_of_eq g1345.symm))) all0)
           have ZN1372 := Nat.le_trans ZN1348 K1372.1
           have HK1372 : k1346 ≤ T1372.heap.size := Nat.le_trans HK1348 K1372.1
           have ch1372 := ch1348.trans (CHr.keep K1372 (allS (Safe.exa hZ.alike cc1373 (by decide) (by decide)) all0) ch1348.1)
           have OL1372 := OL1348.keep K1372 (allS G_b1345 all0)
           refine c_sh 539 [.ref b1345] rfl rfl <| c_astore X1372 hx hby _ at_539 rfl rfl <| c_aload X1372 hx hby at_541 rfl rfl <| c_aload X1372 hx hby at_543 rfl rfl <| c_aload X1372 hx hby at_545 rfl rfl <| c_shL #[iv p1, iv p2, iv p3, iv p4, iv 1, iv i0, iv i1, iv i2, rv b1272, rv b1274, iv ca0, iv ca1, iv ca2, iv cb0, iv cb1, iv cb2, iv q0, iv q1, iv q2, iv la0, iv la1, iv la2, iv lb0, iv lb1, iv lb2, rv b1291, rv b1313, iv (own_eq la0 ca0 lo0 co0), iv (own_eq la1 ca1 lo1 co1), iv (own_eq la2 ca2 lo2 co2), rv b1345, .unset, .unset] rfl ?_
           have cc1408 := (((((ff1335_9.other W1336 ne1320).ext E1345).ext E1346).ext E1347).keep K1348 (ninS ne1355 nin0)).keep K1372 (ninS ne1391 nin0)
           have cc1409 := ((((VV1336.ext E1345).ext E1346).ext E1347).keep K1348 (ninS ne1362 nin0)).keep K1372 (ninS ne1398 nin0)
           have cc1410 := (((((ff1335_10.wr W1336).ext E1345).ext E1346).ext E1347).keep K1348).keep K1372
           have cc1411 := (((((ff1335_11.other W1336 (Or.inl ne1321)).ext E1345).ext E1346).ext E1347).keep K1348 (ninS ne1356 nin0)).keep K1372 (ninS ne1392 nin0)
           have cc1412 := (((((ff1335_12.other W1336 (Or.inl ne1321)).ext E1345).ext E1346).ext E1347).keep K1348 (ninS ne1356 nin0)).keep K1372 (ninS ne1392 nin0)
           have cc1413 := (((((ff1335_13.other W1336 ne1322).ext E1345).ext E1346).ext E1347).keep K1348 (ninS ne1357 nin0)).keep K1372 (ninS ne1393 nin0)
           have cc1414 := (((((ff1335_14.wr W1336).ext E1345).ext E1346).ext E1347).keep K1348).keep K1372
           have cc1415 := (((((ff1335_15.other W1336 (Or.inl ne1323)).ext E1345).ext E1346).ext E1347).keep K1348 (ninS ne1358 nin0)).keep K1372 (ninS ne1394 nin0)
           have cc1416 := (((((ff1335_16.other W1336 (Or.inl ne1323)).ext E1345).ext E1346).ext E1347).keep K1348 (ninS ne1358 nin0)).keep K1372 (ninS ne1394 nin0)
           have cc1417 := (((((ff1335_17.other W1336 ne1324).ext E1345).ext E1346).ext E1347).keep K1348 (ninS ne1359 nin0)).keep K1372 (ninS ne1395 nin0)
           have cc1418 := (((((ff1335_18.wr W1336).ext E1345).ext E1346).ext E1347).keep K1348).keep K1372
           have cc1419 := (((((ff1335_19.other W1336 (Or.inl ne1325)).ext E1345).ext E1346).ext E1347).keep K1348 (ninS ne1360 nin0)).keep K1372 (ninS ne1396 nin0)
           have cc1420 := (((((ff1335_20.other W1336 (Or.inl ne1325)).ext E1345).ext E1346).ext E1347).keep K1348 (ninS ne1360 nin0)).keep K1372 (ninS ne1396 nin0)
           have cc1421 := (((((ff1335_21.other W1336 ne1326).ext E1345).ext E1346).ext E1347).keep K1348 (ninS ne1361 nin0)).keep K1372 (ninS ne1397 nin0)
           have cc1422 := (((((ff1335_24.wr W1336).ext E1345).ext E1346).ext E1347).keep K1348).keep K1372
           have cc1423 := (((((ff1335_25.other W1336 (Or.inl ne1327)).ext E1345).ext E1346).ext E1347).keep K1348 (ninS ne1363 nin0)).keep K1372 (ninS ne1399 nin0)
           have cc1424 := (((((ff1335_26.other W1336 (Or.inl ne1327)).ext E1345).ext E1346).ext E1347).keep K1348 (ninS ne1363 nin0)).keep K1372 (ninS ne1399 nin0)
           have cc1425 := (((((ff1335_27.other W1336 ne1328).ext E1345).ext E1346).ext E1347).keep K1348 (ninS ne1364 nin0)).keep K1372 (ninS ne1400 nin0)
           have cc1426 := (((((ff1335_28.wr W1336).ext E1345).ext E1346).ext E1347).keep K1348).keep K1372
           have cc1427 := (((((ff1335_29.other W1336 (Or.inl ne1332)).ext E1345).ext E1346).ext E1347).keep K1348 (ninS ne1365 nin0)).keep K1372 (ninS ne1401 nin0)
           have cc1428 := (((((ff1335_30.other W1336 (Or.inl ne1332)).ext E1345).ext E1346).ext E1347).keep K1348 (ninS ne1365 nin0)).keep K1372 (ninS ne1401 nin0)
           have cc1429 := (((((ff1335_31.other W1336 ne1333).ext E1345).ext E1346).ext E1347).keep K1348 (ninS ne1366 nin0)).keep K1372 (ninS ne1402 nin0)
           have cc1430 := (((((ff1335_32.wr W1336).ext E1345).ext E1346).ext E1347).keep K1348).keep K1372
           have cc1431 := (((((ff1335_33.other W1336 (Or.inl ne1337)).ext E1345).ext E1346).ext E1347).keep K1348 (ninS ne1367 nin0)).keep K1372 (ninS ne1403 nin0)
           have cc1432 := (((((ff1335_34.other W1336 (Or.inl ne1337)).ext E1345).ext E1346).ext E1347).keep K1348 (ninS ne1367 nin0)).keep K1372 (ninS ne1403 nin0)
           have cc1433 := (((((ff1335_35.other W1336 ne1338).ext E1345).ext E1346).ext E1347).keep K1348 (ninS ne1368 nin0)).keep K1372 (ninS ne1404 nin0)
           have ne1434 : b1292 ≠ o0 := (Nat.ne_of_lt (Nat.lt_of_lt_of_le ((((((u1292_3.wr W1294).keep K1301).wr W1303).keep K1307).wr W1309).ext E1313).lt fz1315_0))
           have ne1435 : b1301 ≠ o1 := (Nat.ne_of_lt (Nat.lt_of_lt_of_le (ff1315_14.wr W1316).lt fz1330_0))
           have ne1436 : b1307 ≠ o2 := (Nat.ne_of_lt (Nat.lt_of_lt_of_le (ff1330_18.wr W1331).lt fz1335_0))
           have cc1437 := cc1373.keep K1372
           refine c_callV X1372 hx hby hZ hown hml (gw hw 108 rfl) (gw hw 109 rfl) (gw hw 111 rfl) (gw hw 110 rfl) (gw hw 112 rfl) (gw hw 54 rfl) cc1437 rfl (rmSM1 hw b1345 b1291 b1313 w0 b1372 k1272 i0 k1291 k1313 b1292 bb1292 kb1292 la0 ca0 b1301 bb1301 kb1301 la1 ca1 b1307 bb1307 kb1307 la2 ca2 o0 ov0 ok0 lo0 co0 o1 ov1 ok1 lo1 co1 o2 ov2 ok2 lo2 co2 (T1372.heap) n0 ZN1372 P1 OL1372 u1372_3 u1372_4 cc1408 cc1409 cc1410 cc1411 cc1412 cc1413 cc1414 cc1415 cc1416 cc1417 cc1418 cc1419 cc1420 cc1421 cc1422 cc1423 cc1424 cc1425 cc1426 cc1427 cc1428 cc1429 cc1430 cc1431 cc1432 cc1433 ne1434 ne1435 ne1436 hw0 hi0 hla0 hla1 hla2 hlo0 hlo1 hlo2 hca0 hca1 hca2 hco0 hco1 hco2) pd_24 rfl at_547 [] rfl 0 (by decide) rfl rfl fun o1407 T1407 L1407 X1407 hQ1407 => ?_
           obtain ⟨rfl, N1407q, e1407⟩ := hQ1407
           have N1407 := Fr.app N1372 N1407q
           refine c_sh 550 [.int (own_cj [own_pk i0 (own_eq la0 ca0 lo0 co0) (own_eq la1 ca1 lo1 co1) (own_eq la2 ca2 lo2 co2)])] rfl rfl <| c_istore X1407 hx hby _ at_550 rfl <| c_iload X1407 hx hby at_552 rfl <| c_iconst X1407 hx hby 1 at_554 rfl <| c_icmpNo X1407 hx hby at_555 (by decide) <| c_iload X1407 hx hby at_558 rfl <| c_iload X1407 hx hby at_560 rfl <| c_iload X1407 hx hby at_562 rfl <| c_iload X1407 hx hby at_564 rfl <| c_shL #[iv p1, iv p2, iv p3, iv p4, iv 1, iv i0, iv i1, iv i2, rv b1272, rv b1274, iv ca0, iv ca1, iv ca2, iv cb0, iv cb1, iv cb2, iv q0, iv q1, iv q2, iv la0, iv la1, iv la2, iv lb0, iv lb1, iv lb2, rv b1291, rv b1313, iv (own_eq la0 ca0 lo0 co0), iv (own_eq la1 ca1 lo1 co1), iv (own_eq la2 ca2 lo2 co2), rv b1345, iv (own_cj [own_pk i0 (own_eq la0 ca0 lo0 co0) (own_eq la1 ca1 lo1 co1) (own_eq la2 ca2 lo2 co2)]), .unset] rfl <| c_callS X1407 hx hby hZ hown hml (gw hw 231 rfl) (gw hw 232 rfl) (gw hw 31 rfl) (gw hw 233 rfl) e1407 (rm34 hw i0 (own_eq la0 ca0 lo0 co0) (own_eq la1 ca1 lo1 co1) (own_eq la2 ca2 lo2 co2) (T1372.heap) n0 ZN1372 (own_eqb _ _ _ _) (own_eqb _ _ _ _) (own_eqb _ _ _ _)) pd_25 rfl at_566 [] rfl 0 (by decide) rfl rfl fun o1438 T1438 L1438 X1438 hQ1438 => ?_
           obtain ⟨rfl, N1438q, e1438⟩ := hQ1438
           have N1438 := Fr.app N1407 N1438q
           refine c_sh 569 [.int (own_pk i0 (own_eq la0 ca0 lo0 co0) (own_eq la1 ca1 lo1 co1) (own_eq la2 ca2 lo2 co2))] rfl rfl ?_
           by_cases hc569_1439 : (own_pk i0 (own_eq la0 ca0 lo0 co0) (own_eq la1 ca1 lo1 co1) (own_eq la2 ca2 lo2 co2)) = (0 : Int32)
           ·refine c_ifYes X1438 hx hby 616 at_569 ((if0 _ _).trans (teq hc569_1439).1) (by decide) <| c_iconst X1438 hx hby 0 at_616 rfl <| c_istore X1438 hx hby _ at_617 rfl <| c_iload X1438 hx hby at_619 rfl <| c_iload X1438 hx hby at_621 rfl <| c_icmpNo X1438 hx hby at_623 (teq (by rw [own_cj_z hc569_1439])).2 <| c_iconst X1438 hx hby 1 at_626 rfl <| c_goto X1438 hx hby 631 at_627 (by decide) <| c_shL #[iv p1, iv p2, iv p3, iv p4, iv 1, iv i0, iv i1, iv i2, rv b1272, rv b1274, iv ca0, iv ca1, iv ca2, iv cb0, iv cb1, iv cb2, iv q0, iv q1, iv q2, iv la0, iv la1, iv la2, iv lb0, iv lb1, iv lb2, rv b1291, rv b1313, iv (own_eq la0 ca0 lo0 co0), iv (own_eq la1 ca1 lo1 co1), iv (own_eq la2 ca2 lo2 co2), rv b1345, iv (own_cj [own_pk i0 (own_eq la0 ca0 lo0 co0) (own_eq la1 ca1 lo1 co1) (own_eq la2 ca2 lo2 co2)]), iv 0] rfl ?_
            refine goRetH X1438 hZ (own_EW hw) ch1372 hh e1438 hS1346 HK1372 hx Bd.notSynchronized Bd.returns rfl (Or.inl ⟨rfl, Or.inr (Or.inl rfl), _, rfl⟩) (hb hby at_631) (by decide) (by decide) ⟨rfl, N1438⟩
           ·refine c_ifNo X1438 hx hby at_569 ((if0 _ _).trans (feq hc569_1439).1) <| c_iload X1438 hx hby at_572 rfl <| c_iconst X1438 hx hby 2 at_574 rfl <| c_icmpYes X1438 hx hby 592 at_575 (by decide) (by decide) <| c_iload X1438 hx hby at_592 rfl <| c_iconst X1438 hx hby 3 at_594 rfl <| c_icmpYes X1438 hx hby 612 at_595 (by decide) (by decide) <| c_iconst X1438 hx hby 1 at_612 rfl <| c_goto X1438 hx hby 617 at_613 (by decide) <| c_istore X1438 hx hby _ at_617 rfl <| c_iload X1438 hx hby at_619 rfl <| c_iload X1438 hx hby at_621 rfl <| c_icmpNo X1438 hx hby at_623 (teq (by rw [own_cj_n hc569_1439]; rfl)).2 <| c_iconst X1438 hx hby 1 at_626 rfl <| c_goto X1438 hx hby 631 at_627 (by decide) <| c_shL #[iv p1, iv p2, iv p3, iv p4, iv 1, iv i0, iv i1, iv i2, rv b1272, rv b1274, iv ca0, iv ca1, iv ca2, iv cb0, iv cb1, iv cb2, iv q0, iv q1, iv q2, iv la0, iv la1, iv la2, iv lb0, iv lb1, iv lb2, rv b1291, rv b1313, iv (own_eq la0 ca0 lo0 co0), iv (own_eq la1 ca1 lo1 co1), iv (own_eq la2 ca2 lo2 co2), rv b1345, iv (own_cj [own_pk i0 (own_eq la0 ca0 lo0 co0) (own_eq la1 ca1 lo1 co1) (own_eq la2 ca2 lo2 co2)]), iv 1] rfl ?_
            refine goRetH X1438 hZ (own_EW hw) ch1372 hh e1438 hS1346 HK1372 hx Bd.notSynchronized Bd.returns rfl (Or.inl ⟨rfl, Or.inr (Or.inl rfl), _, rfl⟩) (hb hby at_631) (by decide) (by decide) ⟨rfl, N1438⟩
          refine c_iload X1336 hx hby at_487 rfl ?_
          by_cases hc489_1440 : q2 = (0 : Int32)
          ·refine c_ifNo X1336 hx hby at_489 ((if0 _ _).trans (teq hc489_1440).2) <| c_iload X1336 hx hby at_492 rfl <| c_iload X1336 hx hby at_494 rfl ?_
           by_cases hc496_1441 : la2 = lb2
           ·refine c_icmpNo X1336 hx hby at_496 (teq hc496_1441).2 <| c_iload X1336 hx hby at_499 rfl ?_
            by_cases hc501_1442 : la2 = (0 : Int32)
            ·refine c_ifYes X1336 hx hby 511 at_501 ((if0 _ _).trans (teq hc501_1442).1) (by decide) <| c_iconst X1336 hx hby 1 at_511 rfl <| c_goto X1336 hx hby 516 at_512 (by decide) ?_
             exact JE2_1343 _ ((own_e ho2).trans ((if_neg (fun k => k hc489_1440)).trans (if_pos ⟨hc496_1441, Or.inl hc501_1442⟩))).symm
            ·refine c_ifNo X1336 hx hby at_501 ((if0 _ _).trans (feq hc501_1442).1) <| c_iload X1336 hx hby at_504 rfl <| c_iload X1336 hx hby at_506 rfl ?_
             by_cases hc508_1443 : ca2 = cb2
             ·refine c_icmpNo X1336 hx hby at_508 (teq hc508_1443).2 <| c_iconst X1336 hx hby 1 at_511 rfl <| c_goto X1336 hx hby 516 at_512 (by decide) ?_
              exact JE2_1343 _ ((own_e ho2).trans ((if_neg (fun k => k hc489_1440)).trans (if_pos ⟨hc496_1441, Or.inr hc508_1443⟩))).symm
             ·refine c_icmpYes X1336 hx hby 515 at_508 (feq hc508_1443).2 (by decide) <| c_iconst X1336 hx hby 0 at_515 rfl ?_
              exact JE2_1343 _ ((own_e ho2).trans ((if_neg (fun k => k hc489_1440)).trans (if_neg fun h => h.2.elim hc501_1442 hc508_1443))).symm
           ·refine c_icmpYes X1336 hx hby 515 at_496 (feq hc496_1441).2 (by decide) <| c_iconst X1336 hx hby 0 at_515 rfl ?_
            exact JE2_1343 _ ((own_e ho2).trans ((if_neg (fun k => k hc489_1440)).trans (if_neg fun h => hc496_1441 h.1))).symm
          ·refine c_ifYes X1336 hx hby 511 at_489 ((if0 _ _).trans (feq hc489_1440).2) (by decide) <| c_iconst X1336 hx hby 1 at_511 rfl <| c_goto X1336 hx hby 516 at_512 (by decide) ?_
           exact JE2_1343 _ ((own_e ho2).trans (if_pos hc489_1440)).symm
         refine c_iload X1336 hx hby at_456 rfl ?_
         by_cases hc458_1444 : q1 = (0 : Int32)
         ·refine c_ifNo X1336 hx hby at_458 ((if0 _ _).trans (teq hc458_1444).2) <| c_iload X1336 hx hby at_461 rfl <| c_iload X1336 hx hby at_463 rfl ?_
          by_cases hc465_1445 : la1 = lb1
          ·refine c_icmpNo X1336 hx hby at_465 (teq hc465_1445).2 <| c_iload X1336 hx hby at_468 rfl ?_
           by_cases hc470_1446 : la1 = (0 : Int32)
           ·refine c_ifYes X1336 hx hby 480 at_470 ((if0 _ _).trans (teq hc470_1446).1) (by decide) <| c_iconst X1336 hx hby 1 at_480 rfl <| c_goto X1336 hx hby 485 at_481 (by decide) ?_
            exact JE1_1341 _ ((own_e ho1).trans ((if_neg (fun k => k hc458_1444)).trans (if_pos ⟨hc465_1445, Or.inl hc470_1446⟩))).symm
           ·refine c_ifNo X1336 hx hby at_470 ((if0 _ _).trans (feq hc470_1446).1) <| c_iload X1336 hx hby at_473 rfl <| c_iload X1336 hx hby at_475 rfl ?_
            by_cases hc477_1447 : ca1 = cb1
            ·refine c_icmpNo X1336 hx hby at_477 (teq hc477_1447).2 <| c_iconst X1336 hx hby 1 at_480 rfl <| c_goto X1336 hx hby 485 at_481 (by decide) ?_
             exact JE1_1341 _ ((own_e ho1).trans ((if_neg (fun k => k hc458_1444)).trans (if_pos ⟨hc465_1445, Or.inr hc477_1447⟩))).symm
            ·refine c_icmpYes X1336 hx hby 484 at_477 (feq hc477_1447).2 (by decide) <| c_iconst X1336 hx hby 0 at_484 rfl ?_
             exact JE1_1341 _ ((own_e ho1).trans ((if_neg (fun k => k hc458_1444)).trans (if_neg fun h => h.2.elim hc470_1446 hc477_1447))).symm
          ·refine c_icmpYes X1336 hx hby 484 at_465 (feq hc465_1445).2 (by decide) <| c_iconst X1336 hx hby 0 at_484 rfl ?_
           exact JE1_1341 _ ((own_e ho1).trans ((if_neg (fun k => k hc458_1444)).trans (if_neg fun h => hc465_1445 h.1))).symm
         ·refine c_ifYes X1336 hx hby 480 at_458 ((if0 _ _).trans (feq hc458_1444).2) (by decide) <| c_iconst X1336 hx hby 1 at_480 rfl <| c_goto X1336 hx hby 485 at_481 (by decide) ?_
          exact JE1_1341 _ ((own_e ho1).trans (if_pos hc458_1444)).symm
        refine c_iload X1336 hx hby at_425 rfl ?_
        by_cases hc427_1448 : q0 = (0 : Int32)
        ·refine c_ifNo X1336 hx hby at_427 ((if0 _ _).trans (teq hc427_1448).2) <| c_iload X1336 hx hby at_430 rfl <| c_iload X1336 hx hby at_432 rfl ?_
         by_cases hc434_1449 : la0 = lb0
         ·refine c_icmpNo X1336 hx hby at_434 (teq hc434_1449).2 <| c_iload X1336 hx hby at_437 rfl ?_
          by_cases hc439_1450 : la0 = (0 : Int32)
          ·refine c_ifYes X1336 hx hby 449 at_439 ((if0 _ _).trans (teq hc439_1450).1) (by decide) <| c_iconst X1336 hx hby 1 at_449 rfl <| c_goto X1336 hx hby 454 at_450 (by decide) ?_
           exact JE0_1339 _ ((own_e ho0).trans ((if_neg (fun k => k hc427_1448)).trans (if_pos ⟨hc434_1449, Or.inl hc439_1450⟩))).symm
          ·refine c_ifNo X1336 hx hby at_439 ((if0 _ _).trans (feq hc439_1450).1) <| c_iload X1336 hx hby at_442 rfl <| c_iload X1336 hx hby at_444 rfl ?_
           by_cases hc446_1451 : ca0 = cb0
           ·refine c_icmpNo X1336 hx hby at_446 (teq hc446_1451).2 <| c_iconst X1336 hx hby 1 at_449 rfl <| c_goto X1336 hx hby 454 at_450 (by decide) ?_
            exact JE0_1339 _ ((own_e ho0).trans ((if_neg (fun k => k hc427_1448)).trans (if_pos ⟨hc434_1449, Or.inr hc446_1451⟩))).symm
           ·refine c_icmpYes X1336 hx hby 453 at_446 (feq hc446_1451).2 (by decide) <| c_iconst X1336 hx hby 0 at_453 rfl ?_
            exact JE0_1339 _ ((own_e ho0).trans ((if_neg (fun k => k hc427_1448)).trans (if_neg fun h => h.2.elim hc439_1450 hc446_1451))).symm
         ·refine c_icmpYes X1336 hx hby 453 at_434 (feq hc434_1449).2 (by decide) <| c_iconst X1336 hx hby 0 at_453 rfl ?_
          exact JE0_1339 _ ((own_e ho0).trans ((if_neg (fun k => k hc427_1448)).trans (if_neg fun h => hc434_1449 h.1))).symm
        ·refine c_ifYes X1336 hx hby 449 at_427 ((if0 _ _).trans (feq hc427_1448).2) (by decide) <| c_iconst X1336 hx hby 1 at_449 rfl <| c_goto X1336 hx hby 454 at_450 (by decide) ?_
         exact JE0_1339 _ ((own_e ho0).trans (if_pos hc427_1448)).symm
       refine c_iload X1331 hx hby at_400 rfl ?_
       by_cases hc402_1452 : q2 = (0 : Int32)
       ·refine c_ifYes X1331 hx hby 415 at_402 ((if0 _ _).trans (teq hc402_1452).1) (by decide) <| c_iload X1331 hx hby at_415 rfl <| c_iload X1331 hx hby at_417 rfl <| c_callSH X1331 hx hby hZ hown hml (gw hw 29 rfl) (gw hw 30 rfl) (gw hw 31 rfl) (gw hw 32 rfl) e1331 (own_EW hw) ch1331 hS1330 HK1331 (rmMK hw lb2 cb2 w0 h1331 n0 ZN1331 P1 OL1331 hw0 hlb2 hcb2) pd_22 rfl at_419 [.int 2, .ref b1313, .ref b1313] rfl 3 (by decide) rfl rfl fun o1453 T1453 L1453 X1453 hS1453 hZ hown hR1453 ch1453 hQ1453 => ?_
        obtain ⟨b1453, bb1453, kb1453, rfl, N1453q, u1453_0, u1453_1, K1453, u1453_3, u1453_4, u1453_5, u1453_6⟩ := hQ1453
        have N1453 := Fr.app NN1331 N1453q
        have G_b1453 := Nat.le_trans ZN1331 u1453_0
        have KK1453 := KK1331.trans K1453 all0
        have ZN1453 := Nat.le_trans ZN1331 K1453.1
        have OL1453 := OL1331.keep K1453 all0
        refine c_sh 422 [.ref b1453, .int 2, .ref b1313, .ref b1313] rfl rfl ?_
        have cc1454 := (ff1330_0.wr W1331).keep K1453
        have cc1455 := (ff1330_1.other W1331 ne1317).keep K1453 nin0
        have cc1456 := (ff1330_2.wr W1331).keep K1453
        have cc1457 := (ff1330_3.wr W1331).keep K1453
        have cc1458 := (ff1330_4.other W1331 (Or.inl ne1318)).keep K1453 nin0
        have cc1459 := (ff1330_5.other W1331 (Or.inl ne1318)).keep K1453 nin0
        have cc1460 := (ff1330_6.wr W1331).keep K1453
        have cc1461 := (ff1330_7.other W1331 ne1319).keep K1453 nin0
        have cc1462 := (ff1330_8.wr W1331).keep K1453
        have cc1463 := (ff1330_9.other W1331 ne1320).keep K1453 nin0
        have cc1464 := (ff1330_10.wr W1331).keep K1453
        have cc1465 := (ff1330_11.other W1331 (Or.inl ne1321)).keep K1453 nin0
        have cc1466 := (ff1330_12.other W1331 (Or.inl ne1321)).keep K1453 nin0
        have cc1467 := (ff1330_13.other W1331 ne1322).keep K1453 nin0
        have cc1468 := (ff1330_14.wr W1331).keep K1453
        have cc1469 := (ff1330_15.other W1331 (Or.inl ne1323)).keep K1453 nin0
        have cc1470 := (ff1330_16.other W1331 (Or.inl ne1323)).keep K1453 nin0
        have cc1471 := (ff1330_17.other W1331 ne1324).keep K1453 nin0
        have cc1472 := (ff1330_18.wr W1331).keep K1453
        have cc1473 := (ff1330_19.other W1331 (Or.inl ne1325)).keep K1453 nin0
        have cc1474 := (ff1330_20.other W1331 (Or.inl ne1325)).keep K1453 nin0
        have cc1475 := (ff1330_21.other W1331 ne1326).keep K1453 nin0
        have cc1476 := (ff1330_22.wr W1331).keep K1453
        have cc1477 := VV1331.keep K1453 nin0
        have cc1478 := (ff1330_24.wr W1331).keep K1453
        have cc1479 := (ff1330_25.other W1331 (Or.inl ne1327)).keep K1453 nin0
        have cc1480 := (ff1330_26.other W1331 (Or.inl ne1327)).keep K1453 nin0
        have cc1481 := (ff1330_27.other W1331 ne1328).keep K1453 nin0
        have cc1482 := (ff1330_28.wr W1331).keep K1453
        have cc1483 := (ff1330_29.other W1331 (Or.inl ne1332)).keep K1453 nin0
        have cc1484 := (ff1330_30.other W1331 (Or.inl ne1332)).keep K1453 nin0
        have cc1485 := (ff1330_31.other W1331 ne1333).keep K1453 nin0
        exact JO2_1334 b1453 bb1453 kb1453 lb2 cb2 T1453 _ X1453 hS1453 hZ hown N1453 KK1453 ZN1453 OL1453 ch1453 cc1454 cc1455 cc1456 cc1457 cc1458 cc1459 cc1460 cc1461 cc1462 cc1463 cc1464 cc1465 cc1466 cc1467 cc1468 cc1469 cc1470 cc1471 cc1472 cc1473 cc1474 cc1475 cc1476 cc1477 cc1478 cc1479 cc1480 cc1481 cc1482 cc1483 cc1484 cc1485 u1453_3 u1453_4 u1453_5 u1453_6 u1453_0 (Or.inr ⟨hc402_1452, rfl, rfl⟩) hlb2 hcb2
       ·refine c_ifNo X1331 hx hby at_402 ((if0 _ _).trans (feq hc402_1452).1) <| c_iload X1331 hx hby at_405 rfl <| c_iload X1331 hx hby at_407 rfl <| c_callSH X1331 hx hby hZ hown hml (gw hw 29 rfl) (gw hw 30 rfl) (gw hw 31 rfl) (gw hw 32 rfl) e1331 (own_EW hw) ch1331 hS1330 HK1331 (rmMK hw la2 ca2 w0 h1331 n0 ZN1331 P1 OL1331 hw0 hla2 hca2) pd_22 rfl at_409 [.int 2, .ref b1313, .ref b1313] rfl 3 (by decide) rfl rfl fun o1486 T1486 L1486 X1486 hS1486 hZ hown hR1486 ch1486 hQ1486 => ?_
        obtain ⟨b1486, bb1486, kb1486, rfl, N1486q, u1486_0, u1486_1, K1486, u1486_3, u1486_4, u1486_5, u1486_6⟩ := hQ1486
        have N1486 := Fr.app NN1331 N1486q
        have G_b1486 := Nat.le_trans ZN1331 u1486_0
        have KK1486 := KK1331.trans K1486 all0
        have ZN1486 := Nat.le_trans ZN1331 K1486.1
        have OL1486 := OL1331.keep K1486 all0
        refine c_sh 412 [.ref b1486, .int 2, .ref b1313, .ref b1313] rfl rfl <| c_goto X1486 hx hby 422 at_412 (by decide) ?_
        have cc1487 := (ff1330_0.wr W1331).keep K1486
        have cc1488 := (ff1330_1.other W1331 ne1317).keep K1486 nin0
        have cc1489 := (ff1330_2.wr W1331).keep K1486
        have cc1490 := (ff1330_3.wr W1331).keep K1486
        have cc1491 := (ff1330_4.other W1331 (Or.inl ne1318)).keep K1486 nin0
        have cc1492 := (ff1330_5.other W1331 (Or.inl ne1318)).keep K1486 nin0
        have cc1493 := (ff1330_6.wr W1331).keep K1486
        have cc1494 := (ff1330_7.other W1331 ne1319).keep K1486 nin0
        have cc1495 := (ff1330_8.wr W1331).keep K1486
        have cc1496 := (ff1330_9.other W1331 ne1320).keep K1486 nin0
        have cc1497 := (ff1330_10.wr W1331).keep K1486
        have cc1498 := (ff1330_11.other W1331 (Or.inl ne1321)).keep K1486 nin0
        have cc1499 := (ff1330_12.other W1331 (Or.inl ne1321)).keep K1486 nin0
        have cc1500 := (ff1330_13.other W1331 ne1322).keep K1486 nin0
        have cc1501 := (ff1330_14.wr W1331).keep K1486
        have cc1502 := (ff1330_15.other W1331 (Or.inl ne1323)).keep K1486 nin0
        have cc1503 := (ff1330_16.other W1331 (Or.inl ne1323)).keep K1486 nin0
        have cc1504 := (ff1330_17.other W1331 ne1324).keep K1486 nin0
        have cc1505 := (ff1330_18.wr W1331).keep K1486
        have cc1506 := (ff1330_19.other W1331 (Or.inl ne1325)).keep K1486 nin0
        have cc1507 := (ff1330_20.other W1331 (Or.inl ne1325)).keep K1486 nin0
        have cc1508 := (ff1330_21.other W1331 ne1326).keep K1486 nin0
        have cc1509 := (ff1330_22.wr W1331).keep K1486
        have cc1510 := VV1331.keep K1486 nin0
        have cc1511 := (ff1330_24.wr W1331).keep K1486
        have cc1512 := (ff1330_25.other W1331 (Or.inl ne1327)).keep K1486 nin0
        have cc1513 := (ff1330_26.other W1331 (Or.inl ne1327)).keep K1486 nin0
        have cc1514 := (ff1330_27.other W1331 ne1328).keep K1486 nin0
        have cc1515 := (ff1330_28.wr W1331).keep K1486
        have cc1516 := (ff1330_29.other W1331 (Or.inl ne1332)).keep K1486 nin0
        have cc1517 := (ff1330_30.other W1331 (Or.inl ne1332)).keep K1486 nin0
        have cc1518 := (ff1330_31.other W1331 ne1333).keep K1486 nin0
        exact JO2_1334 b1486 bb1486 kb1486 la2 ca2 T1486 _ X1486 hS1486 hZ hown N1486 KK1486 ZN1486 OL1486 ch1486 cc1487 cc1488 cc1489 cc1490 cc1491 cc1492 cc1493 cc1494 cc1495 cc1496 cc1497 cc1498 cc1499 cc1500 cc1501 cc1502 cc1503 cc1504 cc1505 cc1506 cc1507 cc1508 cc1509 cc1510 cc1511 cc1512 cc1513 cc1514 cc1515 cc1516 cc1517 cc1518 u1486_3 u1486_4 u1486_5 u1486_6 u1486_0 (Or.inl ⟨hc402_1452, rfl, rfl⟩) hla2 hca2
      refine c_iload X1316 hx hby at_375 rfl ?_
      by_cases hc377_1519 : q1 = (0 : Int32)
      ·refine c_ifYes X1316 hx hby 390 at_377 ((if0 _ _).trans (teq hc377_1519).1) (by decide) <| c_iload X1316 hx hby at_390 rfl <| c_iload X1316 hx hby at_392 rfl <| c_callSH X1316 hx hby hZ hown hml (gw hw 29 rfl) (gw hw 30 rfl) (gw hw 31 rfl) (gw hw 32 rfl) e1316 (own_EW hw) ch1316 hS1315 HK1316 (rmMK hw lb1 cb1 w0 h1316 n0 ZN1316 P1 OL1316 hw0 hlb1 hcb1) pd_22 rfl at_394 [.int 1, .ref b1313, .ref b1313] rfl 3 (by decide) rfl rfl fun o1520 T1520 L1520 X1520 hS1520 hZ hown hR1520 ch1520 hQ1520 => ?_
       obtain ⟨b1520, bb1520, kb1520, rfl, N1520q, u1520_0, u1520_1, K1520, u1520_3, u1520_4, u1520_5, u1520_6⟩ := hQ1520
       have N1520 := Fr.app NN1316 N1520q
       have G_b1520 := Nat.le_trans ZN1316 u1520_0
       have KK1520 := KK1316.trans K1520 all0
       have ZN1520 := Nat.le_trans ZN1316 K1520.1
       have OL1520 := OL1316.keep K1520 all0
       refine c_sh 397 [.ref b1520, .int 1, .ref b1313, .ref b1313] rfl rfl ?_
       have cc1521 := (ff1315_0.wr W1316).keep K1520
       have cc1522 := (ff1315_1.other W1316 ne1317).keep K1520 nin0
       have cc1523 := (ff1315_2.wr W1316).keep K1520
       have cc1524 := (ff1315_3.wr W1316).keep K1520
       have cc1525 := (ff1315_4.other W1316 (Or.inl ne1318)).keep K1520 nin0
       have cc1526 := (ff1315_5.other W1316 (Or.inl ne1318)).keep K1520 nin0
       have cc1527 := (ff1315_6.wr W1316).keep K1520
       have cc1528 := (ff1315_7.other W1316 ne1319).keep K1520 nin0
       have cc1529 := (ff1315_8.wr W1316).keep K1520
       have cc1530 := (ff1315_9.other W1316 ne1320).keep K1520 nin0
       have cc1531 := (ff1315_10.wr W1316).keep K1520
       have cc1532 := (ff1315_11.other W1316 (Or.inl ne1321)).keep K1520 nin0
       have cc1533 := (ff1315_12.other W1316 (Or.inl ne1321)).keep K1520 nin0
       have cc1534 := (ff1315_13.other W1316 ne1322).keep K1520 nin0
       have cc1535 := (ff1315_14.wr W1316).keep K1520
       have cc1536 := (ff1315_15.other W1316 (Or.inl ne1323)).keep K1520 nin0
       have cc1537 := (ff1315_16.other W1316 (Or.inl ne1323)).keep K1520 nin0
       have cc1538 := (ff1315_17.other W1316 ne1324).keep K1520 nin0
       have cc1539 := (ff1315_18.wr W1316).keep K1520
       have cc1540 := (ff1315_19.other W1316 (Or.inl ne1325)).keep K1520 nin0
       have cc1541 := (ff1315_20.other W1316 (Or.inl ne1325)).keep K1520 nin0
       have cc1542 := (ff1315_21.other W1316 ne1326).keep K1520 nin0
       have cc1543 := (ff1315_22.wr W1316).keep K1520
       have cc1544 := VV1316.keep K1520 nin0
       have cc1545 := (ff1315_24.wr W1316).keep K1520
       have cc1546 := (ff1315_25.other W1316 (Or.inl ne1327)).keep K1520 nin0
       have cc1547 := (ff1315_26.other W1316 (Or.inl ne1327)).keep K1520 nin0
       have cc1548 := (ff1315_27.other W1316 ne1328).keep K1520 nin0
       exact JO1_1329 b1520 bb1520 kb1520 lb1 cb1 T1520 _ X1520 hS1520 hZ hown N1520 KK1520 ZN1520 OL1520 ch1520 cc1521 cc1522 cc1523 cc1524 cc1525 cc1526 cc1527 cc1528 cc1529 cc1530 cc1531 cc1532 cc1533 cc1534 cc1535 cc1536 cc1537 cc1538 cc1539 cc1540 cc1541 cc1542 cc1543 cc1544 cc1545 cc1546 cc1547 cc1548 u1520_3 u1520_4 u1520_5 u1520_6 u1520_0 (Or.inr ⟨hc377_1519, rfl, rfl⟩) hlb1 hcb1
      ·refine c_ifNo X1316 hx hby at_377 ((if0 _ _).trans (feq hc377_1519).1) <| c_iload X1316 hx hby at_380 rfl <| c_iload X1316 hx hby at_382 rfl <| c_callSH X1316 hx hby hZ hown hml (gw hw 29 rfl) (gw hw 30 rfl) (gw hw 31 rfl) (gw hw 32 rfl) e1316 (own_EW hw) ch1316 hS1315 HK1316 (rmMK hw la1 ca1 w0 h1316 n0 ZN1316 P1 OL1316 hw0 hla1 hca1) pd_22 rfl at_384 [.int 1, .ref b1313, .ref b1313] rfl 3 (by decide) rfl rfl fun o1549 T1549 L1549 X1549 hS1549 hZ hown hR1549 ch1549 hQ1549 => ?_
       obtain ⟨b1549, bb1549, kb1549, rfl, N1549q, u1549_0, u1549_1, K1549, u1549_3, u1549_4, u1549_5, u1549_6⟩ := hQ1549
       have N1549 := Fr.app NN1316 N1549q
       have G_b1549 := Nat.le_trans ZN1316 u1549_0
       have KK1549 := KK1316.trans K1549 all0
       have ZN1549 := Nat.le_trans ZN1316 K1549.1
       have OL1549 := OL1316.keep K1549 all0
       refine c_sh 387 [.ref b1549, .int 1, .ref b1313, .ref b1313] rfl rfl <| c_goto X1549 hx hby 397 at_387 (by decide) ?_
       have cc1550 := (ff1315_0.wr W1316).keep K1549
       have cc1551 := (ff1315_1.other W1316 ne1317).keep K1549 nin0
       have cc1552 := (ff1315_2.wr W1316).keep K1549
       have cc1553 := (ff1315_3.wr W1316).keep K1549
       have cc1554 := (ff1315_4.other W1316 (Or.inl ne1318)).keep K1549 nin0
       have cc1555 := (ff1315_5.other W1316 (Or.inl ne1318)).keep K1549 nin0
       have cc1556 := (ff1315_6.wr W1316).keep K1549
       have cc1557 := (ff1315_7.other W1316 ne1319).keep K1549 nin0
       have cc1558 := (ff1315_8.wr W1316).keep K1549
       have cc1559 := (ff1315_9.other W1316 ne1320).keep K1549 nin0
       have cc1560 := (ff1315_10.wr W1316).keep K1549
       have cc1561 := (ff1315_11.other W1316 (Or.inl ne1321)).keep K1549 nin0
       have cc1562 := (ff1315_12.other W1316 (Or.inl ne1321)).keep K1549 nin0
       have cc1563 := (ff1315_13.other W1316 ne1322).keep K1549 nin0
       have cc1564 := (ff1315_14.wr W1316).keep K1549
       have cc1565 := (ff1315_15.other W1316 (Or.inl ne1323)).keep K1549 nin0
       have cc1566 := (ff1315_16.other W1316 (Or.inl ne1323)).keep K1549 nin0
       have cc1567 := (ff1315_17.other W1316 ne1324).keep K1549 nin0
       have cc1568 := (ff1315_18.wr W1316).keep K1549
       have cc1569 := (ff1315_19.other W1316 (Or.inl ne1325)).keep K1549 nin0
       have cc1570 := (ff1315_20.other W1316 (Or.inl ne1325)).keep K1549 nin0
       have cc1571 := (ff1315_21.other W1316 ne1326).keep K1549 nin0
       have cc1572 := (ff1315_22.wr W1316).keep K1549
       have cc1573 := VV1316.keep K1549 nin0
       have cc1574 := (ff1315_24.wr W1316).keep K1549
       have cc1575 := (ff1315_25.other W1316 (Or.inl ne1327)).keep K1549 nin0
       have cc1576 := (ff1315_26.other W1316 (Or.inl ne1327)).keep K1549 nin0
       have cc1577 := (ff1315_27.other W1316 ne1328).keep K1549 nin0
       exact JO1_1329 b1549 bb1549 kb1549 la1 ca1 T1549 _ X1549 hS1549 hZ hown N1549 KK1549 ZN1549 OL1549 ch1549 cc1550 cc1551 cc1552 cc1553 cc1554 cc1555 cc1556 cc1557 cc1558 cc1559 cc1560 cc1561 cc1562 cc1563 cc1564 cc1565 cc1566 cc1567 cc1568 cc1569 cc1570 cc1571 cc1572 cc1573 cc1574 cc1575 cc1576 cc1577 u1549_3 u1549_4 u1549_5 u1549_6 u1549_0 (Or.inl ⟨hc377_1519, rfl, rfl⟩) hla1 hca1
     refine c_iload X1313 hx hby at_350 rfl ?_
     by_cases hc352_1578 : q0 = (0 : Int32)
     ·refine c_ifYes X1313 hx hby 365 at_352 ((if0 _ _).trans (teq hc352_1578).1) (by decide) <| c_iload X1313 hx hby at_365 rfl <| c_iload X1313 hx hby at_367 rfl <| c_callSH X1313 hx hby hZ hown hml (gw hw 29 rfl) (gw hw 30 rfl) (gw hw 31 rfl) (gw hw 32 rfl) e1313 (own_EW hw) ch1313 hS1307 HK1313 (rmMK hw lb0 cb0 w0 h1313 n0 ZN1313 P1 OL1313 hw0 hlb0 hcb0) pd_22 rfl at_369 [.int 0, .ref b1313, .ref b1313] rfl 3 (by decide) rfl rfl fun o1579 T1579 L1579 X1579 hS1579 hZ hown hR1579 ch1579 hQ1579 => ?_
      obtain ⟨b1579, bb1579, kb1579, rfl, N1579q, u1579_0, u1579_1, K1579, u1579_3, u1579_4, u1579_5, u1579_6⟩ := hQ1579
      have N1579 := Fr.app NN1309 N1579q
      have G_b1579 := Nat.le_trans ZN1313 u1579_0
      have KK1579 := KK1313.trans K1579 all0
      have ZN1579 := Nat.le_trans ZN1313 K1579.1
      have OL1579 := OL1313.keep K1579 all0
      refine c_sh 372 [.ref b1579, .int 0, .ref b1313, .ref b1313] rfl rfl ?_
      have cc1580 := (((((((((((((AE1272.wr W1273).ext E1274).keep K1275).ext E1280).keep K1281).ext E1291).keep K1292).wr W1294).keep K1301).wr W1303).keep K1307).wr W1309).ext E1313).keep K1579
      have cc1581 := ((((((((((((V1273.ext E1274).keep K1275 (ninS ne1279 nin0)).ext E1280).keep K1281 (ninS ne1279 nin0)).ext E1291).keep K1292 nin0).other W1294 ne1296).keep K1301 nin0).other W1303 ne1296).keep K1307 nin0).other W1309 ne1296).ext E1313).keep K1579 nin0
      have cc1582 := (((((((((cc1282.keep K1281).ext E1291).keep K1292).wr W1294).keep K1301).wr W1303).keep K1307).wr W1309).ext E1313).keep K1579
      have cc1583 := (((((((((LE1280.keep K1281).ext E1291).keep K1292).wr W1294).keep K1301).wr W1303).keep K1307).wr W1309).ext E1313).keep K1579
      have cc1584 := ((((((((u1281_4.ext E1291).keep K1292 nin0).other W1294 (Or.inl ne1297)).keep K1301 nin0).other W1303 (Or.inl ne1297)).keep K1307 nin0).other W1309 (Or.inl ne1297)).ext E1313).keep K1579 nin0
      have cc1585 := ((((((((u1281_5.ext E1291).keep K1292 nin0).other W1294 (Or.inl ne1297)).keep K1301 nin0).other W1303 (Or.inl ne1297)).keep K1307 nin0).other W1309 (Or.inl ne1297)).ext E1313).keep K1579 nin0
      have cc1586 := ((((((((u1281_6.ext E1291).keep K1292).wr W1294).keep K1301).wr W1303).keep K1307).wr W1309).ext E1313).keep K1579
      have cc1587 := ((((((((u1281_7.ext E1291).keep K1292 nin0).other W1294 ne1298).keep K1301 nin0).other W1303 ne1298).keep K1307 nin0).other W1309 ne1298).ext E1313).keep K1579 nin0
      have cc1588 := ((cc1310.wr W1309).ext E1313).keep K1579
      have cc1589 := (VV1309.ext E1313).keep K1579 nin0
      have cc1590 := ((((((u1292_3.wr W1294).keep K1301).wr W1303).keep K1307).wr W1309).ext E1313).keep K1579
      have cc1591 := ((((((u1292_4.other W1294 (Or.inl ne1299)).keep K1301 nin0).other W1303 (Or.inl ne1299)).keep K1307 nin0).other W1309 (Or.inl ne1299)).ext E1313).keep K1579 nin0
      have cc1592 := ((((((u1292_5.other W1294 (Or.inl ne1299)).keep K1301 nin0).other W1303 (Or.inl ne1299)).keep K1307 nin0).other W1309 (Or.inl ne1299)).ext E1313).keep K1579 nin0
      have cc1593 := ((((((u1292_6.other W1294 ne1300).keep K1301 nin0).other W1303 ne1300).keep K1307 nin0).other W1309 ne1300).ext E1313).keep K1579 nin0
      have cc1594 := ((((u1301_3.wr W1303).keep K1307).wr W1309).ext E1313).keep K1579
      have cc1595 := ((((u1301_4.other W1303 (Or.inl ne1305)).keep K1307 nin0).other W1309 (Or.inl ne1305)).ext E1313).keep K1579 nin0
      have cc1596 := ((((u1301_5.other W1303 (Or.inl ne1305)).keep K1307 nin0).other W1309 (Or.inl ne1305)).ext E1313).keep K1579 nin0
      have cc1597 := ((((u1301_6.other W1303 ne1306).keep K1307 nin0).other W1309 ne1306).ext E1313).keep K1579 nin0
      have cc1598 := ((u1307_3.wr W1309).ext E1313).keep K1579
      have cc1599 := ((u1307_4.other W1309 (Or.inl ne1311)).ext E1313).keep K1579 nin0
      have cc1600 := ((u1307_5.other W1309 (Or.inl ne1311)).ext E1313).keep K1579 nin0
      have cc1601 := ((u1307_6.other W1309 ne1312).ext E1313).keep K1579 nin0
      have cc1602 := AE1313.keep K1579
      have cc1603 := V1313.keep K1579 nin0
      exact JO0_1314 b1579 bb1579 kb1579 lb0 cb0 T1579 _ X1579 hS1579 hZ hown N1579 KK1579 ZN1579 OL1579 ch1579 cc1580 cc1581 cc1582 cc1583 cc1584 cc1585 cc1586 cc1587 cc1588 cc1589 cc1590 cc1591 cc1592 cc1593 cc1594 cc1595 cc1596 cc1597 cc1598 cc1599 cc1600 cc1601 cc1602 cc1603 u1579_3 u1579_4 u1579_5 u1579_6 u1579_0 (Or.inr ⟨hc352_1578, rfl, rfl⟩) hlb0 hcb0
     ·refine c_ifNo X1313 hx hby at_352 ((if0 _ _).trans (feq hc352_1578).1) <| c_iload X1313 hx hby at_355 rfl <| c_iload X1313 hx hby at_357 rfl <| c_callSH X1313 hx hby hZ hown hml (gw hw 29 rfl) (gw hw 30 rfl) (gw hw 31 rfl) (gw hw 32 rfl) e1313 (own_EW hw) ch1313 hS1307 HK1313 (rmMK hw la0 ca0 w0 h1313 n0 ZN1313 P1 OL1313 hw0 hla0 hca0) pd_22 rfl at_359 [.int 0, .ref b1313, .ref b1313] rfl 3 (by decide) rfl rfl fun o1604 T1604 L1604 X1604 hS1604 hZ hown hR1604 ch1604 hQ1604 => ?_
      obtain ⟨b1604, bb1604, kb1604, rfl, N1604q, u1604_0, u1604_1, K1604, u1604_3, u1604_4, u1604_5, u1604_6⟩ := hQ1604
      have N1604 := Fr.app NN1309 N1604q
      have G_b1604 := Nat.le_trans ZN1313 u1604_0
      have KK1604 := KK1313.trans K1604 all0
      have ZN1604 := Nat.le_trans ZN1313 K1604.1
      have OL1604 := OL1313.keep K1604 all0
      refine c_sh 362 [.ref b1604, .int 0, .ref b1313, .ref b1313] rfl rfl <| c_goto X1604 hx hby 372 at_362 (by decide) ?_
      have cc1605 := (((((((((((((AE1272.wr W1273).ext E1274).keep K1275).ext E1280).keep K1281).ext E1291).keep K1292).wr W1294).keep K1301).wr W1303).keep K1307).wr W1309).ext E1313).keep K1604
      have cc1606 := ((((((((((((V1273.ext E1274).keep K1275 (ninS ne1279 nin0)).ext E1280).keep K1281 (ninS ne1279 nin0)).ext E1291).keep K1292 nin0).other W1294 ne1296).keep K1301 nin0).other W1303 ne1296).keep K1307 nin0).other W1309 ne1296).ext E1313).keep K1604 nin0
      have cc1607 := (((((((((cc1282.keep K1281).ext E1291).keep K1292).wr W1294).keep K1301).wr W1303).keep K1307).wr W1309).ext E1313).keep K1604
      have cc1608 := (((((((((LE1280.keep K1281).ext E1291).keep K1292).wr W1294).keep K1301).wr W1303).keep K1307).wr W1309).ext E1313).keep K1604
      have cc1609 := ((((((((u1281_4.ext E1291).keep K1292 nin0).other W1294 (Or.inl ne1297)).keep K1301 nin0).other W1303 (Or.inl ne1297)).keep K1307 nin0).other W1309 (Or.inl ne1297)).ext E1313).keep K1604 nin0
      have cc1610 := ((((((((u1281_5.ext E1291).keep K1292 nin0).other W1294 (Or.inl ne1297)).keep K1301 nin0).other W1303 (Or.inl ne1297)).keep K1307 nin0).other W1309 (Or.inl ne1297)).ext E1313).keep K1604 nin0
      have cc1611 := ((((((((u1281_6.ext E1291).keep K1292).wr W1294).keep K1301).wr W1303).keep K1307).wr W1309).ext E1313).keep K1604
      have cc1612 := ((((((((u1281_7.ext E1291).keep K1292 nin0).other W1294 ne1298).keep K1301 nin0).other W1303 ne1298).keep K1307 nin0).other W1309 ne1298).ext E1313).keep K1604 nin0
      have cc1613 := ((cc1310.wr W1309).ext E1313).keep K1604
      have cc1614 := (VV1309.ext E1313).keep K1604 nin0
      have cc1615 := ((((((u1292_3.wr W1294).keep K1301).wr W1303).keep K1307).wr W1309).ext E1313).keep K1604
      have cc1616 := ((((((u1292_4.other W1294 (Or.inl ne1299)).keep K1301 nin0).other W1303 (Or.inl ne1299)).keep K1307 nin0).other W1309 (Or.inl ne1299)).ext E1313).keep K1604 nin0
      have cc1617 := ((((((u1292_5.other W1294 (Or.inl ne1299)).keep K1301 nin0).other W1303 (Or.inl ne1299)).keep K1307 nin0).other W1309 (Or.inl ne1299)).ext E1313).keep K1604 nin0
      have cc1618 := ((((((u1292_6.other W1294 ne1300).keep K1301 nin0).other W1303 ne1300).keep K1307 nin0).other W1309 ne1300).ext E1313).keep K1604 nin0
      have cc1619 := ((((u1301_3.wr W1303).keep K1307).wr W1309).ext E1313).keep K1604
      have cc1620 := ((((u1301_4.other W1303 (Or.inl ne1305)).keep K1307 nin0).other W1309 (Or.inl ne1305)).ext E1313).keep K1604 nin0
      have cc1621 := ((((u1301_5.other W1303 (Or.inl ne1305)).keep K1307 nin0).other W1309 (Or.inl ne1305)).ext E1313).keep K1604 nin0
      have cc1622 := ((((u1301_6.other W1303 ne1306).keep K1307 nin0).other W1309 ne1306).ext E1313).keep K1604 nin0
      have cc1623 := ((u1307_3.wr W1309).ext E1313).keep K1604
      have cc1624 := ((u1307_4.other W1309 (Or.inl ne1311)).ext E1313).keep K1604 nin0
      have cc1625 := ((u1307_5.other W1309 (Or.inl ne1311)).ext E1313).keep K1604 nin0
      have cc1626 := ((u1307_6.other W1309 ne1312).ext E1313).keep K1604 nin0
      have cc1627 := AE1313.keep K1604
      have cc1628 := V1313.keep K1604 nin0
      exact JO0_1314 b1604 bb1604 kb1604 la0 ca0 T1604 _ X1604 hS1604 hZ hown N1604 KK1604 ZN1604 OL1604 ch1604 cc1605 cc1606 cc1607 cc1608 cc1609 cc1610 cc1611 cc1612 cc1613 cc1614 cc1615 cc1616 cc1617 cc1618 cc1619 cc1620 cc1621 cc1622 cc1623 cc1624 cc1625 cc1626 cc1627 cc1628 u1604_3 u1604_4 u1604_5 u1604_6 u1604_0 (Or.inl ⟨hc352_1578, rfl, rfl⟩) hla0 hca0
    refine c_iloadN X1281 hx hby at_248 rfl <| c_iconst X1281 hx hby 2 at_249 rfl <| c_iushr X1281 hx hby at_250 <| c_iconst X1281 hx hby 1 at_251 rfl <| c_iand X1281 hx hby at_252 ?_
    by_cases hc253_1629 : (((p4.toUInt32 >>> ((2 : Int32) &&& 31).toUInt32).toInt32) &&& (1 : Int32)) = (0 : Int32)
    ·refine c_ifYes X1281 hx hby 260 at_253 ((if0 _ _).trans (teq hc253_1629).1) (by decide) <| c_iconst X1281 hx hby 0 at_260 rfl ?_
     exact JQ2_1290 _
    ·refine c_ifNo X1281 hx hby at_253 ((if0 _ _).trans (feq hc253_1629).1) <| c_iconst X1281 hx hby 1 at_256 rfl <| c_goto X1281 hx hby 261 at_257 (by decide) ?_
     exact JQ2_1290 _
   refine c_iloadN X1281 hx hby at_233 rfl <| c_iconst X1281 hx hby 1 at_234 rfl <| c_iushr X1281 hx hby at_235 <| c_iconst X1281 hx hby 1 at_236 rfl <| c_iand X1281 hx hby at_237 ?_
   by_cases hc238_1630 : (((p4.toUInt32 >>> ((1 : Int32) &&& 31).toUInt32).toInt32) &&& (1 : Int32)) = (0 : Int32)
   ·refine c_ifYes X1281 hx hby 245 at_238 ((if0 _ _).trans (teq hc238_1630).1) (by decide) <| c_iconst X1281 hx hby 0 at_245 rfl ?_
    exact JQ1_1289 _
   ·refine c_ifNo X1281 hx hby at_238 ((if0 _ _).trans (feq hc238_1630).1) <| c_iconst X1281 hx hby 1 at_241 rfl <| c_goto X1281 hx hby 246 at_242 (by decide) ?_
    exact JQ1_1289 _
  refine c_sh 220 [] rfl rfl <| c_iloadN X1281 hx hby at_220 rfl <| c_iconst X1281 hx hby 1 at_221 rfl <| c_iand X1281 hx hby at_222 ?_
  by_cases hc223_1631 : (p4 &&& (1 : Int32)) = (0 : Int32)
  ·refine c_ifYes X1281 hx hby 230 at_223 ((if0 _ _).trans (teq hc223_1631).1) (by decide) <| c_iconst X1281 hx hby 0 at_230 rfl ?_
   exact JQ0_1288 _
  ·refine c_ifNo X1281 hx hby at_223 ((if0 _ _).trans (feq hc223_1631).1) <| c_iconst X1281 hx hby 1 at_226 rfl <| c_goto X1281 hx hby 231 at_227 (by decide) ?_
   exact JQ0_1288 _
 ·refine c_sh 33 [] rfl rfl <| c_iload X0 hx hby at_33 rfl <| c_ifYes X0 hx hby 46 at_35 (by decide) (by decide) <| c_iload X0 hx hby at_46 rfl <| c_iconst X0 hx hby 1 at_48 rfl <| c_icmpYes X0 hx hby 65 at_49 (by decide) (by decide) <| c_iload X0 hx hby at_65 rfl <| c_iconst X0 hx hby 2 at_67 rfl <| c_icmpNo X0 hx hby at_68 (teq (rfl : (2 : Int32) = (2 : Int32))).2 <| c_iconst X0 hx hby 2 at_71 rfl <| c_newP X0 hx hby hZ (gw hw 0 rfl) e0 at_72 (by decide) 2 (by decide) (by decide) "[I" (by first | rfl | decide) fun T1632 h1632 k1632 b1632 g1632 X1632 e1632 E1632 A1632 AE1632 => ?_
  have G_b1632 := Nat.le_trans Z0 (Nat.le_of_eq g1632.symm)
  have KK1632 := (Keep.refl h0 []).ext E1632
  have ZN1632 := Nat.le_trans Z0 E1632.1
  have HK1632 : 0 ≤ h1632.size := Nat.le_trans (Nat.zero_le _) E1632.1
  have OL1632 := P0.ext E1632
  have ch1632 := ch0.trans (CHr.ext E1632 ch0.1)
  have V1632 : Arv Z h1632 b1632 k1632 .int (2 : Int32) [(.int (0 : Int32)), (.int (0 : Int32))] (.int (0 : Int32)) := (Arv.new A1632 (by decide)).pad (pad_rep [] (.int (0 : Int32)) 2)
  refine c_sh 74 [.ref b1632] rfl rfl <| c_dup X1632 hx hby at_74 rfl <| c_iconst X1632 hx hby 0 at_75 rfl <| c_iload X1632 hx hby at_76 rfl <| c_ist X1632 hx hby hZ e1632 V1632 (by decide) 0 rfl (Nat.le_of_ble_eq_true rfl) at_78 fun T1633 h1633 X1633 e1633 W1633 V1633 => ?_
  have V1633 : Arv Z h1633 b1632 k1632 .int (2 : Int32) [(.int i0), (.int (0 : Int32))] (.int (0 : Int32)) := V1633
  have KK1633 := KK1632.wr W1633 (Or.inr (Nat.le_trans (Keep.refl h0 []).1 (Nat.le_of_eq g1632.symm)))
  have ZN1633 := Nat.le_trans ZN1632 (Keep.of_wr W1633).1
  have HK1633 : 0 ≤ h1633.size := Nat.le_trans HK1632 (Keep.of_wr W1633).1
  have NN1633 := Fr.snoc X1633 N0 G_b1632
  have OL1633 := OL1632.wr W1633 G_b1632
  have ch1633 := ch1632.trans (CHr.wr W1633 (Safe.exa hZ.alike AE1632 (by decide) (by decide)) ch1632.1)
  refine c_sh 79 [.ref b1632] rfl rfl <| c_dup X1633 hx hby at_79 rfl <| c_iconst X1633 hx hby 1 at_80 rfl <| c_iload X1633 hx hby at_81 rfl <| c_ist X1633 hx hby hZ e1633 V1633 (by decide) 1 rfl (Nat.le_of_ble_eq_true rfl) at_83 fun T1634 h1634 X1634 e1634 W1634 V1634 => ?_
  have V1634 : Arv Z h1634 b1632 k1632 .int (2 : Int32) [(.int i0), (.int i1)] (.int (0 : Int32)) := V1634
  have cc1635 := AE1632.wr W1633
  have KK1634 := KK1633.wr W1634 (Or.inr (Nat.le_trans (Keep.refl h0 []).1 (Nat.le_of_eq g1632.symm)))
  have ZN1634 := Nat.le_trans ZN1633 (Keep.of_wr W1634).1
  have HK1634 : 0 ≤ h1634.size := Nat.le_trans HK1633 (Keep.of_wr W1634).1
  have NN1634 := Fr.snoc X1634 NN1633 G_b1632
  have OL1634 := OL1633.wr W1634 G_b1632
  have ch1634 := ch1633.trans (CHr.wr W1634 (Safe.exa hZ.alike cc1635 (by decide) (by decide)) ch1633.1)
  refine c_sh 84 [.ref b1632] rfl rfl <| c_astore X1634 hx hby _ at_84 rfl rfl <| c_goto X1634 hx hby 109 at_86 (by decide) <| c_shL #[iv p1, iv p2, iv p3, iv p4, iv 2, iv i0, iv i1, iv i2, rv b1632, .unset, .unset, .unset, .unset, .unset, .unset, .unset, .unset, .unset, .unset, .unset, .unset, .unset, .unset, .unset, .unset, .unset, .unset, .unset, .unset, .unset, .unset, .unset, .unset] rfl <| c_new X1634 hx hby hZ hown (gw hw 1 rfl) (gw hw 2 rfl) (gw hw 3 rfl) e1634 at_109 (by decide) fun T1636 h1636 b1636 g1636 X1636 e1636 E1636 A1636 D1636 => ?_
  have G_b1636 := Nat.le_trans ZN1634 (Nat.le_of_eq g1636.symm)
  have KK1636 := KK1634.ext E1636
  have ZN1636 := Nat.le_trans ZN1634 E1636.1
  have HK1636 := Nat.le_trans HK1634 E1636.1
  have OL1636 := OL1634.ext E1636
  have ch1636 := ch1634.trans (CHr.ext E1636 ch1634.1)
  refine c_sh 112 [.ref b1636] rfl rfl <| c_dup X1636 hx hby at_112 rfl ?_
  have cc1638 := show Fld Z h1636 b1636 "java/util/AbstractList" "modCount" "I" (.int (0 : Int32)) from D1636 (Or.inl (gw hw 23 rfl)) (ty := .int) (by decide)
  have cc1639 := show Fld Z h1636 b1636 "java/util/ArrayList" "size" "I" (.int (0 : Int32)) from D1636 (Or.inl (gw hw 86 rfl)) (ty := .int) (by decide)
  have cc1640 := show Fld Z h1636 b1636 "java/util/ArrayList" "elementData" "[Ljava/lang/Object;" .null from D1636 (Or.inl (gw hw 26 rfl)) (ty := (.array (.object "java/lang/Object"))) (by decide)
  refine c_init X1636 hx hby hZ hown hml (gw hw 4 rfl) (gw hw 5 rfl) (gw hw 6 rfl) (gw hw 3 rfl) rfl e1636 (rm1 hw b1636 (.int (0 : Int32)) (.int (0 : Int32)) .null d0 h1636 n0 ZN1636 P2 OL1636 A1636 G_b1636 cc1638 cc1639 cc1640) pd_4 rfl at_113 [.ref b1636] rfl 1 (by decide) rfl rfl fun o1637 T1637 L1637 X1637 hQ1637 => ?_
  obtain ⟨rfl, N1637q, K1637, u1637_1, u1637_2, u1637_3⟩ := hQ1637
  have N1637 := Fr.app NN1634 N1637q
  have ne1641 : b1632 ≠ b1636 := (Nat.ne_of_lt (Nat.lt_of_lt_of_le (cc1635.wr W1634).lt (Nat.le_of_eq g1636.symm)))
  have KK1637 := KK1636.trans K1637 (allS (P := fun x => x ∈ [] ∨ h0.size ≤ x) (Or.inr (Nat.le_trans KK1634.1 (Nat.le_of_eq g1636.symm))) all0)
  have ZN1637 := Nat.le_trans ZN1636 K1637.1
  have HK1637 : 0 ≤ T1637.heap.size := Nat.le_trans HK1636 K1637.1
  have ch1637 := ch1636.trans (CHr.keep K1637 (allS (Safe.exa hZ.alike A1636 (by decide) (by decide)) all0) ch1636.1)
  have OL1637 := OL1636.keep K1637 (allS G_b1636 all0)
  refine c_sh 116 [.ref b1636] rfl rfl <| c_astore X1637 hx hby _ at_116 rfl rfl <| c_iload X1637 hx hby at_118 rfl <| c_iconst X1637 hx hby 1 at_120 rfl <| c_icmpNo X1637 hx hby at_121 (by decide) <| c_aload X1637 hx hby at_124 rfl rfl <| c_shL #[iv p1, iv p2, iv p3, iv p4, iv 2, iv i0, iv i1, iv i2, rv b1632, rv b1636, .unset, .unset, .unset, .unset, .unset, .unset, .unset, .unset, .unset, .unset, .unset, .unset, .unset, .unset, .unset, .unset, .unset, .unset, .unset, .unset, .unset, .unset, .unset] rfl ?_
  obtain ⟨t1642, T1642, h1642, k1642, bs1642, ks1642, X1642, e1642, E1642, hS1642, hk1642, hZ, hown, LE1642, LC1642, LV1642, LA1642, -, -, cr1642, -, sn1642, st1642⟩ := ldcCH X1637 hx hZ hown (gw hw 124 rfl) (own_wS hw) rfl hS0 HK1637 (own_EW hw) (List.mem_of_getElem? (i := 0) rfl) ch1637.1 (vs := [(.int (97 : Int32))]) (z := (1 : Int32)) ⟨by decide, by decide⟩ (by decide) (by decide) (g := (mkF m 126 #[iv p1, iv p2, iv p3, iv p4, iv 2, iv i0, iv i1, iv i2, rv b1632, rv b1636, .unset, .unset, .unset, .unset, .unset, .unset, .unset, .unset, .unset, .unset, .unset, .unset, .unset, .unset, .unset, .unset, .unset, .unset, .unset, .unset, .unset, .unset, .unset] [.ref b1636])) rfl (hb hby at_126) (n := 4) (by decide) (by decide) (by decide) (by decide)
  have ch1642 := ch1637.trans cr1642
  have KK1642 := KK1637.ext E1642
  have ZN1642 := Nat.le_trans ZN1637 E1642.1
  have OL1642 := OL1637.ext E1642
  refine go st1642 ?_
  show Go _ p e below s _ _ _ (T1642.setTop (mkF m 128 #[iv p1, iv p2, iv p3, iv p4, iv 2, iv i0, iv i1, iv i2, rv b1632, rv b1636, .unset, .unset, .unset, .unset, .unset, .unset, .unset, .unset, .unset, .unset, .unset, .unset, .unset, .unset, .unset, .unset, .unset, .unset, .unset, .unset, .unset, .unset, .unset] [.ref t1642, .ref b1636]))
  have cc1644 := (A1636.keep K1637).ext E1642
  have cc1645 := u1637_1.ext E1642
  have cc1646 := u1637_2.ext E1642
  have cc1647 := u1637_3.ext E1642
  refine c_callV X1642 hx hby hZ hown hml (gw hw 125 rfl) (gw hw 126 rfl) (gw hw 128 rfl) (gw hw 127 rfl) (gw hw 129 rfl) (gw hw 3 rfl) cc1644 e1642 (rmX10 hw b1636 t1642 d0 kd h1642 n0 ZN1642 P2 OL1642 P3 cc1644 G_b1636 LE1642 cc1645 cc1646 cc1647) pd_21 rfl at_128 [] rfl 0 (by decide) rfl rfl fun o1643 T1643 L1643 X1643 hQ1643 => ?_
  obtain ⟨b1643, k1643, rfl, N1643q, u1643_0, u1643_1, K1643, u1643_3, u1643_4, u1643_5, u1643_6, u1643_7, u1643_8⟩ := hQ1643
  have N1643 := Fr.app N1637 N1643q
  have G_b1643 := Nat.le_trans ZN1642 u1643_0
  have ne1648 : t1642 ≠ b1636 := (Exa.ne LE1642 cc1644 (by decide))
  have ne1649 : bs1642 ≠ b1636 := (Ne.symm (Exa.neArv cc1644 LA1642 (gw hw 2 rfl)))
  have KK1643 := KK1642.trans K1643 (allS (P := fun x => x ∈ [] ∨ h0.size ≤ x) (Or.inr (Nat.le_trans KK1634.1 (Nat.le_of_eq g1636.symm))) all0)
  have ZN1643 := Nat.le_trans ZN1642 K1643.1
  have HK1643 : k1642 ≤ T1643.heap.size := Nat.le_trans hk1642 K1643.1
  have ch1643 := ch1642.trans (CHr.keep K1643 (allS (Safe.exa hZ.alike cc1644 (by decide) (by decide)) all0) ch1642.1)
  have OL1643 := OL1642.keep K1643 (allS G_b1636 all0)
  refine c_sh 131 [.int 1] rfl rfl <| c_pop X1643 hx hby at_131 rfl <| c_iload X1643 hx hby at_132 rfl <| c_iconst X1643 hx hby 2 at_134 rfl <| c_icmpNo X1643 hx hby at_135 (by decide) <| c_aload X1643 hx hby at_138 rfl rfl ?_
  obtain ⟨t1650, T1650, h1650, k1650, bs1650, ks1650, X1650, e1650, E1650, hS1650, hk1650, hZ, hown, LE1650, LC1650, LV1650, LA1650, -, -, cr1650, -, sn1650, st1650⟩ := ldcCH X1643 hx hZ hown (gw hw 154 rfl) (own_wS hw) rfl hS1642 HK1643 (own_EW hw) (List.mem_of_getElem? (i := 1) rfl) ch1643.1 (vs := [(.int (98 : Int32))]) (z := (1 : Int32)) ⟨by decide, by decide⟩ (by decide) (by decide) (g := (mkF m 140 #[iv p1, iv p2, iv p3, iv p4, iv 2, iv i0, iv i1, iv i2, rv b1632, rv b1636, .unset, .unset, .unset, .unset, .unset, .unset, .unset, .unset, .unset, .unset, .unset, .unset, .unset, .unset, .unset, .unset, .unset, .unset, .unset, .unset, .unset, .unset, .unset] [.ref b1636])) rfl (hb hby at_140) (n := 4) (by decide) (by decide) (by decide) (by decide)
  have ch1650 := ch1643.trans cr1650
  have KK1650 := KK1643.ext E1650
  have ZN1650 := Nat.le_trans ZN1643 E1650.1
  have OL1650 := OL1643.ext E1650
  refine go st1650 ?_
  show Go _ p e below s _ _ _ (T1650.setTop (mkF m 142 #[iv p1, iv p2, iv p3, iv p4, iv 2, iv i0, iv i1, iv i2, rv b1632, rv b1636, .unset, .unset, .unset, .unset, .unset, .unset, .unset, .unset, .unset, .unset, .unset, .unset, .unset, .unset, .unset, .unset, .unset, .unset, .unset, .unset, .unset, .unset, .unset] [.ref t1650, .ref b1636]))
  have cc1652 := (cc1644.keep K1643).ext E1650
  have cc1653 := u1643_3.ext E1650
  have cc1654 := u1643_4.ext E1650
  have cc1655 := u1643_5.ext E1650
  have cc1656 := u1643_6.ext E1650
  have cc1657 := u1643_7.ext E1650
  have ne1658 : b1636 ≠ b1643 := (Nat.ne_of_lt (Nat.lt_of_lt_of_le cc1644.lt u1643_0))
  refine c_callV X1650 hx hby hZ hown hml (gw hw 125 rfl) (gw hw 126 rfl) (gw hw 128 rfl) (gw hw 127 rfl) (gw hw 129 rfl) (gw hw 3 rfl) cc1652 e1650 (rmX11 hw b1636 t1650 b1643 k1643 t1642 h1650 n0 ZN1650 cc1652 G_b1636 LE1650 cc1653 cc1654 cc1655 cc1656 cc1657 u1643_8 u1643_1 ne1658) pd_21 rfl at_142 [] rfl 0 (by decide) rfl rfl fun o1651 T1651 L1651 X1651 hQ1651 => ?_
  obtain ⟨rfl, N1651q, K1651, u1651_1, u1651_2, u1651_3, u1651_4, u1651_5, u1651_6⟩ := hQ1651
  have N1651 := Fr.app N1643 N1651q
  have ne1659 : b1632 ≠ b1643 := (Nat.ne_of_lt (Nat.lt_of_lt_of_le ((((cc1635.wr W1634).ext E1636).keep K1637).ext E1642).lt u1643_0))
  have ne1660 : t1642 ≠ b1643 := (Nat.ne_of_lt (Nat.lt_of_lt_of_le LE1642.lt u1643_0))
  have ne1661 : bs1642 ≠ b1643 := (Nat.ne_of_lt (Nat.lt_of_lt_of_le LA1642.lt u1643_0))
  have ne1662 : t1650 ≠ b1643 := (Exa.neArv LE1650 cc1657 (gw hw 33 rfl))
  have ne1663 : t1650 ≠ b1636 := (Exa.ne LE1650 cc1652 (by decide))
  have ne1664 : bs1650 ≠ b1643 := (own_tyne LA1650 cc1657 (by decide))
  have ne1665 : bs1650 ≠ b1636 := (Ne.symm (Exa.neArv cc1652 LA1650 (gw hw 2 rfl)))
  have KK1651 := KK1650.trans K1651 (allS (P := fun x => x ∈ [] ∨ h0.size ≤ x) (Or.inr (Nat.le_trans KK1634.1 (Nat.le_of_eq g1636.symm))) (allS (P := fun x => x ∈ [] ∨ h0.size ≤ x) (Or.inr (Nat.le_trans KK1642.1 u1643_0)) all0))
  have ZN1651 := Nat.le_trans ZN1650 K1651.1
  have HK1651 : k1650 ≤ T1651.heap.size := Nat.le_trans hk1650 K1651.1
  have ch1651 := ch1650.trans (CHr.keep K1651 (allS (Safe.exa hZ.alike cc1652 (by decide) (by decide)) (allS (Safe.exa hZ.alike cc1656 (by decide) (by decide)) all0)) ch1650.1)
  have OL1651 := OL1650.keep K1651 (allS G_b1636 (allS u1643_1 all0))
  refine c_sh 145 [.int 1] rfl rfl <| c_pop X1651 hx hby at_145 rfl <| c_iload X1651 hx hby at_146 rfl <| c_iconst X1651 hx hby 3 at_148 rfl <| c_icmpYes X1651 hx hby 160 at_149 (by decide) (by decide) <| c_iloadN X1651 hx hby at_160 rfl <| c_sipush X1651 hx hby 255 at_161 rfl <| c_iand X1651 hx hby at_164 <| c_i2c X1651 hx hby at_165 ?_
  rw [i2c_mask]
  refine c_sh 166 [.int (p2 &&& (255 : Int32))] rfl rfl <| c_istore X1651 hx hby _ at_166 rfl <| c_iloadN X1651 hx hby at_168 rfl <| c_bipush X1651 hx hby 8 at_169 rfl <| c_iushr X1651 hx hby at_171 <| c_sipush X1651 hx hby 255 at_172 rfl <| c_iand X1651 hx hby at_175 <| c_i2c X1651 hx hby at_176 <| c_shL #[iv p1, iv p2, iv p3, iv p4, iv 2, iv i0, iv i1, iv i2, rv b1632, rv b1636, iv (p2 &&& (255 : Int32)), .unset, .unset, .unset, .unset, .unset, .unset, .unset, .unset, .unset, .unset, .unset, .unset, .unset, .unset, .unset, .unset, .unset, .unset, .unset, .unset, .unset, .unset] rfl ?_
  rw [i2c_mask]
  refine c_sh 177 [.int (((p2.toUInt32 >>> ((8 : Int32) &&& 31).toUInt32).toInt32) &&& (255 : Int32))] rfl rfl <| c_istore X1651 hx hby _ at_177 rfl <| c_iloadN X1651 hx hby at_179 rfl <| c_bipush X1651 hx hby 16 at_180 rfl <| c_iushr X1651 hx hby at_182 <| c_sipush X1651 hx hby 255 at_183 rfl <| c_iand X1651 hx hby at_186 <| c_i2c X1651 hx hby at_187 <| c_shL #[iv p1, iv p2, iv p3, iv p4, iv 2, iv i0, iv i1, iv i2, rv b1632, rv b1636, iv (p2 &&& (255 : Int32)), iv (((p2.toUInt32 >>> ((8 : Int32) &&& 31).toUInt32).toInt32) &&& (255 : Int32)), .unset, .unset, .unset, .unset, .unset, .unset, .unset, .unset, .unset, .unset, .unset, .unset, .unset, .unset, .unset, .unset, .unset, .unset, .unset, .unset, .unset] rfl ?_
  rw [i2c_mask]
  refine c_sh 188 [.int (((p2.toUInt32 >>> ((16 : Int32) &&& 31).toUInt32).toInt32) &&& (255 : Int32))] rfl rfl <| c_istore X1651 hx hby _ at_188 rfl <| c_iloadN X1651 hx hby at_190 rfl <| c_sipush X1651 hx hby 255 at_191 rfl <| c_iand X1651 hx hby at_194 <| c_i2c X1651 hx hby at_195 <| c_shL #[iv p1, iv p2, iv p3, iv p4, iv 2, iv i0, iv i1, iv i2, rv b1632, rv b1636, iv (p2 &&& (255 : Int32)), iv (((p2.toUInt32 >>> ((8 : Int32) &&& 31).toUInt32).toInt32) &&& (255 : Int32)), iv (((p2.toUInt32 >>> ((16 : Int32) &&& 31).toUInt32).toInt32) &&& (255 : Int32)), .unset, .unset, .unset, .unset, .unset, .unset, .unset, .unset, .unset, .unset, .unset, .unset, .unset, .unset, .unset, .unset, .unset, .unset, .unset, .unset] rfl ?_
  rw [i2c_mask]
  refine c_sh 196 [.int (p3 &&& (255 : Int32))] rfl rfl <| c_istore X1651 hx hby _ at_196 rfl <| c_iloadN X1651 hx hby at_198 rfl <| c_bipush X1651 hx hby 8 at_199 rfl <| c_iushr X1651 hx hby at_201 <| c_sipush X1651 hx hby 255 at_202 rfl <| c_iand X1651 hx hby at_205 <| c_i2c X1651 hx hby at_206 <| c_shL #[iv p1, iv p2, iv p3, iv p4, iv 2, iv i0, iv i1, iv i2, rv b1632, rv b1636, iv (p2 &&& (255 : Int32)), iv (((p2.toUInt32 >>> ((8 : Int32) &&& 31).toUInt32).toInt32) &&& (255 : Int32)), iv (((p2.toUInt32 >>> ((16 : Int32) &&& 31).toUInt32).toInt32) &&& (255 : Int32)), iv (p3 &&& (255 : Int32)), .unset, .unset, .unset, .unset, .unset, .unset, .unset, .unset, .unset, .unset, .unset, .unset, .unset, .unset, .unset, .unset, .unset, .unset, .unset] rfl ?_
  rw [i2c_mask]
  refine c_sh 207 [.int (((p3.toUInt32 >>> ((8 : Int32) &&& 31).toUInt32).toInt32) &&& (255 : Int32))] rfl rfl <| c_istore X1651 hx hby _ at_207 rfl <| c_iloadN X1651 hx hby at_209 rfl <| c_bipush X1651 hx hby 16 at_210 rfl <| c_iushr X1651 hx hby at_212 <| c_sipush X1651 hx hby 255 at_213 rfl <| c_iand X1651 hx hby at_216 <| c_i2c X1651 hx hby at_217 <| c_shL #[iv p1, iv p2, iv p3, iv p4, iv 2, iv i0, iv i1, iv i2, rv b1632, rv b1636, iv (p2 &&& (255 : Int32)), iv (((p2.toUInt32 >>> ((8 : Int32) &&& 31).toUInt32).toInt32) &&& (255 : Int32)), iv (((p2.toUInt32 >>> ((16 : Int32) &&& 31).toUInt32).toInt32) &&& (255 : Int32)), iv (p3 &&& (255 : Int32)), iv (((p3.toUInt32 >>> ((8 : Int32) &&& 31).toUInt32).toInt32) &&& (255 : Int32)), .unset, .unset, .unset, .unset, .unset, .unset, .unset, .unset, .unset, .unset, .unset, .unset, .unset, .unset, .unset, .unset, .unset, .unset] rfl ?_
  rw [i2c_mask]
  refine c_sh 218 [.int (((p3.toUInt32 >>> ((16 : Int32) &&& 31).toUInt32).toInt32) &&& (255 : Int32))] rfl rfl <| c_istore X1651 hx hby _ at_218 rfl <| c_shL #[iv p1, iv p2, iv p3, iv p4, iv 2, iv i0, iv i1, iv i2, rv b1632, rv b1636, iv (p2 &&& (255 : Int32)), iv (((p2.toUInt32 >>> ((8 : Int32) &&& 31).toUInt32).toInt32) &&& (255 : Int32)), iv (((p2.toUInt32 >>> ((16 : Int32) &&& 31).toUInt32).toInt32) &&& (255 : Int32)), iv (p3 &&& (255 : Int32)), iv (((p3.toUInt32 >>> ((8 : Int32) &&& 31).toUInt32).toInt32) &&& (255 : Int32)), iv (((p3.toUInt32 >>> ((16 : Int32) &&& 31).toUInt32).toInt32) &&& (255 : Int32)), .unset, .unset, .unset, .unset, .unset, .unset, .unset, .unset, .unset, .unset, .unset, .unset, .unset, .unset, .unset, .unset, .unset] rfl ?_
  have hca0 := own_chm p2
  generalize (p2 &&& (255 : Int32)) = ca0 at hca0 ⊢
  have hca1 := own_chm ((p2.toUInt32 >>> ((8 : Int32) &&& 31).toUInt32).toInt32)
  generalize (((p2.toUInt32 >>> ((8 : Int32) &&& 31).toUInt32).toInt32) &&& (255 : Int32)) = ca1 at hca1 ⊢
  have hca2 := own_chm ((p2.toUInt32 >>> ((16 : Int32) &&& 31).toUInt32).toInt32)
  generalize (((p2.toUInt32 >>> ((16 : Int32) &&& 31).toUInt32).toInt32) &&& (255 : Int32)) = ca2 at hca2 ⊢
  have hcb0 := own_chm p3
  generalize (p3 &&& (255 : Int32)) = cb0 at hcb0 ⊢
  have hcb1 := own_chm ((p3.toUInt32 >>> ((8 : Int32) &&& 31).toUInt32).toInt32)
  generalize (((p3.toUInt32 >>> ((8 : Int32) &&& 31).toUInt32).toInt32) &&& (255 : Int32)) = cb1 at hcb1 ⊢
  have hcb2 := own_chm ((p3.toUInt32 >>> ((16 : Int32) &&& 31).toUInt32).toInt32)
  generalize (((p3.toUInt32 >>> ((16 : Int32) &&& 31).toUInt32).toInt32) &&& (255 : Int32)) = cb2 at hcb2 ⊢
  refine c_sh 220 [] rfl rfl ?_
  have JQ0_1666 : ∀ (q0 : Int32), Go (own_EndH Z) p e below s room_1.cells room_1.slots (Q0 Z p1 p2 p3 p4 w0 d0 kd el em mr h0 n0) (T1651.setTop (mkF m 231 #[iv p1, iv p2, iv p3, iv p4, iv 2, iv i0, iv i1, iv i2, rv b1632, rv b1636, iv ca0, iv ca1, iv ca2, iv cb0, iv cb1, iv cb2, .unset, .unset, .unset, .unset, .unset, .unset, .unset, .unset, .unset, .unset, .unset, .unset, .unset, .unset, .unset, .unset, .unset] [.int q0])) := by
   intro q0
   refine c_istore X1651 hx hby _ at_231 rfl <| c_shL #[iv p1, iv p2, iv p3, iv p4, iv 2, iv i0, iv i1, iv i2, rv b1632, rv b1636, iv ca0, iv ca1, iv ca2, iv cb0, iv cb1, iv cb2, iv q0, .unset, .unset, .unset, .unset, .unset, .unset, .unset, .unset, .unset, .unset, .unset, .unset, .unset, .unset, .unset, .unset] rfl ?_
   have JQ1_1667 : ∀ (q1 : Int32), Go (own_EndH Z) p e below s room_1.cells room_1.slots (Q0 Z p1 p2 p3 p4 w0 d0 kd el em mr h0 n0) (T1651.setTop (mkF m 246 #[iv p1, iv p2, iv p3, iv p4, iv 2, iv i0, iv i1, iv i2, rv b1632, rv b1636, iv ca0, iv ca1, iv ca2, iv cb0, iv cb1, iv cb2, iv q0, .unset, .unset, .unset, .unset, .unset, .unset, .unset, .unset, .unset, .unset, .unset, .unset, .unset, .unset, .unset, .unset] [.int q1])) := by
    intro q1
    refine c_istore X1651 hx hby _ at_246 rfl <| c_shL #[iv p1, iv p2, iv p3, iv p4, iv 2, iv i0, iv i1, iv i2, rv b1632, rv b1636, iv ca0, iv ca1, iv ca2, iv cb0, iv cb1, iv cb2, iv q0, iv q1, .unset, .unset, .unset, .unset, .unset, .unset, .unset, .unset, .unset, .unset, .unset, .unset, .unset, .unset, .unset] rfl ?_
    have JQ2_1668 : ∀ (q2 : Int32), Go (own_EndH Z) p e below s room_1.cells room_1.slots (Q0 Z p1 p2 p3 p4 w0 d0 kd el em mr h0 n0) (T1651.setTop (mkF m 261 #[iv p1, iv p2, iv p3, iv p4, iv 2, iv i0, iv i1, iv i2, rv b1632, rv b1636, iv ca0, iv ca1, iv ca2, iv cb0, iv cb1, iv cb2, iv q0, iv q1, .unset, .unset, .unset, .unset, .unset, .unset, .unset, .unset, .unset, .unset, .unset, .unset, .unset, .unset, .unset] [.int q2])) := by
     intro q2
     refine c_istore X1651 hx hby _ at_261 rfl <| c_iloadN X1651 hx hby at_263 rfl <| c_iconst X1651 hx hby 3 at_264 rfl <| c_iushr X1651 hx hby at_265 <| c_iconst X1651 hx hby 1 at_266 rfl <| c_iand X1651 hx hby at_267 <| c_istore X1651 hx hby #[iv p1, iv p2, iv p3, iv p4, iv 2, iv i0, iv i1, iv i2, rv b1632, rv b1636, iv ca0, iv ca1, iv ca2, iv cb0, iv cb1, iv cb2, iv q0, iv q1, iv q2, iv (((p4.toUInt32 >>> ((3 : Int32) &&& 31).toUInt32).toInt32) &&& (1 : Int32)), .unset, .unset, .unset, .unset, .unset, .unset, .unset, .unset, .unset, .unset, .unset, .unset, .unset] at_268 rfl <| c_iloadN X1651 hx hby at_270 rfl <| c_iconst X1651 hx hby 4 at_271 rfl <| c_iushr X1651 hx hby at_272 <| c_iconst X1651 hx hby 1 at_273 rfl <| c_iand X1651 hx hby at_274 <| c_istore X1651 hx hby _ at_275 rfl <| c_iloadN X1651 hx hby at_277 rfl <| c_iconst X1651 hx hby 5 at_278 rfl <| c_sh 279 _ rfl rfl <| c_iushr X1651 hx hby at_279 <| c_iconst X1651 hx hby 1 at_280 rfl <| c_iand X1651 hx hby at_281 <| c_istore X1651 hx hby #[iv p1, iv p2, iv p3, iv p4, iv 2, iv i0, iv i1, iv i2, rv b1632, rv b1636, iv ca0, iv ca1, iv ca2, iv cb0, iv cb1, iv cb2, iv q0, iv q1, iv q2, iv (((p4.toUInt32 >>> ((3 : Int32) &&& 31).toUInt32).toInt32) &&& (1 : Int32)), iv (((p4.toUInt32 >>> ((4 : Int32) &&& 31).toUInt32).toInt32) &&& (1 : Int32)), iv (((p4.toUInt32 >>> ((5 : Int32) &&& 31).toUInt32).toInt32) &&& (1 : Int32)), .unset, .unset, .unset, .unset, .unset, .unset, .unset, .unset, .unset, .unset, .unset] at_282 rfl <| c_iloadN X1651 hx hby at_284 rfl <| c_bipush X1651 hx hby 6 at_285 rfl <| c_iushr X1651 hx hby at_287 <| c_iconst X1651 hx hby 1 at_288 rfl <| c_iand X1651 hx hby at_289 <| c_istore X1651 hx hby _ at_290 rfl <| c_iloadN X1651 hx hby at_292 rfl <| c_bipush X1651 hx hby 7 at_293 rfl <| c_iushr X1651 hx hby at_295 <| c_iconst X1651 hx hby 1 at_296 rfl <| c_iand X1651 hx hby at_297 <| c_sh 298 _ rfl rfl <| c_istore X1651 hx hby #[iv p1, iv p2, iv p3, iv p4, iv 2, iv i0, iv i1, iv i2, rv b1632, rv b1636, iv ca0, iv ca1, iv ca2, iv cb0, iv cb1, iv cb2, iv q0, iv q1, iv q2, iv (((p4.toUInt32 >>> ((3 : Int32) &&& 31).toUInt32).toInt32) &&& (1 : Int32)), iv (((p4.toUInt32 >>> ((4 : Int32) &&& 31).toUInt32).toInt32) &&& (1 : Int32)), iv (((p4.toUInt32 >>> ((5 : Int32) &&& 31).toUInt32).toInt32) &&& (1 : Int32)), iv (((p4.toUInt32 >>> ((6 : Int32) &&& 31).toUInt32).toInt32) &&& (1 : Int32)), iv (((p4.toUInt32 >>> ((7 : Int32) &&& 31).toUInt32).toInt32) &&& (1 : Int32)), .unset, .unset, .unset, .unset, .unset, .unset, .unset, .unset, .unset] at_298 rfl <| c_iloadN X1651 hx hby at_300 rfl <| c_bipush X1651 hx hby 8 at_301 rfl <| c_iushr X1651 hx hby at_303 <| c_iconst X1651 hx hby 1 at_304 rfl <| c_iand X1651 hx hby at_305 <| c_istore X1651 hx hby _ at_306 rfl <| c_shL #[iv p1, iv p2, iv p3, iv p4, iv 2, iv i0, iv i1, iv i2, rv b1632, rv b1636, iv ca0, iv ca1, iv ca2, iv cb0, iv cb1, iv cb2, iv q0, iv q1, iv q2, iv (((p4.toUInt32 >>> ((3 : Int32) &&& 31).toUInt32).toInt32) &&& (1 : Int32)), iv (((p4.toUInt32 >>> ((4 : Int32) &&& 31).toUInt32).toInt32) &&& (1 : Int32)), iv (((p4.toUInt32 >>> ((5 : Int32) &&& 31).toUInt32).toInt32) &&& (1 : Int32)), iv (((p4.toUInt32 >>> ((6 : Int32) &&& 31).toUInt32).toInt32) &&& (1 : Int32)), iv (((p4.toUInt32 >>> ((7 : Int32) &&& 31).toUInt32).toInt32) &&& (1 : Int32)), iv (((p4.toUInt32 >>> ((8 : Int32) &&& 31).toUInt32).toInt32) &&& (1 : Int32)), .unset, .unset, .unset, .unset, .unset, .unset, .unset, .unset] rfl ?_
     have hla0 := own_bit ((p4.toUInt32 >>> ((3 : Int32) &&& 31).toUInt32).toInt32)
     generalize (((p4.toUInt32 >>> ((3 : Int32) &&& 31).toUInt32).toInt32) &&& (1 : Int32)) = la0 at hla0 ⊢
     have hla1 := own_bit ((p4.toUInt32 >>> ((4 : Int32) &&& 31).toUInt32).toInt32)
     generalize (((p4.toUInt32 >>> ((4 : Int32) &&& 31).toUInt32).toInt32) &&& (1 : Int32)) = la1 at hla1 ⊢
     have hla2 := own_bit ((p4.toUInt32 >>> ((5 : Int32) &&& 31).toUInt32).toInt32)
     generalize (((p4.toUInt32 >>> ((5 : Int32) &&& 31).toUInt32).toInt32) &&& (1 : Int32)) = la2 at hla2 ⊢
     have hlb0 := own_bit ((p4.toUInt32 >>> ((6 : Int32) &&& 31).toUInt32).toInt32)
     generalize (((p4.toUInt32 >>> ((6 : Int32) &&& 31).toUInt32).toInt32) &&& (1 : Int32)) = lb0 at hlb0 ⊢
     have hlb1 := own_bit ((p4.toUInt32 >>> ((7 : Int32) &&& 31).toUInt32).toInt32)
     generalize (((p4.toUInt32 >>> ((7 : Int32) &&& 31).toUInt32).toInt32) &&& (1 : Int32)) = lb1 at hlb1 ⊢
     have hlb2 := own_bit ((p4.toUInt32 >>> ((8 : Int32) &&& 31).toUInt32).toInt32)
     generalize (((p4.toUInt32 >>> ((8 : Int32) &&& 31).toUInt32).toInt32) &&& (1 : Int32)) = lb2 at hlb2 ⊢
     refine c_sh 308 [] rfl rfl <| c_iconst X1651 hx hby 3 at_308 rfl ?_
     obtain ⟨T1669, h1669, k1669, X1669, e1669, E1669, A1669, AE1669, O1669, st1669⟩ := newRE X1651 hx hZ hown (gw hw 27 rfl) (gw hw 28 rfl) rfl (g := (mkF m 309 #[iv p1, iv p2, iv p3, iv p4, iv 2, iv i0, iv i1, iv i2, rv b1632, rv b1636, iv ca0, iv ca1, iv ca2, iv cb0, iv cb1, iv cb2, iv q0, iv q1, iv q2, iv la0, iv la1, iv la2, iv lb0, iv lb1, iv lb2, .unset, .unset, .unset, .unset, .unset, .unset, .unset, .unset] [.int 3])) rfl (hb hby at_309) rfl (by decide) (cap := 3) (by decide) (by decide) (by decide) (by decide) (ad := "[Ljava/lang/String;") (by first | rfl | decide)
     obtain ⟨b1669, g1669⟩ : ∃ z, z = T1651.heap.size := ⟨_, rfl⟩
     rw [← g1669] at A1669 AE1669 st1669
     have G_b1669 := Nat.le_trans ZN1651 (Nat.le_of_eq g1669.symm)
     have KK1669 := KK1651.ext E1669
     have ZN1669 := Nat.le_trans ZN1651 E1669.1
     have HK1669 := Nat.le_trans HK1651 E1669.1
     have OL1669 := OL1651.ext E1669
     have ch1669 := ch1651.trans (CHr.ext E1669 ch1651.1)
     have V1669 : Arv Z h1669 b1669 k1669 (.object "java/lang/String") (3 : Int32) [.null, .null, .null] .null := (Arv.new A1669 (by decide)).pad (pad_rep [] .null 3)
     refine go st1669 ?_
     show Go _ p e below s _ _ _ (T1669.setTop (mkF m 312 #[iv p1, iv p2, iv p3, iv p4, iv 2, iv i0, iv i1, iv i2, rv b1632, rv b1636, iv ca0, iv ca1, iv ca2, iv cb0, iv cb1, iv cb2, iv q0, iv q1, iv q2, iv la0, iv la1, iv la2, iv lb0, iv lb1, iv lb2, .unset, .unset, .unset, .unset, .unset, .unset, .unset, .unset] [.ref b1669]))
     refine c_dup X1669 hx hby at_312 rfl <| c_iconst X1669 hx hby 0 at_313 rfl <| c_iload X1669 hx hby at_314 rfl <| c_iload X1669 hx hby at_316 rfl <| c_callSH X1669 hx hby hZ hown hml (gw hw 29 rfl) (gw hw 30 rfl) (gw hw 31 rfl) (gw hw 32 rfl) e1669 (own_EW hw) ch1669 hS1650 HK1669 (rmMK hw la0 ca0 w0 h1669 n0 ZN1669 P1 OL1669 hw0 hla0 hca0) pd_22 rfl at_318 [.int 0, .ref b1669, .ref b1669] rfl 3 (by decide) rfl rfl fun o1670 T1670 L1670 X1670 hS1670 hZ hown hR1670 ch1670 hQ1670 => ?_
     obtain ⟨b1670, bb1670, kb1670, rfl, N1670q, u1670_0, u1670_1, K1670, u1670_3, u1670_4, u1670_5, u1670_6⟩ := hQ1670
     have N1670 := Fr.app N1651 N1670q
     have G_b1670 := Nat.le_trans ZN1669 u1670_0
     have KK1670 := KK1669.trans K1670 all0
     have ZN1670 := Nat.le_trans ZN1669 K1670.1
     have OL1670 := OL1669.keep K1670 all0
     refine c_sh 321 [.ref b1670, .int 0, .ref b1669, .ref b1669] rfl rfl ?_
     have cc1671 := V1669.keep K1670 nin0
     obtain ⟨cl1672, Ar1672, q1672, Sz1672, Nz1672, Hs1672, Gs1672⟩ := id cc1671
     have hin1672 : ¬ ((0 : Int32) < 0 ∨ cl1672.slots.size ≤ ((0 : Int32)).toNatClampNeg) := inb_of Sz1672 ⟨by decide, by decide⟩
     obtain ⟨T1672, h1672, X1672, e1672, W1672, st1672⟩ := stR X1670 hx hZ rfl Ar1672 (j := (0 : Int32)) hin1672 rfl (Sto.ofV Ar1672 q1672 O1669 (Ins.self u1670_3)) (g := (mkF m 321 #[iv p1, iv p2, iv p3, iv p4, iv 2, iv i0, iv i1, iv i2, rv b1632, rv b1636, iv ca0, iv ca1, iv ca2, iv cb0, iv cb1, iv cb2, iv q0, iv q1, iv q2, iv la0, iv la1, iv la2, iv lb0, iv lb1, iv lb2, .unset, .unset, .unset, .unset, .unset, .unset, .unset, .unset] [.ref b1670, .int 0, .ref b1669, .ref b1669])) rfl rfl (hb hby at_321)
     have V1672 := Arv.set Ar1672 q1672 Sz1672 Nz1672 Hs1672 Gs1672 rfl W1672 0 rfl (Nat.le_of_ble_eq_true rfl)
     have VV1672 : Arv Z h1672 b1669 k1669 (.object "java/lang/String") (3 : Int32) [(.ref b1670), .null, .null] .null := V1672
     have cc1673 := AE1669.keep K1670
     have ne1674 : b1632 ≠ b1669 := (Nat.ne_of_lt (Nat.lt_of_lt_of_le (((((((cc1635.wr W1634).ext E1636).keep K1637).ext E1642).keep K1643).ext E1650).keep K1651).lt (Nat.le_of_eq g1669.symm)))
     have ne1675 : b1636 ≠ b1669 := (Nat.ne_of_lt (Nat.lt_of_lt_of_le (cc1652.keep K1651).lt (Nat.le_of_eq g1669.symm)))
     have ne1676 : b1643 ≠ b1669 := (Nat.ne_of_lt (Nat.lt_of_lt_of_le u1651_4.lt (Nat.le_of_eq g1669.symm)))
     have ne1677 : b1670 ≠ b1669 := (Ne.symm (Nat.ne_of_lt (Nat.lt_of_lt_of_le AE1669.lt u1670_0)))
     have ne1678 : bb1670 ≠ b1669 := (own_tyne u1670_6 cc1671 (by decide))
     have KK1672 := KK1670.wr W1672 (Or.inr (Nat.le_trans KK1651.1 (Nat.le_of_eq g1669.symm)))
     have ZN1672 := Nat.le_trans ZN1670 (Keep.of_wr W1672).1
     have HK1672 : T1670.heap.size ≤ h1672.size := Nat.le_trans (Nat.le_refl _) (Keep.of_wr W1672).1
     have NN1672 := Fr.snoc X1672 N1670 G_b1669
     have OL1672 := OL1670.wr W1672 G_b1669
     have ch1672 := ch1670.trans (CHr.wr W1672 (Safe.exa hZ.alike cc1673 (by decide) (by decide)) ch1670.1)
     refine go st1672 ?_
     show Go _ p e below s _ _ _ (T1672.setTop (mkF m 322 #[iv p1, iv p2, iv p3, iv p4, iv 2, iv i0, iv i1, iv i2, rv b1632, rv b1636, iv ca0, iv ca1, iv ca2, iv cb0, iv cb1, iv cb2, iv q0, iv q1, iv q2, iv la0, iv la1, iv la2, iv lb0, iv lb1, iv lb2, .unset, .unset, .unset, .unset, .unset, .unset, .unset, .unset] [.ref b1669]))
     refine c_dup X1672 hx hby at_322 rfl <| c_iconst X1672 hx hby 1 at_323 rfl <| c_iload X1672 hx hby at_324 rfl <| c_iload X1672 hx hby at_326 rfl <| c_callSH X1672 hx hby hZ hown hml (gw hw 29 rfl) (gw hw 30 rfl) (gw hw 31 rfl) (gw hw 32 rfl) e1672 (own_EW hw) ch1672 hS1670 HK1672 (rmMK hw la1 ca1 w0 h1672 n0 ZN1672 P1 OL1672 hw0 hla1 hca1) pd_22 rfl at_328 [.int 1, .ref b1669, .ref b1669] rfl 3 (by decide) rfl rfl fun o1679 T1679 L1679 X1679 hS1679 hZ hown hR1679 ch1679 hQ1679 => ?_
     obtain ⟨b1679, bb1679, kb1679, rfl, N1679q, u1679_0, u1679_1, K1679, u1679_3, u1679_4, u1679_5, u1679_6⟩ := hQ1679
     have N1679 := Fr.app NN1672 N1679q
     have G_b1679 := Nat.le_trans ZN1672 u1679_0
     have KK1679 := KK1672.trans K1679 all0
     have ZN1679 := Nat.le_trans ZN1672 K1679.1
     have OL1679 := OL1672.keep K1679 all0
     refine c_sh 331 [.ref b1679, .int 1, .ref b1669, .ref b1669] rfl rfl ?_
     have cc1680 := VV1672.keep K1679 nin0
     obtain ⟨cl1681, Ar1681, q1681, Sz1681, Nz1681, Hs1681, Gs1681⟩ := id cc1680
     have hin1681 : ¬ ((1 : Int32) < 0 ∨ cl1681.slots.size ≤ ((1 : Int32)).toNatClampNeg) := inb_of Sz1681 ⟨by decide, by decide⟩
     obtain ⟨T1681, h1681, X1681, e1681, W1681, st1681⟩ := stR X1679 hx hZ rfl Ar1681 (j := (1 : Int32)) hin1681 rfl (Sto.ofV Ar1681 q1681 O1669 (Ins.self u1679_3)) (g := (mkF m 331 #[iv p1, iv p2, iv p3, iv p4, iv 2, iv i0, iv i1, iv i2, rv b1632, rv b1636, iv ca0, iv ca1, iv ca2, iv cb0, iv cb1, iv cb2, iv q0, iv q1, iv q2, iv la0, iv la1, iv la2, iv lb0, iv lb1, iv lb2, .unset, .unset, .unset, .unset, .unset, .unset, .unset, .unset] [.ref b1679, .int 1, .ref b1669, .ref b1669])) rfl rfl (hb hby at_331)
     have V1681 := Arv.set Ar1681 q1681 Sz1681 Nz1681 Hs1681 Gs1681 rfl W1681 1 rfl (Nat.le_of_ble_eq_true rfl)
     have VV1681 : Arv Z h1681 b1669 k1669 (.object "java/lang/String") (3 : Int32) [(.ref b1670), (.ref b1679), .null] .null := V1681
     have cc1682 := (cc1673.wr W1672).keep K1679
     have ne1683 : b1679 ≠ b1669 := (Ne.symm (Nat.ne_of_lt (Nat.lt_of_lt_of_le (cc1673.wr W1672).lt u1679_0)))
     have ne1684 : bb1679 ≠ b1669 := (own_tyne u1679_6 cc1680 (by decide))
     have KK1681 := KK1679.wr W1681 (Or.inr (Nat.le_trans KK1651.1 (Nat.le_of_eq g1669.symm)))
     have ZN1681 := Nat.le_trans ZN1679 (Keep.of_wr W1681).1
     have HK1681 : T1679.heap.size ≤ h1681.size := Nat.le_trans (Nat.le_refl _) (Keep.of_wr W1681).1
     have NN1681 := Fr.snoc X1681 N1679 G_b1669
     have OL1681 := OL1679.wr W1681 G_b1669
     have ch1681 := ch1679.trans (CHr.wr W1681 (Safe.exa hZ.alike cc1682 (by decide) (by decide)) ch1679.1)
     refine go st1681 ?_
     show Go _ p e below s _ _ _ (T1681.setTop (mkF m 332 #[iv p1, iv p2, iv p3, iv p4, iv 2, iv i0, iv i1, iv i2, rv b1632, rv b1636, iv ca0, iv ca1, iv ca2, iv cb0, iv cb1, iv cb2, iv q0, iv q1, iv q2, iv la0, iv la1, iv la2, iv lb0, iv lb1, iv lb2, .unset, .unset, .unset, .unset, .unset, .unset, .unset, .unset] [.ref b1669]))
     refine c_dup X1681 hx hby at_332 rfl <| c_iconst X1681 hx hby 2 at_333 rfl <| c_iload X1681 hx hby at_334 rfl <| c_iload X1681 hx hby at_336 rfl <| c_callSH X1681 hx hby hZ hown hml (gw hw 29 rfl) (gw hw 30 rfl) (gw hw 31 rfl) (gw hw 32 rfl) e1681 (own_EW hw) ch1681 hS1679 HK1681 (rmMK hw la2 ca2 w0 h1681 n0 ZN1681 P1 OL1681 hw0 hla2 hca2) pd_22 rfl at_338 [.int 2, .ref b1669, .ref b1669] rfl 3 (by decide) rfl rfl fun o1685 T1685 L1685 X1685 hS1685 hZ hown hR1685 ch1685 hQ1685 => ?_
     obtain ⟨b1685, bb1685, kb1685, rfl, N1685q, u1685_0, u1685_1, K1685, u1685_3, u1685_4, u1685_5, u1685_6⟩ := hQ1685
     have N1685 := Fr.app NN1681 N1685q
     have G_b1685 := Nat.le_trans ZN1681 u1685_0
     have KK1685 := KK1681.trans K1685 all0
     have ZN1685 := Nat.le_trans ZN1681 K1685.1
     have OL1685 := OL1681.keep K1685 all0
     refine c_sh 341 [.ref b1685, .int 2, .ref b1669, .ref b1669] rfl rfl ?_
     have cc1686 := VV1681.keep K1685 nin0
     obtain ⟨cl1687, Ar1687, q1687, Sz1687, Nz1687, Hs1687, Gs1687⟩ := id cc1686
     have hin1687 : ¬ ((2 : Int32) < 0 ∨ cl1687.slots.size ≤ ((2 : Int32)).toNatClampNeg) := inb_of Sz1687 ⟨by decide, by decide⟩
     obtain ⟨T1687, h1687, X1687, e1687, W1687, st1687⟩ := stR X1685 hx hZ rfl Ar1687 (j := (2 : Int32)) hin1687 rfl (Sto.ofV Ar1687 q1687 O1669 (Ins.self u1685_3)) (g := (mkF m 341 #[iv p1, iv p2, iv p3, iv p4, iv 2, iv i0, iv i1, iv i2, rv b1632, rv b1636, iv ca0, iv ca1, iv ca2, iv cb0, iv cb1, iv cb2, iv q0, iv q1, iv q2, iv la0, iv la1, iv la2, iv lb0, iv lb1, iv lb2, .unset, .unset, .unset, .unset, .unset, .unset, .unset, .unset] [.ref b1685, .int 2, .ref b1669, .ref b1669])) rfl rfl (hb hby at_341)
     have V1687 := Arv.set Ar1687 q1687 Sz1687 Nz1687 Hs1687 Gs1687 rfl W1687 2 rfl (Nat.le_of_ble_eq_true rfl)
     have VV1687 : Arv Z h1687 b1669 k1669 (.object "java/lang/String") (3 : Int32) [(.ref b1670), (.ref b1679), (.ref b1685)] .null := V1687
     have cc1688 := (cc1682.wr W1681).keep K1685
     have ne1689 : b1685 ≠ b1669 := (Ne.symm (Nat.ne_of_lt (Nat.lt_of_lt_of_le (cc1682.wr W1681).lt u1685_0)))
     have ne1690 : bb1685 ≠ b1669 := (own_tyne u1685_6 cc1686 (by decide))
     have KK1687 := KK1685.wr W1687 (Or.inr (Nat.le_trans KK1651.1 (Nat.le_of_eq g1669.symm)))
     have ZN1687 := Nat.le_trans ZN1685 (Keep.of_wr W1687).1
     have HK1687 : T1685.heap.size ≤ h1687.size := Nat.le_trans (Nat.le_refl _) (Keep.of_wr W1687).1
     have NN1687 := Fr.snoc X1687 N1685 G_b1669
     have OL1687 := OL1685.wr W1687 G_b1669
     have ch1687 := ch1685.trans (CHr.wr W1687 (Safe.exa hZ.alike cc1688 (by decide) (by decide)) ch1685.1)
     refine go st1687 ?_
     show Go _ p e below s _ _ _ (T1687.setTop (mkF m 342 #[iv p1, iv p2, iv p3, iv p4, iv 2, iv i0, iv i1, iv i2, rv b1632, rv b1636, iv ca0, iv ca1, iv ca2, iv cb0, iv cb1, iv cb2, iv q0, iv q1, iv q2, iv la0, iv la1, iv la2, iv lb0, iv lb1, iv lb2, .unset, .unset, .unset, .unset, .unset, .unset, .unset, .unset] [.ref b1669]))
     refine c_astore X1687 hx hby _ at_342 rfl rfl <| c_iconst X1687 hx hby 3 at_344 rfl <| c_shL #[iv p1, iv p2, iv p3, iv p4, iv 2, iv i0, iv i1, iv i2, rv b1632, rv b1636, iv ca0, iv ca1, iv ca2, iv cb0, iv cb1, iv cb2, iv q0, iv q1, iv q2, iv la0, iv la1, iv la2, iv lb0, iv lb1, iv lb2, rv b1669, .unset, .unset, .unset, .unset, .unset, .unset, .unset] rfl ?_
     obtain ⟨T1691, h1691, k1691, X1691, e1691, E1691, A1691, AE1691, O1691, st1691⟩ := newRE X1687 hx hZ hown (gw hw 27 rfl) (gw hw 28 rfl) e1687 (g := (mkF m 345 #[iv p1, iv p2, iv p3, iv p4, iv 2, iv i0, iv i1, iv i2, rv b1632, rv b1636, iv ca0, iv ca1, iv ca2, iv cb0, iv cb1, iv cb2, iv q0, iv q1, iv q2, iv la0, iv la1, iv la2, iv lb0, iv lb1, iv lb2, rv b1669, .unset, .unset, .unset, .unset, .unset, .unset, .unset] [.int 3])) rfl (hb hby at_345) rfl (by decide) (cap := 3) (by decide) (by decide) (by decide) (by decide) (ad := "[Ljava/lang/String;") (by first | rfl | decide)
     obtain ⟨b1691, g1691⟩ : ∃ z, z = h1687.size := ⟨_, rfl⟩
     rw [← g1691] at A1691 AE1691 st1691
     have G_b1691 := Nat.le_trans ZN1687 (Nat.le_of_eq g1691.symm)
     have KK1691 := KK1687.ext E1691
     have ZN1691 := Nat.le_trans ZN1687 E1691.1
     have HK1691 := Nat.le_trans HK1687 E1691.1
     have OL1691 := OL1687.ext E1691
     have ch1691 := ch1687.trans (CHr.ext E1691 ch1687.1)
     have V1691 : Arv Z h1691 b1691 k1691 (.object "java/lang/String") (3 : Int32) [.null, .null, .null] .null := (Arv.new A1691 (by decide)).pad (pad_rep [] .null 3)
     refine go st1691 ?_
     show Go _ p e below s _ _ _ (T1691.setTop (mkF m 348 #[iv p1, iv p2, iv p3, iv p4, iv 2, iv i0, iv i1, iv i2, rv b1632, rv b1636, iv ca0, iv ca1, iv ca2, iv cb0, iv cb1, iv cb2, iv q0, iv q1, iv q2, iv la0, iv la1, iv la2, iv lb0, iv lb1, iv lb2, rv b1669, .unset, .unset, .unset, .unset, .unset, .unset, .unset] [.ref b1691]))
     refine c_dup X1691 hx hby at_348 rfl <| c_iconst X1691 hx hby 0 at_349 rfl ?_
     have JO0_1692 : ∀ (o0 : Addr) (ov0 : Addr) (ok0 : ClassId) (lo0 : Int32) (co0 : Int32) (T1693 : State) (locs1693 : List Loc) (_ : Stand p l e room_1 (s.setVm T1693.vm) m #[.int p1, .int p2, .int p3, .int p4] below meth c T1693 locs1693 33 85) (_ : s.Since T1693.vm T1693.heap.size) (_ : Z.Warmed39 T1693.vm) (_ : T1693.vm.findClass "com/example/raccordo/raccordo/flow/XmlElementSameAttributesPinLaw" = some m.cls) (_ : Fr n0 locs1693) (_ : Keep h0 T1693.heap []) (_ : n0 ≤ T1693.heap.size) (_ : Old Z n0 T1693.heap) (_ : CHr Z own_EL s.vm h0 T1693.vm T1693.heap) (_ : Exa Z T1693.heap b1632 "[I") (_ : Arv Z T1693.heap b1632 k1632 .int (2 : Int32) [(.int i0), (.int i1)] (.int (0 : Int32))) (_ : Exa Z T1693.heap b1636 "java/util/ArrayList") (_ : eS Z T1693.heap t1642) (_ : Exa Z T1693.heap b1643 "[Ljava/lang/Object;") (_ : eS Z T1693.heap t1650) (_ : Fld Z T1693.heap b1636 "java/util/ArrayList" "size" "I" (.int (2 : Int32))) (_ : Fld Z T1693.heap b1636 "java/util/ArrayList" "elementData" "[Ljava/lang/Object;" (.ref b1643)) (_ : Arv Z T1693.heap b1643 k1643 (.object "java/lang/Object") (10 : Int32) [(.ref t1642), (.ref t1650), .null, .null, .null, .null, .null, .null, .null, .null] .null) (_ : Exa Z T1693.heap b1669 "[Ljava/lang/String;") (_ : Arv Z T1693.heap b1669 k1669 (.object "java/lang/String") (3 : Int32) [(.ref b1670), (.ref b1679), (.ref b1685)] .null) (_ : eS Z T1693.heap b1670) (_ : fC Z T1693.heap b1670) (_ : fV Z T1693.heap b1670 bb1670) (_ : Arv Z T1693.heap bb1670 kb1670 .byte la0 (own_vs la0 ca0) (.int (0 : Int32))) (_ : eS Z T1693.heap b1679) (_ : fC Z T1693.heap b1679) (_ : fV Z T1693.heap b1679 bb1679) (_ : Arv Z T1693.heap bb1679 kb1679 .byte la1 (own_vs la1 ca1) (.int (0 : Int32))) (_ : eS Z T1693.heap b1685) (_ : fC Z T1693.heap b1685) (_ : fV Z T1693.heap b1685 bb1685) (_ : Arv Z T1693.heap bb1685 kb1685 .byte la2 (own_vs la2 ca2) (.int (0 : Int32))) (_ : Exa Z T1693.heap b1691 "[Ljava/lang/String;") (_ : Arv Z T1693.heap b1691 k1691 (.object "java/lang/String") (3 : Int32) [.null, .null, .null] .null) (_ : eS Z T1693.heap o0) (_ : fC Z T1693.heap o0) (_ : fV Z T1693.heap o0 ov0) (_ : Arv Z T1693.heap ov0 ok0 .byte lo0 (own_vs lo0 co0) (.int (0 : Int32))) (_ : h1691.size ≤ o0), (own_o q0 la0 ca0 lb0 cb0 lo0 co0) → (lo0 = 0 ∨ lo0 = 1) → (own_ch co0) → Go (own_EndH Z) p e below s room_1.cells room_1.slots (Q0 Z p1 p2 p3 p4 w0 d0 kd el em mr h0 n0) (T1693.setTop (mkF m 372 #[iv p1, iv p2, iv p3, iv p4, iv 2, iv i0, iv i1, iv i2, rv b1632, rv b1636, iv ca0, iv ca1, iv ca2, iv cb0, iv cb1, iv cb2, iv q0, iv q1, iv q2, iv la0, iv la1, iv la2, iv lb0, iv lb1, iv lb2, rv b1669, .unset, .unset, .unset, .unset, .unset, .unset, .unset] [.ref o0, .int 0, .ref b1691, .ref b1691])) := by
      intro o0 ov0 ok0 lo0 co0 T1693 locs1693 X1693 hS1693 hZ hown NF1693 KK1693 ZN1693 OL1693 ch1693 ff1693_0 ff1693_1 ff1693_2 ff1693_3 ff1693_4 ff1693_5 ff1693_6 ff1693_7 ff1693_8 ff1693_9 ff1693_10 ff1693_11 ff1693_12 ff1693_13 ff1693_14 ff1693_15 ff1693_16 ff1693_17 ff1693_18 ff1693_19 ff1693_20 ff1693_21 ff1693_22 ff1693_23 ff1693_24 ff1693_25 ff1693_26 ff1693_27 ff1693_28 fz1693_0 ho0 hlo0 hco0
      have G_o0 := Nat.le_trans ZN1691 fz1693_0
      obtain ⟨cl1694, Ar1694, q1694, Sz1694, Nz1694, Hs1694, Gs1694⟩ := id ff1693_24
      have hin1694 : ¬ ((0 : Int32) < 0 ∨ cl1694.slots.size ≤ ((0 : Int32)).toNatClampNeg) := inb_of Sz1694 ⟨by decide, by decide⟩
      obtain ⟨T1694, h1694, X1694, e1694, W1694, st1694⟩ := stR X1693 hx hZ rfl Ar1694 (j := (0 : Int32)) hin1694 rfl (Sto.ofV Ar1694 q1694 O1691 (Ins.self ff1693_25)) (g := (mkF m 372 #[iv p1, iv p2, iv p3, iv p4, iv 2, iv i0, iv i1, iv i2, rv b1632, rv b1636, iv ca0, iv ca1, iv ca2, iv cb0, iv cb1, iv cb2, iv q0, iv q1, iv q2, iv la0, iv la1, iv la2, iv lb0, iv lb1, iv lb2, rv b1669, .unset, .unset, .unset, .unset, .unset, .unset, .unset] [.ref o0, .int 0, .ref b1691, .ref b1691])) rfl rfl (hb hby at_372)
      have V1694 := Arv.set Ar1694 q1694 Sz1694 Nz1694 Hs1694 Gs1694 rfl W1694 0 rfl (Nat.le_of_ble_eq_true rfl)
      have VV1694 : Arv Z h1694 b1691 k1691 (.object "java/lang/String") (3 : Int32) [(.ref o0), .null, .null] .null := V1694
      have ne1695 : b1632 ≠ b1691 := (Nat.ne_of_lt (Nat.lt_of_lt_of_le ((((((((((((((cc1635.wr W1634).ext E1636).keep K1637).ext E1642).keep K1643).ext E1650).keep K1651).ext E1669).keep K1670).wr W1672).keep K1679).wr W1681).keep K1685).wr W1687).lt (Nat.le_of_eq g1691.symm)))
      have ne1696 : b1636 ≠ b1691 := (Nat.ne_of_lt (Nat.lt_of_lt_of_le ((((((((cc1652.keep K1651).ext E1669).keep K1670).wr W1672).keep K1679).wr W1681).keep K1685).wr W1687).lt (Nat.le_of_eq g1691.symm)))
      have ne1697 : b1643 ≠ b1691 := (Nat.ne_of_lt (Nat.lt_of_lt_of_le (((((((u1651_4.ext E1669).keep K1670).wr W1672).keep K1679).wr W1681).keep K1685).wr W1687).lt (Nat.le_of_eq g1691.symm)))
      have ne1698 : b1669 ≠ b1691 := (Nat.ne_of_lt (Nat.lt_of_lt_of_le (cc1688.wr W1687).lt (Nat.le_of_eq g1691.symm)))
      have ne1699 : b1670 ≠ b1691 := (Nat.ne_of_lt (Nat.lt_of_lt_of_le (((((u1670_3.wr W1672).keep K1679).wr W1681).keep K1685).wr W1687).lt (Nat.le_of_eq g1691.symm)))
      have ne1700 : bb1670 ≠ b1691 := (Nat.ne_of_lt (Nat.lt_of_lt_of_le (((((u1670_6.other W1672 ne1678).keep K1679 nin0).other W1681 ne1678).keep K1685 nin0).other W1687 ne1678).lt (Nat.le_of_eq g1691.symm)))
      have ne1701 : b1679 ≠ b1691 := (Nat.ne_of_lt (Nat.lt_of_lt_of_le (((u1679_3.wr W1681).keep K1685).wr W1687).lt (Nat.le_of_eq g1691.symm)))
      have ne1702 : bb1679 ≠ b1691 := (Nat.ne_of_lt (Nat.lt_of_lt_of_le (((u1679_6.other W1681 ne1684).keep K1685 nin0).other W1687 ne1684).lt (Nat.le_of_eq g1691.symm)))
      have ne1703 : b1685 ≠ b1691 := (Nat.ne_of_lt (Nat.lt_of_lt_of_le (u1685_3.wr W1687).lt (Nat.le_of_eq g1691.symm)))
      have ne1704 : bb1685 ≠ b1691 := (Nat.ne_of_lt (Nat.lt_of_lt_of_le (u1685_6.other W1687 ne1690).lt (Nat.le_of_eq g1691.symm)))
      have ne1705 : o0 ≠ b1691 := (Ne.symm (Nat.ne_of_lt (Nat.lt_of_lt_of_le AE1691.lt fz1693_0)))
      have ne1706 : ov0 ≠ b1691 := (own_tyne ff1693_28 ff1693_24 (by decide))
      have KK1694 := KK1693.wr W1694 (Or.inr (Nat.le_trans KK1687.1 (Nat.le_of_eq g1691.symm)))
      have ZN1694 := Nat.le_trans ZN1693 (Keep.of_wr W1694).1
      have HK1694 : T1693.heap.size ≤ h1694.size := Nat.le_trans (Nat.le_refl _) (Keep.of_wr W1694).1
      have NN1694 := Fr.snoc X1694 NF1693 G_b1691
      have OL1694 := OL1693.wr W1694 G_b1691
      have ch1694 := ch1693.trans (CHr.wr W1694 (Safe.exa hZ.alike ff1693_23 (by decide) (by decide)) ch1693.1)
      refine go st1694 ?_
      show Go _ p e below s _ _ _ (T1694.setTop (mkF m 373 #[iv p1, iv p2, iv p3, iv p4, iv 2, iv i0, iv i1, iv i2, rv b1632, rv b1636, iv ca0, iv ca1, iv ca2, iv cb0, iv cb1, iv cb2, iv q0, iv q1, iv q2, iv la0, iv la1, iv la2, iv lb0, iv lb1, iv lb2, rv b1669, .unset, .unset, .unset, .unset, .unset, .unset, .unset] [.ref b1691]))
      refine c_dup X1694 hx hby at_373 rfl <| c_iconst X1694 hx hby 1 at_374 rfl ?_
      have JO1_1707 : ∀ (o1 : Addr) (ov1 : Addr) (ok1 : ClassId) (lo1 : Int32) (co1 : Int32) (T1708 : State) (locs1708 : List Loc) (_ : Stand p l e room_1 (s.setVm T1708.vm) m #[.int p1, .int p2, .int p3, .int p4] below meth c T1708 locs1708 39 97) (_ : s.Since T1708.vm T1708.heap.size) (_ : Z.Warmed39 T1708.vm) (_ : T1708.vm.findClass "com/example/raccordo/raccordo/flow/XmlElementSameAttributesPinLaw" = some m.cls) (_ : Fr n0 locs1708) (_ : Keep h0 T1708.heap []) (_ : n0 ≤ T1708.heap.size) (_ : Old Z n0 T1708.heap) (_ : CHr Z own_EL s.vm h0 T1708.vm T1708.heap) (_ : Exa Z T1708.heap b1632 "[I") (_ : Arv Z T1708.heap b1632 k1632 .int (2 : Int32) [(.int i0), (.int i1)] (.int (0 : Int32))) (_ : Exa Z T1708.heap b1636 "java/util/ArrayList") (_ : eS Z T1708.heap t1642) (_ : Exa Z T1708.heap b1643 "[Ljava/lang/Object;") (_ : eS Z T1708.heap t1650) (_ : Fld Z T1708.heap b1636 "java/util/ArrayList" "size" "I" (.int (2 : Int32))) (_ : Fld Z T1708.heap b1636 "java/util/ArrayList" "elementData" "[Ljava/lang/Object;" (.ref b1643)) (_ : Arv Z T1708.heap b1643 k1643 (.object "java/lang/Object") (10 : Int32) [(.ref t1642), (.ref t1650), .null, .null, .null, .null, .null, .null, .null, .null] .null) (_ : Exa Z T1708.heap b1669 "[Ljava/lang/String;") (_ : Arv Z T1708.heap b1669 k1669 (.object "java/lang/String") (3 : Int32) [(.ref b1670), (.ref b1679), (.ref b1685)] .null) (_ : eS Z T1708.heap b1670) (_ : fC Z T1708.heap b1670) (_ : fV Z T1708.heap b1670 bb1670) (_ : Arv Z T1708.heap bb1670 kb1670 .byte la0 (own_vs la0 ca0) (.int (0 : Int32))) (_ : eS Z T1708.heap b1679) (_ : fC Z T1708.heap b1679) (_ : fV Z T1708.heap b1679 bb1679) (_ : Arv Z T1708.heap bb1679 kb1679 .byte la1 (own_vs la1 ca1) (.int (0 : Int32))) (_ : eS Z T1708.heap b1685) (_ : fC Z T1708.heap b1685) (_ : fV Z T1708.heap b1685 bb1685) (_ : Arv Z T1708.heap bb1685 kb1685 .byte la2 (own_vs la2 ca2) (.int (0 : Int32))) (_ : Exa Z T1708.heap b1691 "[Ljava/lang/String;") (_ : Arv Z T1708.heap b1691 k1691 (.object "java/lang/String") (3 : Int32) [(.ref o0), .null, .null] .null) (_ : eS Z T1708.heap o0) (_ : fC Z T1708.heap o0) (_ : fV Z T1708.heap o0 ov0) (_ : Arv Z T1708.heap ov0 ok0 .byte lo0 (own_vs lo0 co0) (.int (0 : Int32))) (_ : eS Z T1708.heap o1) (_ : fC Z T1708.heap o1) (_ : fV Z T1708.heap o1 ov1) (_ : Arv Z T1708.heap ov1 ok1 .byte lo1 (own_vs lo1 co1) (.int (0 : Int32))) (_ : h1694.size ≤ o1), (own_o q1 la1 ca1 lb1 cb1 lo1 co1) → (lo1 = 0 ∨ lo1 = 1) → (own_ch co1) → Go (own_EndH Z) p e below s room_1.cells room_1.slots (Q0 Z p1 p2 p3 p4 w0 d0 kd el em mr h0 n0) (T1708.setTop (mkF m 397 #[iv p1, iv p2, iv p3, iv p4, iv 2, iv i0, iv i1, iv i2, rv b1632, rv b1636, iv ca0, iv ca1, iv ca2, iv cb0, iv cb1, iv cb2, iv q0, iv q1, iv q2, iv la0, iv la1, iv la2, iv lb0, iv lb1, iv lb2, rv b1669, .unset, .unset, .unset, .unset, .unset, .unset, .unset] [.ref o1, .int 1, .ref b1691, .ref b1691])) := by
       intro o1 ov1 ok1 lo1 co1 T1708 locs1708 X1708 hS1708 hZ hown NF1708 KK1708 ZN1708 OL1708 ch1708 ff1708_0 ff1708_1 ff1708_2 ff1708_3 ff1708_4 ff1708_5 ff1708_6 ff1708_7 ff1708_8 ff1708_9 ff1708_10 ff1708_11 ff1708_12 ff1708_13 ff1708_14 ff1708_15 ff1708_16 ff1708_17 ff1708_18 ff1708_19 ff1708_20 ff1708_21 ff1708_22 ff1708_23 ff1708_24 ff1708_25 ff1708_26 ff1708_27 ff1708_28 ff1708_29 ff1708_30 ff1708_31 ff1708_32 fz1708_0 ho1 hlo1 hco1
       have G_o1 := Nat.le_trans ZN1694 fz1708_0
       obtain ⟨cl1709, Ar1709, q1709, Sz1709, Nz1709, Hs1709, Gs1709⟩ := id ff1708_24
       have hin1709 : ¬ ((1 : Int32) < 0 ∨ cl1709.slots.size ≤ ((1 : Int32)).toNatClampNeg) := inb_of Sz1709 ⟨by decide, by decide⟩
       obtain ⟨T1709, h1709, X1709, e1709, W1709, st1709⟩ := stR X1708 hx hZ rfl Ar1709 (j := (1 : Int32)) hin1709 rfl (Sto.ofV Ar1709 q1709 O1691 (Ins.self ff1708_29)) (g := (mkF m 397 #[iv p1, iv p2, iv p3, iv p4, iv 2, iv i0, iv i1, iv i2, rv b1632, rv b1636, iv ca0, iv ca1, iv ca2, iv cb0, iv cb1, iv cb2, iv q0, iv q1, iv q2, iv la0, iv la1, iv la2, iv lb0, iv lb1, iv lb2, rv b1669, .unset, .unset, .unset, .unset, .unset, .unset, .unset] [.ref o1, .int 1, .ref b1691, .ref b1691])) rfl rfl (hb hby at_397)
       have V1709 := Arv.set Ar1709 q1709 Sz1709 Nz1709 Hs1709 Gs1709 rfl W1709 1 rfl (Nat.le_of_ble_eq_true rfl)
       have VV1709 : Arv Z h1709 b1691 k1691 (.object "java/lang/String") (3 : Int32) [(.ref o0), (.ref o1), .null] .null := V1709
       have ne1710 : o1 ≠ b1691 := (Ne.symm (Nat.ne_of_lt (Nat.lt_of_lt_of_le (ff1693_23.wr W1694).lt fz1708_0)))
       have ne1711 : ov1 ≠ b1691 := (own_tyne ff1708_32 ff1708_24 (by decide))
       have KK1709 := KK1708.wr W1709 (Or.inr (Nat.le_trans KK1687.1 (Nat.le_of_eq g1691.symm)))
       have ZN1709 := Nat.le_trans ZN1708 (Keep.of_wr W1709).1
       have HK1709 : T1708.heap.size ≤ h1709.size := Nat.le_trans (Nat.le_refl _) (Keep.of_wr W1709).1
       have NN1709 := Fr.snoc X1709 NF1708 G_b1691
       have OL1709 := OL1708.wr W1709 G_b1691
       have ch1709 := ch1708.trans (CHr.wr W1709 (Safe.exa hZ.alike ff1708_23 (by decide) (by decide)) ch1708.1)
       refine go st1709 ?_
       show Go _ p e below s _ _ _ (T1709.setTop (mkF m 398 #[iv p1, iv p2, iv p3, iv p4, iv 2, iv i0, iv i1, iv i2, rv b1632, rv b1636, iv ca0, iv ca1, iv ca2, iv cb0, iv cb1, iv cb2, iv q0, iv q1, iv q2, iv la0, iv la1, iv la2, iv lb0, iv lb1, iv lb2, rv b1669, .unset, .unset, .unset, .unset, .unset, .unset, .unset] [.ref b1691]))
       refine c_dup X1709 hx hby at_398 rfl <| c_iconst X1709 hx hby 2 at_399 rfl ?_
       have JO2_1712 : ∀ (o2 : Addr) (ov2 : Addr) (ok2 : ClassId) (lo2 : Int32) (co2 : Int32) (T1713 : State) (locs1713 : List Loc) (_ : Stand p l e room_1 (s.setVm T1713.vm) m #[.int p1, .int p2, .int p3, .int p4] below meth c T1713 locs1713 45 109) (_ : s.Since T1713.vm T1713.heap.size) (_ : Z.Warmed39 T1713.vm) (_ : T1713.vm.findClass "com/example/raccordo/raccordo/flow/XmlElementSameAttributesPinLaw" = some m.cls) (_ : Fr n0 locs1713) (_ : Keep h0 T1713.heap []) (_ : n0 ≤ T1713.heap.size) (_ : Old Z n0 T1713.heap) (_ : CHr Z own_EL s.vm h0 T1713.vm T1713.heap) (_ : Exa Z T1713.heap b1632 "[I") (_ : Arv Z T1713.heap b1632 k1632 .int (2 : Int32) [(.int i0), (.int i1)] (.int (0 : Int32))) (_ : Exa Z T1713.heap b1636 "java/util/ArrayList") (_ : eS Z T1713.heap t1642) (_ : Exa Z T1713.heap b1643 "[Ljava/lang/Object;") (_ : eS Z T1713.heap t1650) (_ : Fld Z T1713.heap b1636 "java/util/ArrayList" "size" "I" (.int (2 : Int32))) (_ : Fld Z T1713.heap b1636 "java/util/ArrayList" "elementData" "[Ljava/lang/Object;" (.ref b1643)) (_ : Arv Z T1713.heap b1643 k1643 (.object "java/lang/Object") (10 : Int32) [(.ref t1642), (.ref t1650), .null, .null, .null, .null, .null, .null, .null, .null] .null) (_ : Exa Z T1713.heap b1669 "[Ljava/lang/String;") (_ : Arv Z T1713.heap b1669 k1669 (.object "java/lang/String") (3 : Int32) [(.ref b1670), (.ref b1679), (.ref b1685)] .null) (_ : eS Z T1713.heap b1670) (_ : fC Z T1713.heap b1670) (_ : fV Z T1713.heap b1670 bb1670) (_ : Arv Z T1713.heap bb1670 kb1670 .byte la0 (own_vs la0 ca0) (.int (0 : Int32))) (_ : eS Z T1713.heap b1679) (_ : fC Z T1713.heap b1679) (_ : fV Z T1713.heap b1679 bb1679) (_ : Arv Z T1713.heap bb1679 kb1679 .byte la1 (own_vs la1 ca1) (.int (0 : Int32))) (_ : eS Z T1713.heap b1685) (_ : fC Z T1713.heap b1685) (_ : fV Z T1713.heap b1685 bb1685) (_ : Arv Z T1713.heap bb1685 kb1685 .byte la2 (own_vs la2 ca2) (.int (0 : Int32))) (_ : Exa Z T1713.heap b1691 "[Ljava/lang/String;") (_ : Arv Z T1713.heap b1691 k1691 (.object "java/lang/String") (3 : Int32) [(.ref o0), (.ref o1), .null] .null) (_ : eS Z T1713.heap o0) (_ : fC Z T1713.heap o0) (_ : fV Z T1713.heap o0 ov0) (_ : Arv Z T1713.heap ov0 ok0 .byte lo0 (own_vs lo0 co0) (.int (0 : Int32))) (_ : eS Z T1713.heap o1) (_ : fC Z T1713.heap o1) (_ : fV Z T1713.heap o1 ov1) (_ : Arv Z T1713.heap ov1 ok1 .byte lo1 (own_vs lo1 co1) (.int (0 : Int32))) (_ : eS Z T1713.heap o2) (_ : fC Z T1713.heap o2) (_ : fV Z T1713.heap o2 ov2) (_ : Arv Z T1713.heap ov2 ok2 .byte lo2 (own_vs lo2 co2) (.int (0 : Int32))) (_ : h1709.size ≤ o2), (own_o q2 la2 ca2 lb2 cb2 lo2 co2) → (lo2 = 0 ∨ lo2 = 1) → (own_ch co2) → Go (own_EndH Z) p e below s room_1.cells room_1.slots (Q0 Z p1 p2 p3 p4 w0 d0 kd el em mr h0 n0) (T1713.setTop (mkF m 422 #[iv p1, iv p2, iv p3, iv p4, iv 2, iv i0, iv i1, iv i2, rv b1632, rv b1636, iv ca0, iv ca1, iv ca2, iv cb0, iv cb1, iv cb2, iv q0, iv q1, iv q2, iv la0, iv la1, iv la2, iv lb0, iv lb1, iv lb2, rv b1669, .unset, .unset, .unset, .unset, .unset, .unset, .unset] [.ref o2, .int 2, .ref b1691, .ref b1691])) := by
        intro o2 ov2 ok2 lo2 co2 T1713 locs1713 X1713 hS1713 hZ hown NF1713 KK1713 ZN1713 OL1713 ch1713 ff1713_0 ff1713_1 ff1713_2 ff1713_3 ff1713_4 ff1713_5 ff1713_6 ff1713_7 ff1713_8 ff1713_9 ff1713_10 ff1713_11 ff1713_12 ff1713_13 ff1713_14 ff1713_15 ff1713_16 ff1713_17 ff1713_18 ff1713_19 ff1713_20 ff1713_21 ff1713_22 ff1713_23 ff1713_24 ff1713_25 ff1713_26 ff1713_27 ff1713_28 ff1713_29 ff1713_30 ff1713_31 ff1713_32 ff1713_33 ff1713_34 ff1713_35 ff1713_36 fz1713_0 ho2 hlo2 hco2
        have G_o2 := Nat.le_trans ZN1709 fz1713_0
        obtain ⟨cl1714, Ar1714, q1714, Sz1714, Nz1714, Hs1714, Gs1714⟩ := id ff1713_24
        have hin1714 : ¬ ((2 : Int32) < 0 ∨ cl1714.slots.size ≤ ((2 : Int32)).toNatClampNeg) := inb_of Sz1714 ⟨by decide, by decide⟩
        obtain ⟨T1714, h1714, X1714, e1714, W1714, st1714⟩ := stR X1713 hx hZ rfl Ar1714 (j := (2 : Int32)) hin1714 rfl (Sto.ofV Ar1714 q1714 O1691 (Ins.self ff1713_33)) (g := (mkF m 422 #[iv p1, iv p2, iv p3, iv p4, iv 2, iv i0, iv i1, iv i2, rv b1632, rv b1636, iv ca0, iv ca1, iv ca2, iv cb0, iv cb1, iv cb2, iv q0, iv q1, iv q2, iv la0, iv la1, iv la2, iv lb0, iv lb1, iv lb2, rv b1669, .unset, .unset, .unset, .unset, .unset, .unset, .unset] [.ref o2, .int 2, .ref b1691, .ref b1691])) rfl rfl (hb hby at_422)
        have V1714 := Arv.set Ar1714 q1714 Sz1714 Nz1714 Hs1714 Gs1714 rfl W1714 2 rfl (Nat.le_of_ble_eq_true rfl)
        have VV1714 : Arv Z h1714 b1691 k1691 (.object "java/lang/String") (3 : Int32) [(.ref o0), (.ref o1), (.ref o2)] .null := V1714
        have ne1715 : o2 ≠ b1691 := (Ne.symm (Nat.ne_of_lt (Nat.lt_of_lt_of_le (ff1708_23.wr W1709).lt fz1713_0)))
        have ne1716 : ov2 ≠ b1691 := (own_tyne ff1713_36 ff1713_24 (by decide))
        have KK1714 := KK1713.wr W1714 (Or.inr (Nat.le_trans KK1687.1 (Nat.le_of_eq g1691.symm)))
        have ZN1714 := Nat.le_trans ZN1713 (Keep.of_wr W1714).1
        have HK1714 : T1713.heap.size ≤ h1714.size := Nat.le_trans (Nat.le_refl _) (Keep.of_wr W1714).1
        have NN1714 := Fr.snoc X1714 NF1713 G_b1691
        have OL1714 := OL1713.wr W1714 G_b1691
        have ch1714 := ch1713.trans (CHr.wr W1714 (Safe.exa hZ.alike ff1713_23 (by decide) (by decide)) ch1713.1)
        refine go st1714 ?_
        show Go _ p e below s _ _ _ (T1714.setTop (mkF m 423 #[iv p1, iv p2, iv p3, iv p4, iv 2, iv i0, iv i1, iv i2, rv b1632, rv b1636, iv ca0, iv ca1, iv ca2, iv cb0, iv cb1, iv cb2, iv q0, iv q1, iv q2, iv la0, iv la1, iv la2, iv lb0, iv lb1, iv lb2, rv b1669, .unset, .unset, .unset, .unset, .unset, .unset, .unset] [.ref b1691]))
        refine c_astore X1714 hx hby _ at_423 rfl rfl <| c_shL #[iv p1, iv p2, iv p3, iv p4, iv 2, iv i0, iv i1, iv i2, rv b1632, rv b1636, iv ca0, iv ca1, iv ca2, iv cb0, iv cb1, iv cb2, iv q0, iv q1, iv q2, iv la0, iv la1, iv la2, iv lb0, iv lb1, iv lb2, rv b1669, rv b1691, .unset, .unset, .unset, .unset, .unset, .unset] rfl ?_
        have JE0_1717 : ∀ (ze1718 : Int32), (ze1718 = (own_eq la0 ca0 lo0 co0)) → Go (own_EndH Z) p e below s room_1.cells room_1.slots (Q0 Z p1 p2 p3 p4 w0 d0 kd el em mr h0 n0) (T1714.setTop (mkF m 454 #[iv p1, iv p2, iv p3, iv p4, iv 2, iv i0, iv i1, iv i2, rv b1632, rv b1636, iv ca0, iv ca1, iv ca2, iv cb0, iv cb1, iv cb2, iv q0, iv q1, iv q2, iv la0, iv la1, iv la2, iv lb0, iv lb1, iv lb2, rv b1669, rv b1691, .unset, .unset, .unset, .unset, .unset, .unset] [.int ze1718])) := by
         intro ze1718 hz_
         subst hz_
         refine c_istore X1714 hx hby _ at_454 rfl <| c_shL #[iv p1, iv p2, iv p3, iv p4, iv 2, iv i0, iv i1, iv i2, rv b1632, rv b1636, iv ca0, iv ca1, iv ca2, iv cb0, iv cb1, iv cb2, iv q0, iv q1, iv q2, iv la0, iv la1, iv la2, iv lb0, iv lb1, iv lb2, rv b1669, rv b1691, iv (own_eq la0 ca0 lo0 co0), .unset, .unset, .unset, .unset, .unset] rfl ?_
         have JE1_1719 : ∀ (ze1720 : Int32), (ze1720 = (own_eq la1 ca1 lo1 co1)) → Go (own_EndH Z) p e below s room_1.cells room_1.slots (Q0 Z p1 p2 p3 p4 w0 d0 kd el em mr h0 n0) (T1714.setTop (mkF m 485 #[iv p1, iv p2, iv p3, iv p4, iv 2, iv i0, iv i1, iv i2, rv b1632, rv b1636, iv ca0, iv ca1, iv ca2, iv cb0, iv cb1, iv cb2, iv q0, iv q1, iv q2, iv la0, iv la1, iv la2, iv lb0, iv lb1, iv lb2, rv b1669, rv b1691, iv (own_eq la0 ca0 lo0 co0), .unset, .unset, .unset, .unset, .unset] [.int ze1720])) := by
          intro ze1720 hz_
          subst hz_
          refine c_istore X1714 hx hby _ at_485 rfl <| c_shL #[iv p1, iv p2, iv p3, iv p4, iv 2, iv i0, iv i1, iv i2, rv b1632, rv b1636, iv ca0, iv ca1, iv ca2, iv cb0, iv cb1, iv cb2, iv q0, iv q1, iv q2, iv la0, iv la1, iv la2, iv lb0, iv lb1, iv lb2, rv b1669, rv b1691, iv (own_eq la0 ca0 lo0 co0), iv (own_eq la1 ca1 lo1 co1), .unset, .unset, .unset, .unset] rfl ?_
          have JE2_1721 : ∀ (ze1722 : Int32), (ze1722 = (own_eq la2 ca2 lo2 co2)) → Go (own_EndH Z) p e below s room_1.cells room_1.slots (Q0 Z p1 p2 p3 p4 w0 d0 kd el em mr h0 n0) (T1714.setTop (mkF m 516 #[iv p1, iv p2, iv p3, iv p4, iv 2, iv i0, iv i1, iv i2, rv b1632, rv b1636, iv ca0, iv ca1, iv ca2, iv cb0, iv cb1, iv cb2, iv q0, iv q1, iv q2, iv la0, iv la1, iv la2, iv lb0, iv lb1, iv lb2, rv b1669, rv b1691, iv (own_eq la0 ca0 lo0 co0), iv (own_eq la1 ca1 lo1 co1), .unset, .unset, .unset, .unset] [.int ze1722])) := by
           intro ze1722 hz_
           subst hz_
           refine c_istore X1714 hx hby _ at_516 rfl <| c_shL #[iv p1, iv p2, iv p3, iv p4, iv 2, iv i0, iv i1, iv i2, rv b1632, rv b1636, iv ca0, iv ca1, iv ca2, iv cb0, iv cb1, iv cb2, iv q0, iv q1, iv q2, iv la0, iv la1, iv la2, iv lb0, iv lb1, iv lb2, rv b1669, rv b1691, iv (own_eq la0 ca0 lo0 co0), iv (own_eq la1 ca1 lo1 co1), iv (own_eq la2 ca2 lo2 co2), .unset, .unset, .unset] rfl <| c_new X1714 hx hby hZ hown (gw hw 52 rfl) (gw hw 53 rfl) (gw hw 54 rfl) e1714 at_518 (by decide) fun T1723 h1723 b1723 g1723 X1723 e1723 E1723 A1723 D1723 => ?_
           have G_b1723 := Nat.le_trans ZN1714 (Nat.le_of_eq g1723.symm)
           have KK1723 := KK1714.ext E1723
           have ZN1723 := Nat.le_trans ZN1714 E1723.1
           have HK1723 := Nat.le_trans HK1714 E1723.1
           have OL1723 := OL1714.ext E1723
           have ch1723 := ch1714.trans (CHr.ext E1723 ch1714.1)
           refine c_sh 521 [.ref b1723] rfl rfl <| c_dup X1723 hx hby at_521 rfl ?_
           obtain ⟨t1724, T1724, h1724, k1724, bs1724, ks1724, X1724, e1724, E1724, hS1724, hk1724, hZ, hown, LE1724, LC1724, LV1724, LA1724, -, -, cr1724, -, sn1724, st1724⟩ := ldcCH X1723 hx hZ hown (gw hw 55 rfl) (own_wS hw) e1723 hS1713 HK1723 (own_EW hw) (List.mem_of_getElem? (i := 3) rfl) ch1723.1 (vs := [(.int (120 : Int32))]) (z := (1 : Int32)) ⟨by decide, by decide⟩ (by decide) (by decide) (g := (mkF m 522 #[iv p1, iv p2, iv p3, iv p4, iv 2, iv i0, iv i1, iv i2, rv b1632, rv b1636, iv ca0, iv ca1, iv ca2, iv cb0, iv cb1, iv cb2, iv q0, iv q1, iv q2, iv la0, iv la1, iv la2, iv lb0, iv lb1, iv lb2, rv b1669, rv b1691, iv (own_eq la0 ca0 lo0 co0), iv (own_eq la1 ca1 lo1 co1), iv (own_eq la2 ca2 lo2 co2), .unset, .unset, .unset] [.ref b1723, .ref b1723])) rfl (hb hby at_522) (n := 4) (by decide) (by decide) (by decide) (by decide)
           have ch1724 := ch1723.trans cr1724
           have KK1724 := KK1723.ext E1724
           have ZN1724 := Nat.le_trans ZN1723 E1724.1
           have OL1724 := OL1723.ext E1724
           refine go st1724 ?_
           show Go _ p e below s _ _ _ (T1724.setTop (mkF m 524 #[iv p1, iv p2, iv p3, iv p4, iv 2, iv i0, iv i1, iv i2, rv b1632, rv b1636, iv ca0, iv ca1, iv ca2, iv cb0, iv cb1, iv cb2, iv q0, iv q1, iv q2, iv la0, iv la1, iv la2, iv lb0, iv lb1, iv lb2, rv b1669, rv b1691, iv (own_eq la0 ca0 lo0 co0), iv (own_eq la1 ca1 lo1 co1), iv (own_eq la2 ca2 lo2 co2), .unset, .unset, .unset] [.ref t1724, .ref b1723, .ref b1723]))
           refine c_aload X1724 hx hby at_524 rfl rfl <| c_aload X1724 hx hby at_526 rfl rfl <| c_iconst X1724 hx hby (-1) at_528 rfl <| c_new X1724 hx hby hZ hown (gw hw 1 rfl) (gw hw 2 rfl) (gw hw 3 rfl) e1724 at_529 (by decide) fun T1725 h1725 b1725 g1725 X1725 e1725 E1725 A1725 D1725 => ?_
           have G_b1725 := Nat.le_trans ZN1724 (Nat.le_of_eq g1725.symm)
           have KK1725 := KK1724.ext E1725
           have ZN1725 := Nat.le_trans ZN1724 E1725.1
           have HK1725 := Nat.le_trans hk1724 E1725.1
           have OL1725 := OL1724.ext E1725
           have ch1725 := ch1724.trans (CHr.ext E1725 ch1724.1)
           refine c_sh 532 [.ref b1725, .int (-1), .ref b1632, .ref b1636, .ref t1724, .ref b1723, .ref b1723] rfl rfl <| c_dup X1725 hx hby at_532 rfl ?_
           have cc1727 := show Fld Z h1725 b1725 "java/util/AbstractList" "modCount" "I" (.int (0 : Int32)) from D1725 (Or.inl (gw hw 23 rfl)) (ty := .int) (by decide)
           have cc1728 := show Fld Z h1725 b1725 "java/util/ArrayList" "size" "I" (.int (0 : Int32)) from D1725 (Or.inl (gw hw 86 rfl)) (ty := .int) (by decide)
           have cc1729 := show Fld Z h1725 b1725 "java/util/ArrayList" "elementData" "[Ljava/lang/Object;" .null from D1725 (Or.inl (gw hw 26 rfl)) (ty := (.array (.object "java/lang/Object"))) (by decide)
           refine c_init X1725 hx hby hZ hown hml (gw hw 4 rfl) (gw hw 5 rfl) (gw hw 6 rfl) (gw hw 3 rfl) rfl e1725 (rm1 hw b1725 (.int (0 : Int32)) (.int (0 : Int32)) .null d0 h1725 n0 ZN1725 P2 OL1725 A1725 G_b1725 cc1727 cc1728 cc1729) pd_4 rfl at_533 [.ref b1725, .int (-1), .ref b1632, .ref b1636, .ref t1724, .ref b1723, .ref b1723] rfl 7 (by decide) rfl rfl fun o1726 T1726 L1726 X1726 hQ1726 => ?_
           obtain ⟨rfl, N1726q, K1726, u1726_1, u1726_2, u1726_3⟩ := hQ1726
           have N1726 := Fr.app NN1714 N1726q
           have ne1730 : b1632 ≠ b1725 := (Nat.ne_of_lt (Nat.lt_of_lt_of_le (((ff1713_0.wr W1714).ext E1723).ext E1724).lt (Nat.le_of_eq g1725.symm)))
           have ne1731 : b1636 ≠ b1725 := (Nat.ne_of_lt (Nat.lt_of_lt_of_le (((ff1713_2.wr W1714).ext E1723).ext E1724).lt (Nat.le_of_eq g1725.symm)))
           have ne1732 : b1643 ≠ b1725 := (Nat.ne_of_lt (Nat.lt_of_lt_of_le (((ff1713_4.wr W1714).ext E1723).ext E1724).lt (Nat.le_of_eq g1725.symm)))
           have ne1733 : b1669 ≠ b1725 := (Nat.ne_of_lt (Nat.lt_of_lt_of_le (((ff1713_9.wr W1714).ext E1723).ext E1724).lt (Nat.le_of_eq g1725.symm)))
           have ne1734 : b1670 ≠ b1725 := (Nat.ne_of_lt (Nat.lt_of_lt_of_le (((ff1713_11.wr W1714).ext E1723).ext E1724).lt (Nat.le_of_eq g1725.symm)))
           have ne1735 : bb1670 ≠ b1725 := (Nat.ne_of_lt (Nat.lt_of_lt_of_le (((ff1713_14.other W1714 ne1700).ext E1723).ext E1724).lt (Nat.le_of_eq g1725.symm)))
           have ne1736 : b1679 ≠ b1725 := (Nat.ne_of_lt (Nat.lt_of_lt_of_le (((ff1713_15.wr W1714).ext E1723).ext E1724).lt (Nat.le_of_eq g1725.symm)))
           have ne1737 : bb1679 ≠ b1725 := (Nat.ne_of_lt (Nat.lt_of_lt_of_le (((ff1713_18.other W1714 ne1702).ext E1723).ext E1724).lt (Nat.le_of_eq g1725.symm)))
           have ne1738 : b1685 ≠ b1725 := (Nat.ne_of_lt (Nat.lt_of_lt_of_le (((ff1713_19.wr W1714).ext E1723).ext E1724).lt (Nat.le_of_eq g1725.symm)))
           have ne1739 : bb1685 ≠ b1725 := (Nat.ne_of_lt (Nat.lt_of_lt_of_le (((ff1713_22.other W1714 ne1704).ext E1723).ext E1724).lt (Nat.le_of_eq g1725.symm)))
           have ne1740 : b1691 ≠ b1725 := (Nat.ne_of_lt (Nat.lt_of_lt_of_le (((ff1713_23.wr W1714).ext E1723).ext E1724).lt (Nat.le_of_eq g1725.symm)))
           have ne1741 : o0 ≠ b1725 := (Nat.ne_of_lt (Nat.lt_of_lt_of_le (((ff1713_25.wr W1714).ext E1723).ext E1724).lt (Nat.le_of_eq g1725.symm)))
           have ne1742 : ov0 ≠ b1725 := (Nat.ne_of_lt (Nat.lt_of_lt_of_le (((ff1713_28.other W1714 ne1706).ext E1723).ext E1724).lt (Nat.le_of_eq g1725.symm)))
           have ne1743 : o1 ≠ b1725 := (Nat.ne_of_lt (Nat.lt_of_lt_of_le (((ff1713_29.wr W1714).ext E1723).ext E1724).lt (Nat.le_of_eq g1725.symm)))
           have ne1744 : ov1 ≠ b1725 := (Nat.ne_of_lt (Nat.lt_of_lt_of_le (((ff1713_32.other W1714 ne1711).ext E1723).ext E1724).lt (Nat.le_of_eq g1725.symm)))
           have ne1745 : o2 ≠ b1725 := (Nat.ne_of_lt (Nat.lt_of_lt_of_le (((ff1713_33.wr W1714).ext E1723).ext E1724).lt (Nat.le_of_eq g1725.symm)))
           have ne1746 : ov2 ≠ b1725 := (Nat.ne_of_lt (Nat.lt_of_lt_of_le (((ff1713_36.other W1714 ne1716).ext E1723).ext E1724).lt (Nat.le_of_eq g1725.symm)))
           have ne1747 : b1723 ≠ b1725 := (Nat.ne_of_lt (Nat.lt_of_lt_of_le (A1723.ext E1724).lt (Nat.le_of_eq g1725.symm)))
           have ne1748 : t1724 ≠ b1725 := (Nat.ne_of_lt (Nat.lt_of_lt_of_le LE1724.lt (Nat.le_of_eq g1725.symm)))
           have ne1749 : bs1724 ≠ b1725 := (Nat.ne_of_lt (Nat.lt_of_lt_of_le LA1724.lt (Nat.le_of_eq g1725.symm)))
           have KK1726 := KK1725.trans K1726 (allS (P := fun x => x ∈ [] ∨ h0.size ≤ x) (Or.inr (Nat.le_trans KK1724.1 (Nat.le_of_eq g1725.symm))) all0)
           have ZN1726 := Nat.le_trans ZN1725 K1726.1
           have HK1726 : k1724 ≤ T1726.heap.size := Nat.le_trans HK1725 K1726.1
           have ch1726 := ch1725.trans (CHr.keep K1726 (allS (Safe.exa hZ.alike A1725 (by decide) (by decide)) all0) ch1725.1)
           have OL1726 := OL1725.keep K1726 (allS G_b1725 all0)
           refine c_sh 536 [.ref b1725, .int (-1), .ref b1632, .ref b1636, .ref t1724, .ref b1723, .ref b1723] rfl rfl ?_
           have cc1751 := ((A1723.ext E1724).ext E1725).keep K1726
           have cc1752 := (((show Fld Z h1723 b1723 "com/example/raccordo/raccordo/flow/XmlElement" "name" "Ljava/lang/String;" .null from D1723 (Or.inr (gw hw 61 rfl)) (ty := (.object "java/lang/String")) (by decide)).ext E1724).ext E1725).keep K1726 (ninS ne1747 nin0)
           have cc1753 := (((show Fld Z h1723 b1723 "com/example/raccordo/raccordo/flow/XmlElement" "attributes" "Ljava/util/List;" .null from D1723 (Or.inr (gw hw 92 rfl)) (ty := (.object "java/util/List")) (by decide)).ext E1724).ext E1725).keep K1726 (ninS ne1747 nin0)
           have cc1754 := (((show Fld Z h1723 b1723 "com/example/raccordo/raccordo/flow/XmlElement" "attributeIndexes" "[I" .null from D1723 (Or.inr (gw hw 103 rfl)) (ty := (.array .int)) (by decide)).ext E1724).ext E1725).keep K1726 (ninS ne1747 nin0)
           have cc1755 := (((show Fld Z h1723 b1723 "com/example/raccordo/raccordo/flow/XmlElement" "textIndex" "I" (.int (0 : Int32)) from D1723 (Or.inr (gw hw 105 rfl)) (ty := .int) (by decide)).ext E1724).ext E1725).keep K1726 (ninS ne1747 nin0)
           have cc1756 := (((show Fld Z h1723 b1723 "com/example/raccordo/raccordo/flow/XmlElement" "children" "Ljava/util/List;" .null from D1723 (Or.inr (gw hw 107 rfl)) (ty := (.object "java/util/List")) (by decide)).ext E1724).ext E1725).keep K1726 (ninS ne1747 nin0)
           have cc1757 := ((((ff1713_2.wr W1714).ext E1723).ext E1724).ext E1725).keep K1726
           have cc1758 := ((((ff1713_6.other W1714 (Or.inl ne1696)).ext E1723).ext E1724).ext E1725).keep K1726 (ninS ne1731 nin0)
           have cc1759 := ((((ff1713_7.other W1714 (Or.inl ne1696)).ext E1723).ext E1724).ext E1725).keep K1726 (ninS ne1731 nin0)
           have cc1760 := ((((ff1713_4.wr W1714).ext E1723).ext E1724).ext E1725).keep K1726
           have cc1761 := ((((ff1713_8.other W1714 ne1697).ext E1723).ext E1724).ext E1725).keep K1726 (ninS ne1732 nin0)
           have cc1762 := ((((ff1713_3.wr W1714).ext E1723).ext E1724).ext E1725).keep K1726
           have cc1763 := ((((ff1713_5.wr W1714).ext E1723).ext E1724).ext E1725).keep K1726
           have cc1764 := A1725.keep K1726
           have cc1765 := ((((ff1713_0.wr W1714).ext E1723).ext E1724).ext E1725).keep K1726
           have cc1766 := ((((ff1713_1.other W1714 ne1695).ext E1723).ext E1724).ext E1725).keep K1726 (ninS ne1730 nin0)
           have ne1767 : b1723 ≠ b1636 := (Ne.symm (Nat.ne_of_lt (Nat.lt_of_lt_of_le (ff1713_2.wr W1714).lt (Nat.le_of_eq g1723.symm))))
           have ne1768 : b1723 ≠ b1632 := (Ne.symm (Nat.ne_of_lt (Nat.lt_of_lt_of_le (ff1713_0.wr W1714).lt (Nat.le_of_eq g1723.symm))))
           have ne1769 : b1723 ≠ b1643 := (Ne.symm (Nat.ne_of_lt (Nat.lt_of_lt_of_le (ff1713_4.wr W1714).lt (Nat.le_of_eq g1723.symm))))
           refine c_init X1726 hx hby hZ hown hml (gw hw 56 rfl) (gw hw 57 rfl) (gw hw 58 rfl) (gw hw 54 rfl) rfl rfl (rmXI2 hw b1723 t1724 b1636 b1632 b1725 .null .null .null (.int (0 : Int32)) .null el k1632 i0 i1 b1643 k1643 t1642 t1650 mr em (T1726.heap) n0 ZN1726 P4 OL1726 cc1751 G_b1723 cc1752 cc1753 cc1754 cc1755 cc1756 cc1757 cc1758 cc1759 cc1760 cc1761 cc1762 cc1763 P5 cc1764 u1726_2 cc1765 cc1766 ne1767 ne1768 ne1747 ne1769 hm) pd_23 rfl at_536 [.ref b1723] rfl 1 (by decide) rfl rfl fun o1750 T1750 L1750 X1750 hQ1750 => ?_
           obtain ⟨b1750, rfl, N1750q, u1750_0, u1750_1, K1750, u1750_3, u1750_4⟩ := hQ1750
           have N1750 := Fr.app N1726 N1750q
           have G_b1750 := Nat.le_trans ZN1726 u1750_0
           have ne1770 : b1669 ≠ b1723 := (Nat.ne_of_lt (Nat.lt_of_lt_of_le (ff1713_9.wr W1714).lt (Nat.le_of_eq g1723.symm)))
           have ne1771 : b1670 ≠ b1723 := (Nat.ne_of_lt (Nat.lt_of_lt_of_le (ff1713_11.wr W1714).lt (Nat.le_of_eq g1723.symm)))
           have ne1772 : bb1670 ≠ b1723 := (Nat.ne_of_lt (Nat.lt_of_lt_of_le (ff1713_14.other W1714 ne1700).lt (Nat.le_of_eq g1723.symm)))
           have ne1773 : b1679 ≠ b1723 := (Nat.ne_of_lt (Nat.lt_of_lt_of_le (ff1713_15.wr W1714).lt (Nat.le_of_eq g1723.symm)))
           have ne1774 : bb1679 ≠ b1723 := (Nat.ne_of_lt (Nat.lt_of_lt_of_le (ff1713_18.other W1714 ne1702).lt (Nat.le_of_eq g1723.symm)))
           have ne1775 : b1685 ≠ b1723 := (Nat.ne_of_lt (Nat.lt_of_lt_of_le (ff1713_19.wr W1714).lt (Nat.le_of_eq g1723.symm)))
           have ne1776 : bb1685 ≠ b1723 := (Nat.ne_of_lt (Nat.lt_of_lt_of_le (ff1713_22.other W1714 ne1704).lt (Nat.le_of_eq g1723.symm)))
           have ne1777 : b1691 ≠ b1723 := (Nat.ne_of_lt (Nat.lt_of_lt_of_le (ff1713_23.wr W1714).lt (Nat.le_of_eq g1723.symm)))
           have ne1778 : o0 ≠ b1723 := (Nat.ne_of_lt (Nat.lt_of_lt_of_le (ff1713_25.wr W1714).lt (Nat.le_of_eq g1723.symm)))
           have ne1779 : ov0 ≠ b1723 := (Nat.ne_of_lt (Nat.lt_of_lt_of_le (ff1713_28.other W1714 ne1706).lt (Nat.le_of_eq g1723.symm)))
           have ne1780 : o1 ≠ b1723 := (Nat.ne_of_lt (Nat.lt_of_lt_of_le (ff1713_29.wr W1714).lt (Nat.le_of_eq g1723.symm)))
           have ne1781 : ov1 ≠ b1723 := (Nat.ne_of_lt (Nat.lt_of_lt_of_le (ff1713_32.other W1714 ne1711).lt (Nat.le_of_eq g1723.symm)))
           have ne1782 : o2 ≠ b1723 := (Nat.ne_of_lt (Nat.lt_of_lt_of_le (ff1713_33.wr W1714).lt (Nat.le_of_eq g1723.symm)))
           have ne1783 : ov2 ≠ b1723 := (Nat.ne_of_lt (Nat.lt_of_lt_of_le (ff1713_36.other W1714 ne1716).lt (Nat.le_of_eq g1723.symm)))
           have ne1784 : t1724 ≠ b1723 := (Exa.ne ((LE1724.ext E1725).keep K1726) cc1751 (by decide))
           have ne1785 : bs1724 ≠ b1723 := (Ne.symm (Exa.neArv cc1751 ((LA1724.ext E1725).keep K1726 (ninS ne1749 nin0)) (gw hw 53 rfl)))
           have KK1750 := KK1726.trans K1750 (allS (P := fun x => x ∈ [] ∨ h0.size ≤ x) (Or.inr (Nat.le_trans KK1714.1 (Nat.le_of_eq g1723.symm))) all0)
           have ZN1750 := Nat.le_trans ZN1726 K1750.1
           have HK1750 : k1724 ≤ T1750.heap.size := Nat.le_trans HK1726 K1750.1
           have ch1750 := ch1726.trans (CHr.keep K1750 (allS (Safe.exa hZ.alike cc1751 (by decide) (by decide)) all0) ch1726.1)
           have OL1750 := OL1726.keep K1750 (allS G_b1723 all0)
           refine c_sh 539 [.ref b1723] rfl rfl <| c_astore X1750 hx hby _ at_539 rfl rfl <| c_aload X1750 hx hby at_541 rfl rfl <| c_aload X1750 hx hby at_543 rfl rfl <| c_aload X1750 hx hby at_545 rfl rfl <| c_shL #[iv p1, iv p2, iv p3, iv p4, iv 2, iv i0, iv i1, iv i2, rv b1632, rv b1636, iv ca0, iv ca1, iv ca2, iv cb0, iv cb1, iv cb2, iv q0, iv q1, iv q2, iv la0, iv la1, iv la2, iv lb0, iv lb1, iv lb2, rv b1669, rv b1691, iv (own_eq la0 ca0 lo0 co0), iv (own_eq la1 ca1 lo1 co1), iv (own_eq la2 ca2 lo2 co2), rv b1723, .unset, .unset] rfl ?_
           have cc1787 := (((((ff1713_10.other W1714 ne1698).ext E1723).ext E1724).ext E1725).keep K1726 (ninS ne1733 nin0)).keep K1750 (ninS ne1770 nin0)
           have cc1788 := ((((VV1714.ext E1723).ext E1724).ext E1725).keep K1726 (ninS ne1740 nin0)).keep K1750 (ninS ne1777 nin0)
           have cc1789 := (((((ff1713_11.wr W1714).ext E1723).ext E1724).ext E1725).keep K1726).keep K1750
           have cc1790 := (((((ff1713_12.other W1714 (Or.inl ne1699)).ext E1723).ext E1724).ext E1725).keep K1726 (ninS ne1734 nin0)).keep K1750 (ninS ne1771 nin0)
           have cc1791 := (((((ff1713_13.other W1714 (Or.inl ne1699)).ext E1723).ext E1724).ext E1725).keep K1726 (ninS ne1734 nin0)).keep K1750 (ninS ne1771 nin0)
           have cc1792 := (((((ff1713_14.other W1714 ne1700).ext E1723).ext E1724).ext E1725).keep K1726 (ninS ne1735 nin0)).keep K1750 (ninS ne1772 nin0)
           have cc1793 := (((((ff1713_15.wr W1714).ext E1723).ext E1724).ext E1725).keep K1726).keep K1750
           have cc1794 := (((((ff1713_16.other W1714 (Or.inl ne1701)).ext E1723).ext E1724).ext E1725).keep K1726 (ninS ne1736 nin0)).keep K1750 (ninS ne1773 nin0)
           have cc1795 := (((((ff1713_17.other W1714 (Or.inl ne1701)).ext E1723).ext E1724).ext E1725).keep K1726 (ninS ne1736 nin0)).keep K1750 (ninS ne1773 nin0)
           have cc1796 := (((((ff1713_18.other W1714 ne1702).ext E1723).ext E1724).ext E1725).keep K1726 (ninS ne1737 nin0)).keep K1750 (ninS ne1774 nin0)
           have cc1797 := (((((ff1713_19.wr W1714).ext E1723).ext E1724).ext E1725).keep K1726).keep K1750
           have cc1798 := (((((ff1713_20.other W1714 (Or.inl ne1703)).ext E1723).ext E1724).ext E1725).keep K1726 (ninS ne1738 nin0)).keep K1750 (ninS ne1775 nin0)
           have cc1799 := (((((ff1713_21.other W1714 (Or.inl ne1703)).ext E1723).ext E1724).ext E1725).keep K1726 (ninS ne1738 nin0)).keep K1750 (ninS ne1775 nin0)
           have cc1800 := (((((ff1713_22.other W1714 ne1704).ext E1723).ext E1724).ext E1725).keep K1726 (ninS ne1739 nin0)).keep K1750 (ninS ne1776 nin0)
           have cc1801 := (((((ff1713_25.wr W1714).ext E1723).ext E1724).ext E1725).keep K1726).keep K1750
           have cc1802 := (((((ff1713_26.other W1714 (Or.inl ne1705)).ext E1723).ext E1724).ext E1725).keep K1726 (ninS ne1741 nin0)).keep K1750 (ninS ne1778 nin0)
           have cc1803 := (((((ff1713_27.other W1714 (Or.inl ne1705)).ext E1723).ext E1724).ext E1725).keep K1726 (ninS ne1741 nin0)).keep K1750 (ninS ne1778 nin0)
           have cc1804 := (((((ff1713_28.other W1714 ne1706).ext E1723).ext E1724).ext E1725).keep K1726 (ninS ne1742 nin0)).keep K1750 (ninS ne1779 nin0)
           have cc1805 := (((((ff1713_29.wr W1714).ext E1723).ext E1724).ext E1725).keep K1726).keep K1750
           have cc1806 := (((((ff1713_30.other W1714 (Or.inl ne1710)).ext E1723).ext E1724).ext E1725).keep K1726 (ninS ne1743 nin0)).keep K1750 (ninS ne1780 nin0)
           have cc1807 := (((((ff1713_31.other W1714 (Or.inl ne1710)).ext E1723).ext E1724).ext E1725).keep K1726 (ninS ne1743 nin0)).keep K1750 (ninS ne1780 nin0)
           have cc1808 := (((((ff1713_32.other W1714 ne1711).ext E1723).ext E1724).ext E1725).keep K1726 (ninS ne1744 nin0)).keep K1750 (ninS ne1781 nin0)
           have cc1809 := (((((ff1713_33.wr W1714).ext E1723).ext E1724).ext E1725).keep K1726).keep K1750
           have cc1810 := (((((ff1713_34.other W1714 (Or.inl ne1715)).ext E1723).ext E1724).ext E1725).keep K1726 (ninS ne1745 nin0)).keep K1750 (ninS ne1782 nin0)
           have cc1811 := (((((ff1713_35.other W1714 (Or.inl ne1715)).ext E1723).ext E1724).ext E1725).keep K1726 (ninS ne1745 nin0)).keep K1750 (ninS ne1782 nin0)
           have cc1812 := (((((ff1713_36.other W1714 ne1716).ext E1723).ext E1724).ext E1725).keep K1726 (ninS ne1746 nin0)).keep K1750 (ninS ne1783 nin0)
           have ne1813 : b1670 ≠ o0 := (Nat.ne_of_lt (Nat.lt_of_lt_of_le ((((((u1670_3.wr W1672).keep K1679).wr W1681).keep K1685).wr W1687).ext E1691).lt fz1693_0))
           have ne1814 : b1679 ≠ o1 := (Nat.ne_of_lt (Nat.lt_of_lt_of_le (ff1693_15.wr W1694).lt fz1708_0))
           have ne1815 : b1685 ≠ o2 := (Nat.ne_of_lt (Nat.lt_of_lt_of_le (ff1708_19.wr W1709).lt fz1713_0))
           have cc1816 := cc1751.keep K1750
           refine c_callV X1750 hx hby hZ hown hml (gw hw 108 rfl) (gw hw 109 rfl) (gw hw 111 rfl) (gw hw 110 rfl) (gw hw 112 rfl) (gw hw 54 rfl) cc1816 rfl (rmSM2 hw b1723 b1669 b1691 w0 b1750 k1632 i0 i1 k1669 k1691 b1670 bb1670 kb1670 la0 ca0 b1679 bb1679 kb1679 la1 ca1 b1685 bb1685 kb1685 la2 ca2 o0 ov0 ok0 lo0 co0 o1 ov1 ok1 lo1 co1 o2 ov2 ok2 lo2 co2 (T1750.heap) n0 ZN1750 P1 OL1750 u1750_3 u1750_4 cc1787 cc1788 cc1789 cc1790 cc1791 cc1792 cc1793 cc1794 cc1795 cc1796 cc1797 cc1798 cc1799 cc1800 cc1801 cc1802 cc1803 cc1804 cc1805 cc1806 cc1807 cc1808 cc1809 cc1810 cc1811 cc1812 ne1813 ne1814 ne1815 hw0 hi0 hi1 hla0 hla1 hla2 hlo0 hlo1 hlo2 hca0 hca1 hca2 hco0 hco1 hco2) pd_24 rfl at_547 [] rfl 0 (by decide) rfl rfl fun o1786 T1786 L1786 X1786 hQ1786 => ?_
           obtain ⟨rfl, N1786q, e1786⟩ := hQ1786
           have N1786 := Fr.app N1750 N1786q
           refine c_sh 550 [.int (own_cj [own_pk i0 (own_eq la0 ca0 lo0 co0) (own_eq la1 ca1 lo1 co1) (own_eq la2 ca2 lo2 co2), own_pk i1 (own_eq la0 ca0 lo0 co0) (own_eq la1 ca1 lo1 co1) (own_eq la2 ca2 lo2 co2)])] rfl rfl <| c_istore X1786 hx hby _ at_550 rfl <| c_iload X1786 hx hby at_552 rfl <| c_iconst X1786 hx hby 1 at_554 rfl <| c_icmpNo X1786 hx hby at_555 (by decide) <| c_iload X1786 hx hby at_558 rfl <| c_iload X1786 hx hby at_560 rfl <| c_iload X1786 hx hby at_562 rfl <| c_iload X1786 hx hby at_564 rfl <| c_shL #[iv p1, iv p2, iv p3, iv p4, iv 2, iv i0, iv i1, iv i2, rv b1632, rv b1636, iv ca0, iv ca1, iv ca2, iv cb0, iv cb1, iv cb2, iv q0, iv q1, iv q2, iv la0, iv la1, iv la2, iv lb0, iv lb1, iv lb2, rv b1669, rv b1691, iv (own_eq la0 ca0 lo0 co0), iv (own_eq la1 ca1 lo1 co1), iv (own_eq la2 ca2 lo2 co2), rv b1723, iv (own_cj [own_pk i0 (own_eq la0 ca0 lo0 co0) (own_eq la1 ca1 lo1 co1) (own_eq la2 ca2 lo2 co2), own_pk i1 (own_eq la0 ca0 lo0 co0) (own_eq la1 ca1 lo1 co1) (own_eq la2 ca2 lo2 co2)]), .unset] rfl <| c_callS X1786 hx hby hZ hown hml (gw hw 231 rfl) (gw hw 232 rfl) (gw hw 31 rfl) (gw hw 233 rfl) e1786 (rm34 hw i0 (own_eq la0 ca0 lo0 co0) (own_eq la1 ca1 lo1 co1) (own_eq la2 ca2 lo2 co2) (T1750.heap) n0 ZN1750 (own_eqb _ _ _ _) (own_eqb _ _ _ _) (own_eqb _ _ _ _)) pd_25 rfl at_566 [] rfl 0 (by decide) rfl rfl fun o1817 T1817 L1817 X1817 hQ1817 => ?_
           obtain ⟨rfl, N1817q, e1817⟩ := hQ1817
           have N1817 := Fr.app N1786 N1817q
           refine c_sh 569 [.int (own_pk i0 (own_eq la0 ca0 lo0 co0) (own_eq la1 ca1 lo1 co1) (own_eq la2 ca2 lo2 co2))] rfl rfl ?_
           by_cases hc569_1818 : (own_pk i0 (own_eq la0 ca0 lo0 co0) (own_eq la1 ca1 lo1 co1) (own_eq la2 ca2 lo2 co2)) = (0 : Int32)
           ·refine c_ifYes X1817 hx hby 616 at_569 ((if0 _ _).trans (teq hc569_1818).1) (by decide) <| c_iconst X1817 hx hby 0 at_616 rfl <| c_istore X1817 hx hby _ at_617 rfl <| c_iload X1817 hx hby at_619 rfl <| c_iload X1817 hx hby at_621 rfl <| c_icmpNo X1817 hx hby at_623 (teq (by rw [own_cj_z hc569_1818])).2 <| c_iconst X1817 hx hby 1 at_626 rfl <| c_goto X1817 hx hby 631 at_627 (by decide) <| c_shL #[iv p1, iv p2, iv p3, iv p4, iv 2, iv i0, iv i1, iv i2, rv b1632, rv b1636, iv ca0, iv ca1, iv ca2, iv cb0, iv cb1, iv cb2, iv q0, iv q1, iv q2, iv la0, iv la1, iv la2, iv lb0, iv lb1, iv lb2, rv b1669, rv b1691, iv (own_eq la0 ca0 lo0 co0), iv (own_eq la1 ca1 lo1 co1), iv (own_eq la2 ca2 lo2 co2), rv b1723, iv (own_cj [own_pk i0 (own_eq la0 ca0 lo0 co0) (own_eq la1 ca1 lo1 co1) (own_eq la2 ca2 lo2 co2), own_pk i1 (own_eq la0 ca0 lo0 co0) (own_eq la1 ca1 lo1 co1) (own_eq la2 ca2 lo2 co2)]), iv 0] rfl ?_
            refine goRetH X1817 hZ (own_EW hw) ch1750 hh e1817 hS1724 HK1750 hx Bd.notSynchronized Bd.returns rfl (Or.inl ⟨rfl, Or.inr (Or.inl rfl), _, rfl⟩) (hb hby at_631) (by decide) (by decide) ⟨rfl, N1817⟩
           ·refine c_ifNo X1817 hx hby at_569 ((if0 _ _).trans (feq hc569_1818).1) <| c_iload X1817 hx hby at_572 rfl <| c_iconst X1817 hx hby 2 at_574 rfl <| c_icmpNo X1817 hx hby at_575 (by decide) <| c_iload X1817 hx hby at_578 rfl <| c_iload X1817 hx hby at_580 rfl <| c_iload X1817 hx hby at_582 rfl <| c_iload X1817 hx hby at_584 rfl <| c_callS X1817 hx hby hZ hown hml (gw hw 231 rfl) (gw hw 232 rfl) (gw hw 31 rfl) (gw hw 233 rfl) e1817 (rm34 hw i1 (own_eq la0 ca0 lo0 co0) (own_eq la1 ca1 lo1 co1) (own_eq la2 ca2 lo2 co2) (T1750.heap) n0 ZN1750 (own_eqb _ _ _ _) (own_eqb _ _ _ _) (own_eqb _ _ _ _)) pd_25 rfl at_586 [] rfl 0 (by decide) rfl rfl fun o1819 T1819 L1819 X1819 hQ1819 => ?_
            obtain ⟨rfl, N1819q, e1819⟩ := hQ1819
            have N1819 := Fr.app N1817 N1819q
            refine c_sh 589 [.int (own_pk i1 (own_eq la0 ca0 lo0 co0) (own_eq la1 ca1 lo1 co1) (own_eq la2 ca2 lo2 co2))] rfl rfl ?_
            by_cases hc589_1820 : (own_pk i1 (own_eq la0 ca0 lo0 co0) (own_eq la1 ca1 lo1 co1) (own_eq la2 ca2 lo2 co2)) = (0 : Int32)
            ·refine c_ifYes X1819 hx hby 616 at_589 ((if0 _ _).trans (teq hc589_1820).1) (by decide) <| c_iconst X1819 hx hby 0 at_616 rfl <| c_istore X1819 hx hby _ at_617 rfl <| c_iload X1819 hx hby at_619 rfl <| c_iload X1819 hx hby at_621 rfl <| c_icmpNo X1819 hx hby at_623 (teq (by rw [own_cj_n hc569_1818, own_cj_z hc589_1820])).2 <| c_iconst X1819 hx hby 1 at_626 rfl <| c_goto X1819 hx hby 631 at_627 (by decide) <| c_shL #[iv p1, iv p2, iv p3, iv p4, iv 2, iv i0, iv i1, iv i2, rv b1632, rv b1636, iv ca0, iv ca1, iv ca2, iv cb0, iv cb1, iv cb2, iv q0, iv q1, iv q2, iv la0, iv la1, iv la2, iv lb0, iv lb1, iv lb2, rv b1669, rv b1691, iv (own_eq la0 ca0 lo0 co0), iv (own_eq la1 ca1 lo1 co1), iv (own_eq la2 ca2 lo2 co2), rv b1723, iv (own_cj [own_pk i0 (own_eq la0 ca0 lo0 co0) (own_eq la1 ca1 lo1 co1) (own_eq la2 ca2 lo2 co2), own_pk i1 (own_eq la0 ca0 lo0 co0) (own_eq la1 ca1 lo1 co1) (own_eq la2 ca2 lo2 co2)]), iv 0] rfl ?_
             refine goRetH X1819 hZ (own_EW hw) ch1750 hh e1819 hS1724 HK1750 hx Bd.notSynchronized Bd.returns rfl (Or.inl ⟨rfl, Or.inr (Or.inl rfl), _, rfl⟩) (hb hby at_631) (by decide) (by decide) ⟨rfl, N1819⟩
            ·refine c_ifNo X1819 hx hby at_589 ((if0 _ _).trans (feq hc589_1820).1) <| c_iload X1819 hx hby at_592 rfl <| c_iconst X1819 hx hby 3 at_594 rfl <| c_icmpYes X1819 hx hby 612 at_595 (by decide) (by decide) <| c_iconst X1819 hx hby 1 at_612 rfl <| c_goto X1819 hx hby 617 at_613 (by decide) <| c_istore X1819 hx hby _ at_617 rfl <| c_iload X1819 hx hby at_619 rfl <| c_iload X1819 hx hby at_621 rfl <| c_icmpNo X1819 hx hby at_623 (teq (by rw [own_cj_n hc569_1818, own_cj_n hc589_1820]; rfl)).2 <| c_iconst X1819 hx hby 1 at_626 rfl <| c_goto X1819 hx hby 631 at_627 (by decide) <| c_shL #[iv p1, iv p2, iv p3, iv p4, iv 2, iv i0, iv i1, iv i2, rv b1632, rv b1636, iv ca0, iv ca1, iv ca2, iv cb0, iv cb1, iv cb2, iv q0, iv q1, iv q2, iv la0, iv la1, iv la2, iv lb0, iv lb1, iv lb2, rv b1669, rv b1691, iv (own_eq la0 ca0 lo0 co0), iv (own_eq la1 ca1 lo1 co1), iv (own_eq la2 ca2 lo2 co2), rv b1723, iv (own_cj [own_pk i0 (own_eq la0 ca0 lo0 co0) (own_eq la1 ca1 lo1 co1) (own_eq la2 ca2 lo2 co2), own_pk i1 (own_eq la0 ca0 lo0 co0) (own_eq la1 ca1 lo1 co1) (own_eq la2 ca2 lo2 co2)]), iv 1] rfl ?_
             refine goRetH X1819 hZ (own_EW hw) ch1750 hh e1819 hS1724 HK1750 hx Bd.notSynchronized Bd.returns rfl (Or.inl ⟨rfl, Or.inr (Or.inl rfl), _, rfl⟩) (hb hby at_631) (by decide) (by decide) ⟨rfl, N1819⟩
          refine c_iload X1714 hx hby at_487 rfl ?_
          by_cases hc489_1821 : q2 = (0 : Int32)
          ·refine c_ifNo X1714 hx hby at_489 ((if0 _ _).trans (teq hc489_1821).2) <| c_iload X1714 hx hby at_492 rfl <| c_iload X1714 hx hby at_494 rfl ?_
           by_cases hc496_1822 : la2 = lb2
           ·refine c_icmpNo X1714 hx hby at_496 (teq hc496_1822).2 <| c_iload X1714 hx hby at_499 rfl ?_
            by_cases hc501_1823 : la2 = (0 : Int32)
            ·refine c_ifYes X1714 hx hby 511 at_501 ((if0 _ _).trans (teq hc501_1823).1) (by decide) <| c_iconst X1714 hx hby 1 at_511 rfl <| c_goto X1714 hx hby 516 at_512 (by decide) ?_
             exact JE2_1721 _ ((own_e ho2).trans ((if_neg (fun k => k hc489_1821)).trans (if_pos ⟨hc496_1822, Or.inl hc501_1823⟩))).symm
            ·refine c_ifNo X1714 hx hby at_501 ((if0 _ _).trans (feq hc501_1823).1) <| c_iload X1714 hx hby at_504 rfl <| c_iload X1714 hx hby at_506 rfl ?_
             by_cases hc508_1824 : ca2 = cb2
             ·refine c_icmpNo X1714 hx hby at_508 (teq hc508_1824).2 <| c_iconst X1714 hx hby 1 at_511 rfl <| c_goto X1714 hx hby 516 at_512 (by decide) ?_
              exact JE2_1721 _ ((own_e ho2).trans ((if_neg (fun k => k hc489_1821)).trans (if_pos ⟨hc496_1822, Or.inr hc508_1824⟩))).symm
             ·refine c_icmpYes X1714 hx hby 515 at_508 (feq hc508_1824).2 (by decide) <| c_iconst X1714 hx hby 0 at_515 rfl ?_
              exact JE2_1721 _ ((own_e ho2).trans ((if_neg (fun k => k hc489_1821)).trans (if_neg fun h => h.2.elim hc501_1823 hc508_1824))).symm
           ·refine c_icmpYes X1714 hx hby 515 at_496 (feq hc496_1822).2 (by decide) <| c_iconst X1714 hx hby 0 at_515 rfl ?_
            exact JE2_1721 _ ((own_e ho2).trans ((if_neg (fun k => k hc489_1821)).trans (if_neg fun h => hc496_1822 h.1))).symm
          ·refine c_ifYes X1714 hx hby 511 at_489 ((if0 _ _).trans (feq hc489_1821).2) (by decide) <| c_iconst X1714 hx hby 1 at_511 rfl <| c_goto X1714 hx hby 516 at_512 (by decide) ?_
           exact JE2_1721 _ ((own_e ho2).trans (if_pos hc489_1821)).symm
         refine c_iload X1714 hx hby at_456 rfl ?_
         by_cases hc458_1825 : q1 = (0 : Int32)
         ·refine c_ifNo X1714 hx hby at_458 ((if0 _ _).trans (teq hc458_1825).2) <| c_iload X1714 hx hby at_461 rfl <| c_iload X1714 hx hby at_463 rfl ?_
          by_cases hc465_1826 : la1 = lb1
          ·refine c_icmpNo X1714 hx hby at_465 (teq hc465_1826).2 <| c_iload X1714 hx hby at_468 rfl ?_
           by_cases hc470_1827 : la1 = (0 : Int32)
           ·refine c_ifYes X1714 hx hby 480 at_470 ((if0 _ _).trans (teq hc470_1827).1) (by decide) <| c_iconst X1714 hx hby 1 at_480 rfl <| c_goto X1714 hx hby 485 at_481 (by decide) ?_
            exact JE1_1719 _ ((own_e ho1).trans ((if_neg (fun k => k hc458_1825)).trans (if_pos ⟨hc465_1826, Or.inl hc470_1827⟩))).symm
           ·refine c_ifNo X1714 hx hby at_470 ((if0 _ _).trans (feq hc470_1827).1) <| c_iload X1714 hx hby at_473 rfl <| c_iload X1714 hx hby at_475 rfl ?_
            by_cases hc477_1828 : ca1 = cb1
            ·refine c_icmpNo X1714 hx hby at_477 (teq hc477_1828).2 <| c_iconst X1714 hx hby 1 at_480 rfl <| c_goto X1714 hx hby 485 at_481 (by decide) ?_
             exact JE1_1719 _ ((own_e ho1).trans ((if_neg (fun k => k hc458_1825)).trans (if_pos ⟨hc465_1826, Or.inr hc477_1828⟩))).symm
            ·refine c_icmpYes X1714 hx hby 484 at_477 (feq hc477_1828).2 (by decide) <| c_iconst X1714 hx hby 0 at_484 rfl ?_
             exact JE1_1719 _ ((own_e ho1).trans ((if_neg (fun k => k hc458_1825)).trans (if_neg fun h => h.2.elim hc470_1827 hc477_1828))).symm
          ·refine c_icmpYes X1714 hx hby 484 at_465 (feq hc465_1826).2 (by decide) <| c_iconst X1714 hx hby 0 at_484 rfl ?_
           exact JE1_1719 _ ((own_e ho1).trans ((if_neg (fun k => k hc458_1825)).trans (if_neg fun h => hc465_1826 h.1))).symm
         ·refine c_ifYes X1714 hx hby 480 at_458 ((if0 _ _).trans (feq hc458_1825).2) (by decide) <| c_iconst X1714 hx hby 1 at_480 rfl <| c_goto X1714 hx hby 485 at_481 (by decide) ?_
          exact JE1_1719 _ ((own_e ho1).trans (if_pos hc458_1825)).symm
        refine c_iload X1714 hx hby at_425 rfl ?_
        by_cases hc427_1829 : q0 = (0 : Int32)
        ·refine c_ifNo X1714 hx hby at_427 ((if0 _ _).trans (teq hc427_1829).2) <| c_iload X1714 hx hby at_430 rfl <| c_iload X1714 hx hby at_432 rfl ?_
         by_cases hc434_1830 : la0 = lb0
         ·refine c_icmpNo X1714 hx hby at_434 (teq hc434_1830).2 <| c_iload X1714 hx hby at_437 rfl ?_
          by_cases hc439_1831 : la0 = (0 : Int32)
          ·refine c_ifYes X1714 hx hby 449 at_439 ((if0 _ _).trans (teq hc439_1831).1) (by decide) <| c_iconst X1714 hx hby 1 at_449 rfl <| c_goto X1714 hx hby 454 at_450 (by decide) ?_
           exact JE0_1717 _ ((own_e ho0).trans ((if_neg (fun k => k hc427_1829)).trans (if_pos ⟨hc434_1830, Or.inl hc439_1831⟩))).symm
          ·refine c_ifNo X1714 hx hby at_439 ((if0 _ _).trans (feq hc439_1831).1) <| c_iload X1714 hx hby at_442 rfl <| c_iload X1714 hx hby at_444 rfl ?_
           by_cases hc446_1832 : ca0 = cb0
           ·refine c_icmpNo X1714 hx hby at_446 (teq hc446_1832).2 <| c_iconst X1714 hx hby 1 at_449 rfl <| c_goto X1714 hx hby 454 at_450 (by decide) ?_
            exact JE0_1717 _ ((own_e ho0).trans ((if_neg (fun k => k hc427_1829)).trans (if_pos ⟨hc434_1830, Or.inr hc446_1832⟩))).symm
           ·refine c_icmpYes X1714 hx hby 453 at_446 (feq hc446_1832).2 (by decide) <| c_iconst X1714 hx hby 0 at_453 rfl ?_
            exact JE0_1717 _ ((own_e ho0).trans ((if_neg (fun k => k hc427_1829)).trans (if_neg fun h => h.2.elim hc439_1831 hc446_1832))).symm
         ·refine c_icmpYes X1714 hx hby 453 at_434 (feq hc434_1830).2 (by decide) <| c_iconst X1714 hx hby 0 at_453 rfl ?_
          exact JE0_1717 _ ((own_e ho0).trans ((if_neg (fun k => k hc427_1829)).trans (if_neg fun h => hc434_1830 h.1))).symm
        ·refine c_ifYes X1714 hx hby 449 at_427 ((if0 _ _).trans (feq hc427_1829).2) (by decide) <| c_iconst X1714 hx hby 1 at_449 rfl <| c_goto X1714 hx hby 454 at_450 (by decide) ?_
         exact JE0_1717 _ ((own_e ho0).trans (if_pos hc427_1829)).symm
       refine c_iload X1709 hx hby at_400 rfl ?_
       by_cases hc402_1833 : q2 = (0 : Int32)
       ·refine c_ifYes X1709 hx hby 415 at_402 ((if0 _ _).trans (teq hc402_1833).1) (by decide) <| c_iload X1709 hx hby at_415 rfl <| c_iload X1709 hx hby at_417 rfl <| c_callSH X1709 hx hby hZ hown hml (gw hw 29 rfl) (gw hw 30 rfl) (gw hw 31 rfl) (gw hw 32 rfl) e1709 (own_EW hw) ch1709 hS1708 HK1709 (rmMK hw lb2 cb2 w0 h1709 n0 ZN1709 P1 OL1709 hw0 hlb2 hcb2) pd_22 rfl at_419 [.int 2, .ref b1691, .ref b1691] rfl 3 (by decide) rfl rfl fun o1834 T1834 L1834 X1834 hS1834 hZ hown hR1834 ch1834 hQ1834 => ?_
        obtain ⟨b1834, bb1834, kb1834, rfl, N1834q, u1834_0, u1834_1, K1834, u1834_3, u1834_4, u1834_5, u1834_6⟩ := hQ1834
        have N1834 := Fr.app NN1709 N1834q
        have G_b1834 := Nat.le_trans ZN1709 u1834_0
        have KK1834 := KK1709.trans K1834 all0
        have ZN1834 := Nat.le_trans ZN1709 K1834.1
        have OL1834 := OL1709.keep K1834 all0
        refine c_sh 422 [.ref b1834, .int 2, .ref b1691, .ref b1691] rfl rfl ?_
        have cc1835 := (ff1708_0.wr W1709).keep K1834
        have cc1836 := (ff1708_1.other W1709 ne1695).keep K1834 nin0
        have cc1837 := (ff1708_2.wr W1709).keep K1834
        have cc1838 := (ff1708_3.wr W1709).keep K1834
        have cc1839 := (ff1708_4.wr W1709).keep K1834
        have cc1840 := (ff1708_5.wr W1709).keep K1834
        have cc1841 := (ff1708_6.other W1709 (Or.inl ne1696)).keep K1834 nin0
        have cc1842 := (ff1708_7.other W1709 (Or.inl ne1696)).keep K1834 nin0
        have cc1843 := (ff1708_8.other W1709 ne1697).keep K1834 nin0
        have cc1844 := (ff1708_9.wr W1709).keep K1834
        have cc1845 := (ff1708_10.other W1709 ne1698).keep K1834 nin0
        have cc1846 := (ff1708_11.wr W1709).keep K1834
        have cc1847 := (ff1708_12.other W1709 (Or.inl ne1699)).keep K1834 nin0
        have cc1848 := (ff1708_13.other W1709 (Or.inl ne1699)).keep K1834 nin0
        have cc1849 := (ff1708_14.other W1709 ne1700).keep K1834 nin0
        have cc1850 := (ff1708_15.wr W1709).keep K1834
        have cc1851 := (ff1708_16.other W1709 (Or.inl ne1701)).keep K1834 nin0
        have cc1852 := (ff1708_17.other W1709 (Or.inl ne1701)).keep K1834 nin0
        have cc1853 := (ff1708_18.other W1709 ne1702).keep K1834 nin0
        have cc1854 := (ff1708_19.wr W1709).keep K1834
        have cc1855 := (ff1708_20.other W1709 (Or.inl ne1703)).keep K1834 nin0
        have cc1856 := (ff1708_21.other W1709 (Or.inl ne1703)).keep K1834 nin0
        have cc1857 := (ff1708_22.other W1709 ne1704).keep K1834 nin0
        have cc1858 := (ff1708_23.wr W1709).keep K1834
        have cc1859 := VV1709.keep K1834 nin0
        have cc1860 := (ff1708_25.wr W1709).keep K1834
        have cc1861 := (ff1708_26.other W1709 (Or.inl ne1705)).keep K1834 nin0
        have cc1862 := (ff1708_27.other W1709 (Or.inl ne1705)).keep K1834 nin0
        have cc1863 := (ff1708_28.other W1709 ne1706).keep K1834 nin0
        have cc1864 := (ff1708_29.wr W1709).keep K1834
        have cc1865 := (ff1708_30.other W1709 (Or.inl ne1710)).keep K1834 nin0
        have cc1866 := (ff1708_31.other W1709 (Or.inl ne1710)).keep K1834 nin0
        have cc1867 := (ff1708_32.other W1709 ne1711).keep K1834 nin0
        exact JO2_1712 b1834 bb1834 kb1834 lb2 cb2 T1834 _ X1834 hS1834 hZ hown N1834 KK1834 ZN1834 OL1834 ch1834 cc1835 cc1836 cc1837 cc1838 cc1839 cc1840 cc1841 cc1842 cc1843 cc1844 cc1845 cc1846 cc1847 cc1848 cc1849 cc1850 cc1851 cc1852 cc1853 cc1854 cc1855 cc1856 cc1857 cc1858 cc1859 cc1860 cc1861 cc1862 cc1863 cc1864 cc1865 cc1866 cc1867 u1834_3 u1834_4 u1834_5 u1834_6 u1834_0 (Or.inr ⟨hc402_1833, rfl, rfl⟩) hlb2 hcb2
       ·refine c_ifNo X1709 hx hby at_402 ((if0 _ _).trans (feq hc402_1833).1) <| c_iload X1709 hx hby at_405 rfl <| c_iload X1709 hx hby at_407 rfl <| c_callSH X1709 hx hby hZ hown hml (gw hw 29 rfl) (gw hw 30 rfl) (gw hw 31 rfl) (gw hw 32 rfl) e1709 (own_EW hw) ch1709 hS1708 HK1709 (rmMK hw la2 ca2 w0 h1709 n0 ZN1709 P1 OL1709 hw0 hla2 hca2) pd_22 rfl at_409 [.int 2, .ref b1691, .ref b1691] rfl 3 (by decide) rfl rfl fun o1868 T1868 L1868 X1868 hS1868 hZ hown hR1868 ch1868 hQ1868 => ?_
        obtain ⟨b1868, bb1868, kb1868, rfl, N1868q, u1868_0, u1868_1, K1868, u1868_3, u1868_4, u1868_5, u1868_6⟩ := hQ1868
        have N1868 := Fr.app NN1709 N1868q
        have G_b1868 := Nat.le_trans ZN1709 u1868_0
        have KK1868 := KK1709.trans K1868 all0
        have ZN1868 := Nat.le_trans ZN1709 K1868.1
        have OL1868 := OL1709.keep K1868 all0
        refine c_sh 412 [.ref b1868, .int 2, .ref b1691, .ref b1691] rfl rfl <| c_goto X1868 hx hby 422 at_412 (by decide) ?_
        have cc1869 := (ff1708_0.wr W1709).keep K1868
        have cc1870 := (ff1708_1.other W1709 ne1695).keep K1868 nin0
        have cc1871 := (ff1708_2.wr W1709).keep K1868
        have cc1872 := (ff1708_3.wr W1709).keep K1868
        have cc1873 := (ff1708_4.wr W1709).keep K1868
        have cc1874 := (ff1708_5.wr W1709).keep K1868
        have cc1875 := (ff1708_6.other W1709 (Or.inl ne1696)).keep K1868 nin0
        have cc1876 := (ff1708_7.other W1709 (Or.inl ne1696)).keep K1868 nin0
        have cc1877 := (ff1708_8.other W1709 ne1697).keep K1868 nin0
        have cc1878 := (ff1708_9.wr W1709).keep K1868
        have cc1879 := (ff1708_10.other W1709 ne1698).keep K1868 nin0
        have cc1880 := (ff1708_11.wr W1709).keep K1868
        have cc1881 := (ff1708_12.other W1709 (Or.inl ne1699)).keep K1868 nin0
        have cc1882 := (ff1708_13.other W1709 (Or.inl ne1699)).keep K1868 nin0
        have cc1883 := (ff1708_14.other W1709 ne1700).keep K1868 nin0
        have cc1884 := (ff1708_15.wr W1709).keep K1868
        have cc1885 := (ff1708_16.other W1709 (Or.inl ne1701)).keep K1868 nin0
        have cc1886 := (ff1708_17.other W1709 (Or.inl ne1701)).keep K1868 nin0
        have cc1887 := (ff1708_18.other W1709 ne1702).keep K1868 nin0
        have cc1888 := (ff1708_19.wr W1709).keep K1868
        have cc1889 := (ff1708_20.other W1709 (Or.inl ne1703)).keep K1868 nin0
        have cc1890 := (ff1708_21.other W1709 (Or.inl ne1703)).keep K1868 nin0
        have cc1891 := (ff1708_22.other W1709 ne1704).keep K1868 nin0
        have cc1892 := (ff1708_23.wr W1709).keep K1868
        have cc1893 := VV1709.keep K1868 nin0
        have cc1894 := (ff1708_25.wr W1709).keep K1868
        have cc1895 := (ff1708_26.other W1709 (Or.inl ne1705)).keep K1868 nin0
        have cc1896 := (ff1708_27.other W1709 (Or.inl ne1705)).keep K1868 nin0
        have cc1897 := (ff1708_28.other W1709 ne1706).keep K1868 nin0
        have cc1898 := (ff1708_29.wr W1709).keep K1868
        have cc1899 := (ff1708_30.other W1709 (Or.inl ne1710)).keep K1868 nin0
        have cc1900 := (ff1708_31.other W1709 (Or.inl ne1710)).keep K1868 nin0
        have cc1901 := (ff1708_32.other W1709 ne1711).keep K1868 nin0
        exact JO2_1712 b1868 bb1868 kb1868 la2 ca2 T1868 _ X1868 hS1868 hZ hown N1868 KK1868 ZN1868 OL1868 ch1868 cc1869 cc1870 cc1871 cc1872 cc1873 cc1874 cc1875 cc1876 cc1877 cc1878 cc1879 cc1880 cc1881 cc1882 cc1883 cc1884 cc1885 cc1886 cc1887 cc1888 cc1889 cc1890 cc1891 cc1892 cc1893 cc1894 cc1895 cc1896 cc1897 cc1898 cc1899 cc1900 cc1901 u1868_3 u1868_4 u1868_5 u1868_6 u1868_0 (Or.inl ⟨hc402_1833, rfl, rfl⟩) hla2 hca2
      refine c_iload X1694 hx hby at_375 rfl ?_
      by_cases hc377_1902 : q1 = (0 : Int32)
      ·refine c_ifYes X1694 hx hby 390 at_377 ((if0 _ _).trans (teq hc377_1902).1) (by decide) <| c_iload X1694 hx hby at_390 rfl <| c_iload X1694 hx hby at_392 rfl <| c_callSH X1694 hx hby hZ hown hml (gw hw 29 rfl) (gw hw 30 rfl) (gw hw 31 rfl) (gw hw 32 rfl) e1694 (own_EW hw) ch1694 hS1693 HK1694 (rmMK hw lb1 cb1 w0 h1694 n0 ZN1694 P1 OL1694 hw0 hlb1 hcb1) pd_22 rfl at_394 [.int 1, .ref b1691, .ref b1691] rfl 3 (by decide) rfl rfl fun o1903 T1903 L1903 X1903 hS1903 hZ hown hR1903 ch1903 hQ1903 => ?_
       obtain ⟨b1903, bb1903, kb1903, rfl, N1903q, u1903_0, u1903_1, K1903, u1903_3, u1903_4, u1903_5, u1903_6⟩ := hQ1903
       have N1903 := Fr.app NN1694 N1903q
       have G_b1903 := Nat.le_trans ZN1694 u1903_0
       have KK1903 := KK1694.trans K1903 all0
       have ZN1903 := Nat.le_trans ZN1694 K1903.1
       have OL1903 := OL1694.keep K1903 all0
       refine c_sh 397 [.ref b1903, .int 1, .ref b1691, .ref b1691] rfl rfl ?_
       have cc1904 := (ff1693_0.wr W1694).keep K1903
       have cc1905 := (ff1693_1.other W1694 ne1695).keep K1903 nin0
       have cc1906 := (ff1693_2.wr W1694).keep K1903
       have cc1907 := (ff1693_3.wr W1694).keep K1903
       have cc1908 := (ff1693_4.wr W1694).keep K1903
       have cc1909 := (ff1693_5.wr W1694).keep K1903
       have cc1910 := (ff1693_6.other W1694 (Or.inl ne1696)).keep K1903 nin0
       have cc1911 := (ff1693_7.other W1694 (Or.inl ne1696)).keep K1903 nin0
       have cc1912 := (ff1693_8.other W1694 ne1697).keep K1903 nin0
       have cc1913 := (ff1693_9.wr W1694).keep K1903
       have cc1914 := (ff1693_10.other W1694 ne1698).keep K1903 nin0
       have cc1915 := (ff1693_11.wr W1694).keep K1903
       have cc1916 := (ff1693_12.other W1694 (Or.inl ne1699)).keep K1903 nin0
       have cc1917 := (ff1693_13.other W1694 (Or.inl ne1699)).keep K1903 nin0
       have cc1918 := (ff1693_14.other W1694 ne1700).keep K1903 nin0
       have cc1919 := (ff1693_15.wr W1694).keep K1903
       have cc1920 := (ff1693_16.other W1694 (Or.inl ne1701)).keep K1903 nin0
       have cc1921 := (ff1693_17.other W1694 (Or.inl ne1701)).keep K1903 nin0
       have cc1922 := (ff1693_18.other W1694 ne1702).keep K1903 nin0
       have cc1923 := (ff1693_19.wr W1694).keep K1903
       have cc1924 := (ff1693_20.other W1694 (Or.inl ne1703)).keep K1903 nin0
       have cc1925 := (ff1693_21.other W1694 (Or.inl ne1703)).keep K1903 nin0
       have cc1926 := (ff1693_22.other W1694 ne1704).keep K1903 nin0
       have cc1927 := (ff1693_23.wr W1694).keep K1903
       have cc1928 := VV1694.keep K1903 nin0
       have cc1929 := (ff1693_25.wr W1694).keep K1903
       have cc1930 := (ff1693_26.other W1694 (Or.inl ne1705)).keep K1903 nin0
       have cc1931 := (ff1693_27.other W1694 (Or.inl ne1705)).keep K1903 nin0
       have cc1932 := (ff1693_28.other W1694 ne1706).keep K1903 nin0
       exact JO1_1707 b1903 bb1903 kb1903 lb1 cb1 T1903 _ X1903 hS1903 hZ hown N1903 KK1903 ZN1903 OL1903 ch1903 cc1904 cc1905 cc1906 cc1907 cc1908 cc1909 cc1910 cc1911 cc1912 cc1913 cc1914 cc1915 cc1916 cc1917 cc1918 cc1919 cc1920 cc1921 cc1922 cc1923 cc1924 cc1925 cc1926 cc1927 cc1928 cc1929 cc1930 cc1931 cc1932 u1903_3 u1903_4 u1903_5 u1903_6 u1903_0 (Or.inr ⟨hc377_1902, rfl, rfl⟩) hlb1 hcb1
      ·refine c_ifNo X1694 hx hby at_377 ((if0 _ _).trans (feq hc377_1902).1) <| c_iload X1694 hx hby at_380 rfl <| c_iload X1694 hx hby at_382 rfl <| c_callSH X1694 hx hby hZ hown hml (gw hw 29 rfl) (gw hw 30 rfl) (gw hw 31 rfl) (gw hw 32 rfl) e1694 (own_EW hw) ch1694 hS1693 HK1694 (rmMK hw la1 ca1 w0 h1694 n0 ZN1694 P1 OL1694 hw0 hla1 hca1) pd_22 rfl at_384 [.int 1, .ref b1691, .ref b1691] rfl 3 (by decide) rfl rfl fun o1933 T1933 L1933 X1933 hS1933 hZ hown hR1933 ch1933 hQ1933 => ?_
       obtain ⟨b1933, bb1933, kb1933, rfl, N1933q, u1933_0, u1933_1, K1933, u1933_3, u1933_4, u1933_5, u1933_6⟩ := hQ1933
       have N1933 := Fr.app NN1694 N1933q
       have G_b1933 := Nat.le_trans ZN1694 u1933_0
       have KK1933 := KK1694.trans K1933 all0
       have ZN1933 := Nat.le_trans ZN1694 K1933.1
       have OL1933 := OL1694.keep K1933 all0
       refine c_sh 387 [.ref b1933, .int 1, .ref b1691, .ref b1691] rfl rfl <| c_goto X1933 hx hby 397 at_387 (by decide) ?_
       have cc1934 := (ff1693_0.wr W1694).keep K1933
       have cc1935 := (ff1693_1.other W1694 ne1695).keep K1933 nin0
       have cc1936 := (ff1693_2.wr W1694).keep K1933
       have cc1937 := (ff1693_3.wr W1694).keep K1933
       have cc1938 := (ff1693_4.wr W1694).keep K1933
       have cc1939 := (ff1693_5.wr W1694).keep K1933
       have cc1940 := (ff1693_6.other W1694 (Or.inl ne1696)).keep K1933 nin0
       have cc1941 := (ff1693_7.other W1694 (Or.inl ne1696)).keep K1933 nin0
       have cc1942 := (ff1693_8.other W1694 ne1697).keep K1933 nin0
       have cc1943 := (ff1693_9.wr W1694).keep K1933
       have cc1944 := (ff1693_10.other W1694 ne1698).keep K1933 nin0
       have cc1945 := (ff1693_11.wr W1694).keep K1933
       have cc1946 := (ff1693_12.other W1694 (Or.inl ne1699)).keep K1933 nin0
       have cc1947 := (ff1693_13.other W1694 (Or.inl ne1699)).keep K1933 nin0
       have cc1948 := (ff1693_14.other W1694 ne1700).keep K1933 nin0
       have cc1949 := (ff1693_15.wr W1694).keep K1933
       have cc1950 := (ff1693_16.other W1694 (Or.inl ne1701)).keep K1933 nin0
       have cc1951 := (ff1693_17.other W1694 (Or.inl ne1701)).keep K1933 nin0
       have cc1952 := (ff1693_18.other W1694 ne1702).keep K1933 nin0
       have cc1953 := (ff1693_19.wr W1694).keep K1933
       have cc1954 := (ff1693_20.other W1694 (Or.inl ne1703)).keep K1933 nin0
       have cc1955 := (ff1693_21.other W1694 (Or.inl ne1703)).keep K1933 nin0
       have cc1956 := (ff1693_22.other W1694 ne1704).keep K1933 nin0
       have cc1957 := (ff1693_23.wr W1694).keep K1933
       have cc1958 := VV1694.keep K1933 nin0
       have cc1959 := (ff1693_25.wr W1694).keep K1933
       have cc1960 := (ff1693_26.other W1694 (Or.inl ne1705)).keep K1933 nin0
       have cc1961 := (ff1693_27.other W1694 (Or.inl ne1705)).keep K1933 nin0
       have cc1962 := (ff1693_28.other W1694 ne1706).keep K1933 nin0
       exact JO1_1707 b1933 bb1933 kb1933 la1 ca1 T1933 _ X1933 hS1933 hZ hown N1933 KK1933 ZN1933 OL1933 ch1933 cc1934 cc1935 cc1936 cc1937 cc1938 cc1939 cc1940 cc1941 cc1942 cc1943 cc1944 cc1945 cc1946 cc1947 cc1948 cc1949 cc1950 cc1951 cc1952 cc1953 cc1954 cc1955 cc1956 cc1957 cc1958 cc1959 cc1960 cc1961 cc1962 u1933_3 u1933_4 u1933_5 u1933_6 u1933_0 (Or.inl ⟨hc377_1902, rfl, rfl⟩) hla1 hca1
     refine c_iload X1691 hx hby at_350 rfl ?_
     by_cases hc352_1963 : q0 = (0 : Int32)
     ·refine c_ifYes X1691 hx hby 365 at_352 ((if0 _ _).trans (teq hc352_1963).1) (by decide) <| c_iload X1691 hx hby at_365 rfl <| c_iload X1691 hx hby at_367 rfl <| c_callSH X1691 hx hby hZ hown hml (gw hw 29 rfl) (gw hw 30 rfl) (gw hw 31 rfl) (gw hw 32 rfl) e1691 (own_EW hw) ch1691 hS1685 HK1691 (rmMK hw lb0 cb0 w0 h1691 n0 ZN1691 P1 OL1691 hw0 hlb0 hcb0) pd_22 rfl at_369 [.int 0, .ref b1691, .ref b1691] rfl 3 (by decide) rfl rfl fun o1964 T1964 L1964 X1964 hS1964 hZ hown hR1964 ch1964 hQ1964 => ?_
      obtain ⟨b1964, bb1964, kb1964, rfl, N1964q, u1964_0, u1964_1, K1964, u1964_3, u1964_4, u1964_5, u1964_6⟩ := hQ1964
      have N1964 := Fr.app NN1687 N1964q
      have G_b1964 := Nat.le_trans ZN1691 u1964_0
      have KK1964 := KK1691.trans K1964 all0
      have ZN1964 := Nat.le_trans ZN1691 K1964.1
      have OL1964 := OL1691.keep K1964 all0
      refine c_sh 372 [.ref b1964, .int 0, .ref b1691, .ref b1691] rfl rfl ?_
      have cc1965 := (((((((((((((((cc1635.wr W1634).ext E1636).keep K1637).ext E1642).keep K1643).ext E1650).keep K1651).ext E1669).keep K1670).wr W1672).keep K1679).wr W1681).keep K1685).wr W1687).ext E1691).keep K1964
      have cc1966 := ((((((((((((((V1634.ext E1636).keep K1637 (ninS ne1641 nin0)).ext E1642).keep K1643 (ninS ne1641 nin0)).ext E1650).keep K1651 (ninS ne1641 (ninS ne1659 nin0))).ext E1669).keep K1670 nin0).other W1672 ne1674).keep K1679 nin0).other W1681 ne1674).keep K1685 nin0).other W1687 ne1674).ext E1691).keep K1964 nin0
      have cc1967 := (((((((((cc1652.keep K1651).ext E1669).keep K1670).wr W1672).keep K1679).wr W1681).keep K1685).wr W1687).ext E1691).keep K1964
      have cc1968 := (((((((((((LE1642.keep K1643).ext E1650).keep K1651).ext E1669).keep K1670).wr W1672).keep K1679).wr W1681).keep K1685).wr W1687).ext E1691).keep K1964
      have cc1969 := ((((((((u1651_4.ext E1669).keep K1670).wr W1672).keep K1679).wr W1681).keep K1685).wr W1687).ext E1691).keep K1964
      have cc1970 := (((((((((LE1650.keep K1651).ext E1669).keep K1670).wr W1672).keep K1679).wr W1681).keep K1685).wr W1687).ext E1691).keep K1964
      have cc1971 := ((((((((u1651_2.ext E1669).keep K1670 nin0).other W1672 (Or.inl ne1675)).keep K1679 nin0).other W1681 (Or.inl ne1675)).keep K1685 nin0).other W1687 (Or.inl ne1675)).ext E1691).keep K1964 nin0
      have cc1972 := ((((((((u1651_3.ext E1669).keep K1670 nin0).other W1672 (Or.inl ne1675)).keep K1679 nin0).other W1681 (Or.inl ne1675)).keep K1685 nin0).other W1687 (Or.inl ne1675)).ext E1691).keep K1964 nin0
      have cc1973 := ((((((((u1651_5.ext E1669).keep K1670 nin0).other W1672 ne1676).keep K1679 nin0).other W1681 ne1676).keep K1685 nin0).other W1687 ne1676).ext E1691).keep K1964 nin0
      have cc1974 := ((cc1688.wr W1687).ext E1691).keep K1964
      have cc1975 := (VV1687.ext E1691).keep K1964 nin0
      have cc1976 := ((((((u1670_3.wr W1672).keep K1679).wr W1681).keep K1685).wr W1687).ext E1691).keep K1964
      have cc1977 := ((((((u1670_4.other W1672 (Or.inl ne1677)).keep K1679 nin0).other W1681 (Or.inl ne1677)).keep K1685 nin0).other W1687 (Or.inl ne1677)).ext E1691).keep K1964 nin0
      have cc1978 := ((((((u1670_5.other W1672 (Or.inl ne1677)).keep K1679 nin0).other W1681 (Or.inl ne1677)).keep K1685 nin0).other W1687 (Or.inl ne1677)).ext E1691).keep K1964 nin0
      have cc1979 := ((((((u1670_6.other W1672 ne1678).keep K1679 nin0).other W1681 ne1678).keep K1685 nin0).other W1687 ne1678).ext E1691).keep K1964 nin0
      have cc1980 := ((((u1679_3.wr W1681).keep K1685).wr W1687).ext E1691).keep K1964
      have cc1981 := ((((u1679_4.other W1681 (Or.inl ne1683)).keep K1685 nin0).other W1687 (Or.inl ne1683)).ext E1691).keep K1964 nin0
      have cc1982 := ((((u1679_5.other W1681 (Or.inl ne1683)).keep K1685 nin0).other W1687 (Or.inl ne1683)).ext E1691).keep K1964 nin0
      have cc1983 := ((((u1679_6.other W1681 ne1684).keep K1685 nin0).other W1687 ne1684).ext E1691).keep K1964 nin0
      have cc1984 := ((u1685_3.wr W1687).ext E1691).keep K1964
      have cc1985 := ((u1685_4.other W1687 (Or.inl ne1689)).ext E1691).keep K1964 nin0
      have cc1986 := ((u1685_5.other W1687 (Or.inl ne1689)).ext E1691).keep K1964 nin0
      have cc1987 := ((u1685_6.other W1687 ne1690).ext E1691).keep K1964 nin0
      have cc1988 := AE1691.keep K1964
      have cc1989 := V1691.keep K1964 nin0
      exact JO0_1692 b1964 bb1964 kb1964 lb0 cb0 T1964 _ X1964 hS1964 hZ hown N1964 KK1964 ZN1964 OL1964 ch1964 cc1965 cc1966 cc1967 cc1968 cc1969 cc1970 cc1971 cc1972 cc1973 cc1974 cc1975 cc1976 cc1977 cc1978 cc1979 cc1980 cc1981 cc1982 cc1983 cc1984 cc1985 cc1986 cc1987 cc1988 cc1989 u1964_3 u1964_4 u1964_5 u1964_6 u1964_0 (Or.inr ⟨hc352_1963, rfl, rfl⟩) hlb0 hcb0
     ·refine c_ifNo X1691 hx hby at_352 ((if0 _ _).trans (feq hc352_1963).1) <| c_iload X1691 hx hby at_355 rfl <| c_iload X1691 hx hby at_357 rfl <| c_callSH X1691 hx hby hZ hown hml (gw hw 29 rfl) (gw hw 30 rfl) (gw hw 31 rfl) (gw hw 32 rfl) e1691 (own_EW hw) ch1691 hS1685 HK1691 (rmMK hw la0 ca0 w0 h1691 n0 ZN1691 P1 OL1691 hw0 hla0 hca0) pd_22 rfl at_359 [.int 0, .ref b1691, .ref b1691] rfl 3 (by decide) rfl rfl fun o1990 T1990 L1990 X1990 hS1990 hZ hown hR1990 ch1990 hQ1990 => ?_
      obtain ⟨b1990, bb1990, kb1990, rfl, N1990q, u1990_0, u1990_1, K1990, u1990_3, u1990_4, u1990_5, u1990_6⟩ := hQ1990
      have N1990 := Fr.app NN1687 N1990q
      have G_b1990 := Nat.le_trans ZN1691 u1990_0
      have KK1990 := KK1691.trans K1990 all0
      have ZN1990 := Nat.le_trans ZN1691 K1990.1
      have OL1990 := OL1691.keep K1990 all0
      refine c_sh 362 [.ref b1990, .int 0, .ref b1691, .ref b1691] rfl rfl <| c_goto X1990 hx hby 372 at_362 (by decide) ?_
      have cc1991 := (((((((((((((((cc1635.wr W1634).ext E1636).keep K1637).ext E1642).keep K1643).ext E1650).keep K1651).ext E1669).keep K1670).wr W1672).keep K1679).wr W1681).keep K1685).wr W1687).ext E1691).keep K1990
      have cc1992 := ((((((((((((((V1634.ext E1636).keep K1637 (ninS ne1641 nin0)).ext E1642).keep K1643 (ninS ne1641 nin0)).ext E1650).keep K1651 (ninS ne1641 (ninS ne1659 nin0))).ext E1669).keep K1670 nin0).other W1672 ne1674).keep K1679 nin0).other W1681 ne1674).keep K1685 nin0).other W1687 ne1674).ext E1691).keep K1990 nin0
      have cc1993 := (((((((((cc1652.keep K1651).ext E1669).keep K1670).wr W1672).keep K1679).wr W1681).keep K1685).wr W1687).ext E1691).keep K1990
      have cc1994 := (((((((((((LE1642.keep K1643).ext E1650).keep K1651).ext E1669).keep K1670).wr W1672).keep K1679).wr W1681).keep K1685).wr W1687).ext E1691).keep K1990
      have cc1995 := ((((((((u1651_4.ext E1669).keep K1670).wr W1672).keep K1679).wr W1681).keep K1685).wr W1687).ext E1691).keep K1990
      have cc1996 := (((((((((LE1650.keep K1651).ext E1669).keep K1670).wr W1672).keep K1679).wr W1681).keep K1685).wr W1687).ext E1691).keep K1990
      have cc1997 := ((((((((u1651_2.ext E1669).keep K1670 nin0).other W1672 (Or.inl ne1675)).keep K1679 nin0).other W1681 (Or.inl ne1675)).keep K1685 nin0).other W1687 (Or.inl ne1675)).ext E1691).keep K1990 nin0
      have cc1998 := ((((((((u1651_3.ext E1669).keep K1670 nin0).other W1672 (Or.inl ne1675)).keep K1679 nin0).other W1681 (Or.inl ne1675)).keep K1685 nin0).other W1687 (Or.inl ne1675)).ext E1691).keep K1990 nin0
      have cc1999 := ((((((((u1651_5.ext E1669).keep K1670 nin0).other W1672 ne1676).keep K1679 nin0).other W1681 ne1676).keep K1685 nin0).other W1687 ne1676).ext E1691).keep K1990 nin0
      have cc2000 := ((cc1688.wr W1687).ext E1691).keep K1990
      have cc2001 := (VV1687.ext E1691).keep K1990 nin0
      have cc2002 := ((((((u1670_3.wr W1672).keep K1679).wr W1681).keep K1685).wr W1687).ext E1691).keep K1990
      have cc2003 := ((((((u1670_4.other W1672 (Or.inl ne1677)).keep K1679 nin0).other W1681 (Or.inl ne1677)).keep K1685 nin0).other W1687 (Or.inl ne1677)).ext E1691).keep K1990 nin0
      have cc2004 := ((((((u1670_5.other W1672 (Or.inl ne1677)).keep K1679 nin0).other W1681 (Or.inl ne1677)).keep K1685 nin0).other W1687 (Or.inl ne1677)).ext E1691).keep K1990 nin0
      have cc2005 := ((((((u1670_6.other W1672 ne1678).keep K1679 nin0).other W1681 ne1678).keep K1685 nin0).other W1687 ne1678).ext E1691).keep K1990 nin0
      have cc2006 := ((((u1679_3.wr W1681).keep K1685).wr W1687).ext E1691).keep K1990
      have cc2007 := ((((u1679_4.other W1681 (Or.inl ne1683)).keep K1685 nin0).other W1687 (Or.inl ne1683)).ext E1691).keep K1990 nin0
      have cc2008 := ((((u1679_5.other W1681 (Or.inl ne1683)).keep K1685 nin0).other W1687 (Or.inl ne1683)).ext E1691).keep K1990 nin0
      have cc2009 := ((((u1679_6.other W1681 ne1684).keep K1685 nin0).other W1687 ne1684).ext E1691).keep K1990 nin0
      have cc2010 := ((u1685_3.wr W1687).ext E1691).keep K1990
      have cc2011 := ((u1685_4.other W1687 (Or.inl ne1689)).ext E1691).keep K1990 nin0
      have cc2012 := ((u1685_5.other W1687 (Or.inl ne1689)).ext E1691).keep K1990 nin0
      have cc2013 := ((u1685_6.other W1687 ne1690).ext E1691).keep K1990 nin0
      have cc2014 := AE1691.keep K1990
      have cc2015 := V1691.keep K1990 nin0
      exact JO0_1692 b1990 bb1990 kb1990 la0 ca0 T1990 _ X1990 hS1990 hZ hown N1990 KK1990 ZN1990 OL1990 ch1990 cc1991 cc1992 cc1993 cc1994 cc1995 cc1996 cc1997 cc1998 cc1999 cc2000 cc2001 cc2002 cc2003 cc2004 cc2005 cc2006 cc2007 cc2008 cc2009 cc2010 cc2011 cc2012 cc2013 cc2014 cc2015 u1990_3 u1990_4 u1990_5 u1990_6 u1990_0 (Or.inl ⟨hc352_1963, rfl, rfl⟩) hla0 hca0
    refine c_iloadN X1651 hx hby at_248 rfl <| c_iconst X1651 hx hby 2 at_249 rfl <| c_iushr X1651 hx hby at_250 <| c_iconst X1651 hx hby 1 at_251 rfl <| c_iand X1651 hx hby at_252 ?_
    by_cases hc253_2016 : (((p4.toUInt32 >>> ((2 : Int32) &&& 31).toUInt32).toInt32) &&& (1 : Int32)) = (0 : Int32)
    ·refine c_ifYes X1651 hx hby 260 at_253 ((if0 _ _).trans (teq hc253_2016).1) (by decide) <| c_iconst X1651 hx hby 0 at_260 rfl ?_
     exact JQ2_1668 _
    ·refine c_ifNo X1651 hx hby at_253 ((if0 _ _).trans (feq hc253_2016).1) <| c_iconst X1651 hx hby 1 at_256 rfl <| c_goto X1651 hx hby 261 at_257 (by decide) ?_
     exact JQ2_1668 _
   refine c_iloadN X1651 hx hby at_233 rfl <| c_iconst X1651 hx hby 1 at_234 rfl <| c_iushr X1651 hx hby at_235 <| c_iconst X1651 hx hby 1 at_236 rfl <| c_iand X1651 hx hby at_237 ?_
   by_cases hc238_2017 : (((p4.toUInt32 >>> ((1 : Int32) &&& 31).toUInt32).toInt32) &&& (1 : Int32)) = (0 : Int32)
   ·refine c_ifYes X1651 hx hby 245 at_238 ((if0 _ _).trans (teq hc238_2017).1) (by decide) <| c_iconst X1651 hx hby 0 at_245 rfl ?_
    exact JQ1_1667 _
   ·refine c_ifNo X1651 hx hby at_238 ((if0 _ _).trans (feq hc238_2017).1) <| c_iconst X1651 hx hby 1 at_241 rfl <| c_goto X1651 hx hby 246 at_242 (by decide) ?_
    exact JQ1_1667 _
  refine c_sh 220 [] rfl rfl <| c_iloadN X1651 hx hby at_220 rfl <| c_iconst X1651 hx hby 1 at_221 rfl <| c_iand X1651 hx hby at_222 ?_
  by_cases hc223_2018 : (p4 &&& (1 : Int32)) = (0 : Int32)
  ·refine c_ifYes X1651 hx hby 230 at_223 ((if0 _ _).trans (teq hc223_2018).1) (by decide) <| c_iconst X1651 hx hby 0 at_230 rfl ?_
   exact JQ0_1666 _
  ·refine c_ifNo X1651 hx hby at_223 ((if0 _ _).trans (feq hc223_2018).1) <| c_iconst X1651 hx hby 1 at_226 rfl <| c_goto X1651 hx hby 231 at_227 (by decide) ?_
   exact JQ0_1666 _
 ·refine c_sh 33 [] rfl rfl <| c_iload X0 hx hby at_33 rfl <| c_ifYes X0 hx hby 46 at_35 (by decide) (by decide) <| c_iload X0 hx hby at_46 rfl <| c_iconst X0 hx hby 1 at_48 rfl <| c_icmpYes X0 hx hby 65 at_49 (by decide) (by decide) <| c_iload X0 hx hby at_65 rfl <| c_iconst X0 hx hby 2 at_67 rfl <| c_icmpYes X0 hx hby 89 at_68 (by decide) (by decide) <| c_iconst X0 hx hby 3 at_89 rfl <| c_newP X0 hx hby hZ (gw hw 0 rfl) e0 at_90 (by decide) 3 (by decide) (by decide) "[I" (by first | rfl | decide) fun T2019 h2019 k2019 b2019 g2019 X2019 e2019 E2019 A2019 AE2019 => ?_
  have G_b2019 := Nat.le_trans Z0 (Nat.le_of_eq g2019.symm)
  have KK2019 := (Keep.refl h0 []).ext E2019
  have ZN2019 := Nat.le_trans Z0 E2019.1
  have HK2019 : 0 ≤ h2019.size := Nat.le_trans (Nat.zero_le _) E2019.1
  have OL2019 := P0.ext E2019
  have ch2019 := ch0.trans (CHr.ext E2019 ch0.1)
  have V2019 : Arv Z h2019 b2019 k2019 .int (3 : Int32) [(.int (0 : Int32)), (.int (0 : Int32)), (.int (0 : Int32))] (.int (0 : Int32)) := (Arv.new A2019 (by decide)).pad (pad_rep [] (.int (0 : Int32)) 3)
  refine c_sh 92 [.ref b2019] rfl rfl <| c_dup X2019 hx hby at_92 rfl <| c_iconst X2019 hx hby 0 at_93 rfl <| c_iload X2019 hx hby at_94 rfl <| c_ist X2019 hx hby hZ e2019 V2019 (by decide) 0 rfl (Nat.le_of_ble_eq_true rfl) at_96 fun T2020 h2020 X2020 e2020 W2020 V2020 => ?_
  have V2020 : Arv Z h2020 b2019 k2019 .int (3 : Int32) [(.int i0), (.int (0 : Int32)), (.int (0 : Int32))] (.int (0 : Int32)) := V2020
  have KK2020 := KK2019.wr W2020 (Or.inr (Nat.le_trans (Keep.refl h0 []).1 (Nat.le_of_eq g2019.symm)))
  have ZN2020 := Nat.le_trans ZN2019 (Keep.of_wr W2020).1
  have HK2020 : 0 ≤ h2020.size := Nat.le_trans HK2019 (Keep.of_wr W2020).1
  have NN2020 := Fr.snoc X2020 N0 G_b2019
  have OL2020 := OL2019.wr W2020 G_b2019
  have ch2020 := ch2019.trans (CHr.wr W2020 (Safe.exa hZ.alike AE2019 (by decide) (by decide)) ch2019.1)
  refine c_sh 97 [.ref b2019] rfl rfl <| c_dup X2020 hx hby at_97 rfl <| c_iconst X2020 hx hby 1 at_98 rfl <| c_iload X2020 hx hby at_99 rfl <| c_ist X2020 hx hby hZ e2020 V2020 (by decide) 1 rfl (Nat.le_of_ble_eq_true rfl) at_101 fun T2021 h2021 X2021 e2021 W2021 V2021 => ?_
  have V2021 : Arv Z h2021 b2019 k2019 .int (3 : Int32) [(.int i0), (.int i1), (.int (0 : Int32))] (.int (0 : Int32)) := V2021
  have cc2022 := AE2019.wr W2020
  have KK2021 := KK2020.wr W2021 (Or.inr (Nat.le_trans (Keep.refl h0 []).1 (Nat.le_of_eq g2019.symm)))
  have ZN2021 := Nat.le_trans ZN2020 (Keep.of_wr W2021).1
  have HK2021 : 0 ≤ h2021.size := Nat.le_trans HK2020 (Keep.of_wr W2021).1
  have NN2021 := Fr.snoc X2021 NN2020 G_b2019
  have OL2021 := OL2020.wr W2021 G_b2019
  have ch2021 := ch2020.trans (CHr.wr W2021 (Safe.exa hZ.alike cc2022 (by decide) (by decide)) ch2020.1)
  refine c_sh 102 [.ref b2019] rfl rfl <| c_dup X2021 hx hby at_102 rfl <| c_iconst X2021 hx hby 2 at_103 rfl <| c_iload X2021 hx hby at_104 rfl <| c_ist X2021 hx hby hZ e2021 V2021 (by decide) 2 rfl (Nat.le_of_ble_eq_true rfl) at_106 fun T2023 h2023 X2023 e2023 W2023 V2023 => ?_
  have V2023 : Arv Z h2023 b2019 k2019 .int (3 : Int32) [(.int i0), (.int i1), (.int i2)] (.int (0 : Int32)) := V2023
  have cc2024 := cc2022.wr W2021
  have KK2023 := KK2021.wr W2023 (Or.inr (Nat.le_trans (Keep.refl h0 []).1 (Nat.le_of_eq g2019.symm)))
  have ZN2023 := Nat.le_trans ZN2021 (Keep.of_wr W2023).1
  have HK2023 : 0 ≤ h2023.size := Nat.le_trans HK2021 (Keep.of_wr W2023).1
  have NN2023 := Fr.snoc X2023 NN2021 G_b2019
  have OL2023 := OL2021.wr W2023 G_b2019
  have ch2023 := ch2021.trans (CHr.wr W2023 (Safe.exa hZ.alike cc2024 (by decide) (by decide)) ch2021.1)
  refine c_sh 107 [.ref b2019] rfl rfl <| c_astore X2023 hx hby _ at_107 rfl rfl <| c_shL #[iv p1, iv p2, iv p3, iv p4, iv 3, iv i0, iv i1, iv i2, rv b2019, .unset, .unset, .unset, .unset, .unset, .unset, .unset, .unset, .unset, .unset, .unset, .unset, .unset, .unset, .unset, .unset, .unset, .unset, .unset, .unset, .unset, .unset, .unset, .unset] rfl <| c_new X2023 hx hby hZ hown (gw hw 1 rfl) (gw hw 2 rfl) (gw hw 3 rfl) e2023 at_109 (by decide) fun T2025 h2025 b2025 g2025 X2025 e2025 E2025 A2025 D2025 => ?_
  have G_b2025 := Nat.le_trans ZN2023 (Nat.le_of_eq g2025.symm)
  have KK2025 := KK2023.ext E2025
  have ZN2025 := Nat.le_trans ZN2023 E2025.1
  have HK2025 := Nat.le_trans HK2023 E2025.1
  have OL2025 := OL2023.ext E2025
  have ch2025 := ch2023.trans (CHr.ext E2025 ch2023.1)
  refine c_sh 112 [.ref b2025] rfl rfl <| c_dup X2025 hx hby at_112 rfl ?_
  have cc2027 := show Fld Z h2025 b2025 "java/util/AbstractList" "modCount" "I" (.int (0 : Int32)) from D2025 (Or.inl (gw hw 23 rfl)) (ty := .int) (by decide)
  have cc2028 := show Fld Z h2025 b2025 "java/util/ArrayList" "size" "I" (.int (0 : Int32)) from D2025 (Or.inl (gw hw 86 rfl)) (ty := .int) (by decide)
  have cc2029 := show Fld Z h2025 b2025 "java/util/ArrayList" "elementData" "[Ljava/lang/Object;" .null from D2025 (Or.inl (gw hw 26 rfl)) (ty := (.array (.object "java/lang/Object"))) (by decide)
  refine c_init X2025 hx hby hZ hown hml (gw hw 4 rfl) (gw hw 5 rfl) (gw hw 6 rfl) (gw hw 3 rfl) rfl e2025 (rm1 hw b2025 (.int (0 : Int32)) (.int (0 : Int32)) .null d0 h2025 n0 ZN2025 P2 OL2025 A2025 G_b2025 cc2027 cc2028 cc2029) pd_4 rfl at_113 [.ref b2025] rfl 1 (by decide) rfl rfl fun o2026 T2026 L2026 X2026 hQ2026 => ?_
  obtain ⟨rfl, N2026q, K2026, u2026_1, u2026_2, u2026_3⟩ := hQ2026
  have N2026 := Fr.app NN2023 N2026q
  have ne2030 : b2019 ≠ b2025 := (Nat.ne_of_lt (Nat.lt_of_lt_of_le (cc2024.wr W2023).lt (Nat.le_of_eq g2025.symm)))
  have KK2026 := KK2025.trans K2026 (allS (P := fun x => x ∈ [] ∨ h0.size ≤ x) (Or.inr (Nat.le_trans KK2023.1 (Nat.le_of_eq g2025.symm))) all0)
  have ZN2026 := Nat.le_trans ZN2025 K2026.1
  have HK2026 : 0 ≤ T2026.heap.size := Nat.le_trans HK2025 K2026.1
  have ch2026 := ch2025.trans (CHr.keep K2026 (allS (Safe.exa hZ.alike A2025 (by decide) (by decide)) all0) ch2025.1)
  have OL2026 := OL2025.keep K2026 (allS G_b2025 all0)
  refine c_sh 116 [.ref b2025] rfl rfl <| c_astore X2026 hx hby _ at_116 rfl rfl <| c_iload X2026 hx hby at_118 rfl <| c_iconst X2026 hx hby 1 at_120 rfl <| c_icmpNo X2026 hx hby at_121 (by decide) <| c_aload X2026 hx hby at_124 rfl rfl <| c_shL #[iv p1, iv p2, iv p3, iv p4, iv 3, iv i0, iv i1, iv i2, rv b2019, rv b2025, .unset, .unset, .unset, .unset, .unset, .unset, .unset, .unset, .unset, .unset, .unset, .unset, .unset, .unset, .unset, .unset, .unset, .unset, .unset, .unset, .unset, .unset, .unset] rfl ?_
  obtain ⟨t2031, T2031, h2031, k2031, bs2031, ks2031, X2031, e2031, E2031, hS2031, hk2031, hZ, hown, LE2031, LC2031, LV2031, LA2031, -, -, cr2031, -, sn2031, st2031⟩ := ldcCH X2026 hx hZ hown (gw hw 124 rfl) (own_wS hw) rfl hS0 HK2026 (own_EW hw) (List.mem_of_getElem? (i := 0) rfl) ch2026.1 (vs := [(.int (97 : Int32))]) (z := (1 : Int32)) ⟨by decide, by decide⟩ (by decide) (by decide) (g := (mkF m 126 #[iv p1, iv p2, iv p3, iv p4, iv 3, iv i0, iv i1, iv i2, rv b2019, rv b2025, .unset, .unset, .unset, .unset, .unset, .unset, .unset, .unset, .unset, .unset, .unset, .unset, .unset, .unset, .unset, .unset, .unset, .unset, .unset, .unset, .unset, .unset, .unset] [.ref b2025])) rfl (hb hby at_126) (n := 4) (by decide) (by decide) (by decide) (by decide)
  have ch2031 := ch2026.trans cr2031
  have KK2031 := KK2026.ext E2031
  have ZN2031 := Nat.le_trans ZN2026 E2031.1
  have OL2031 := OL2026.ext E2031
  refine go st2031 ?_
  show Go _ p e below s _ _ _ (T2031.setTop (mkF m 128 #[iv p1, iv p2, iv p3, iv p4, iv 3, iv i0, iv i1, iv i2, rv b2019, rv b2025, .unset, .unset, .unset, .unset, .unset, .unset, .unset, .unset, .unset, .unset, .unset, .unset, .unset, .unset, .unset, .unset, .unset, .unset, .unset, .unset, .unset, .unset, .unset] [.ref t2031, .ref b2025]))
  have cc2033 := (A2025.keep K2026).ext E2031
  have cc2034 := u2026_1.ext E2031
  have cc2035 := u2026_2.ext E2031
  have cc2036 := u2026_3.ext E2031
  refine c_callV X2031 hx hby hZ hown hml (gw hw 125 rfl) (gw hw 126 rfl) (gw hw 128 rfl) (gw hw 127 rfl) (gw hw 129 rfl) (gw hw 3 rfl) cc2033 e2031 (rmX10 hw b2025 t2031 d0 kd h2031 n0 ZN2031 P2 OL2031 P3 cc2033 G_b2025 LE2031 cc2034 cc2035 cc2036) pd_21 rfl at_128 [] rfl 0 (by decide) rfl rfl fun o2032 T2032 L2032 X2032 hQ2032 => ?_
  obtain ⟨b2032, k2032, rfl, N2032q, u2032_0, u2032_1, K2032, u2032_3, u2032_4, u2032_5, u2032_6, u2032_7, u2032_8⟩ := hQ2032
  have N2032 := Fr.app N2026 N2032q
  have G_b2032 := Nat.le_trans ZN2031 u2032_0
  have ne2037 : t2031 ≠ b2025 := (Exa.ne LE2031 cc2033 (by decide))
  have ne2038 : bs2031 ≠ b2025 := (Ne.symm (Exa.neArv cc2033 LA2031 (gw hw 2 rfl)))
  have KK2032 := KK2031.trans K2032 (allS (P := fun x => x ∈ [] ∨ h0.size ≤ x) (Or.inr (Nat.le_trans KK2023.1 (Nat.le_of_eq g2025.symm))) all0)
  have ZN2032 := Nat.le_trans ZN2031 K2032.1
  have HK2032 : k2031 ≤ T2032.heap.size := Nat.le_trans hk2031 K2032.1
  have ch2032 := ch2031.trans (CHr.keep K2032 (allS (Safe.exa hZ.alike cc2033 (by decide) (by decide)) all0) ch2031.1)
  have OL2032 := OL2031.keep K2032 (allS G_b2025 all0)
  refine c_sh 131 [.int 1] rfl rfl <| c_pop X2032 hx hby at_131 rfl <| c_iload X2032 hx hby at_132 rfl <| c_iconst X2032 hx hby 2 at_134 rfl <| c_icmpNo X2032 hx hby at_135 (by decide) <| c_aload X2032 hx hby at_138 rfl rfl ?_
  obtain ⟨t2039, T2039, h2039, k2039, bs2039, ks2039, X2039, e2039, E2039, hS2039, hk2039, hZ, hown, LE2039, LC2039, LV2039, LA2039, -, -, cr2039, -, sn2039, st2039⟩ := ldcCH X2032 hx hZ hown (gw hw 154 rfl) (own_wS hw) rfl hS2031 HK2032 (own_EW hw) (List.mem_of_getElem? (i := 1) rfl) ch2032.1 (vs := [(.int (98 : Int32))]) (z := (1 : Int32)) ⟨by decide, by decide⟩ (by decide) (by decide) (g := (mkF m 140 #[iv p1, iv p2, iv p3, iv p4, iv 3, iv i0, iv i1, iv i2, rv b2019, rv b2025, .unset, .unset, .unset, .unset, .unset, .unset, .unset, .unset, .unset, .unset, .unset, .unset, .unset, .unset, .unset, .unset, .unset, .unset, .unset, .unset, .unset, .unset, .unset] [.ref b2025])) rfl (hb hby at_140) (n := 4) (by decide) (by decide) (by decide) (by decide)
  have ch2039 := ch2032.trans cr2039
  have KK2039 := KK2032.ext E2039
  have ZN2039 := Nat.le_trans ZN2032 E2039.1
  have OL2039 := OL2032.ext E2039
  refine go st2039 ?_
  show Go _ p e below s _ _ _ (T2039.setTop (mkF m 142 #[iv p1, iv p2, iv p3, iv p4, iv 3, iv i0, iv i1, iv i2, rv b2019, rv b2025, .unset, .unset, .unset, .unset, .unset, .unset, .unset, .unset, .unset, .unset, .unset, .unset, .unset, .unset, .unset, .unset, .unset, .unset, .unset, .unset, .unset, .unset, .unset] [.ref t2039, .ref b2025]))
  have cc2041 := (cc2033.keep K2032).ext E2039
  have cc2042 := u2032_3.ext E2039
  have cc2043 := u2032_4.ext E2039
  have cc2044 := u2032_5.ext E2039
  have cc2045 := u2032_6.ext E2039
  have cc2046 := u2032_7.ext E2039
  have ne2047 : b2025 ≠ b2032 := (Nat.ne_of_lt (Nat.lt_of_lt_of_le cc2033.lt u2032_0))
  refine c_callV X2039 hx hby hZ hown hml (gw hw 125 rfl) (gw hw 126 rfl) (gw hw 128 rfl) (gw hw 127 rfl) (gw hw 129 rfl) (gw hw 3 rfl) cc2041 e2039 (rmX11 hw b2025 t2039 b2032 k2032 t2031 h2039 n0 ZN2039 cc2041 G_b2025 LE2039 cc2042 cc2043 cc2044 cc2045 cc2046 u2032_8 u2032_1 ne2047) pd_21 rfl at_142 [] rfl 0 (by decide) rfl rfl fun o2040 T2040 L2040 X2040 hQ2040 => ?_
  obtain ⟨rfl, N2040q, K2040, u2040_1, u2040_2, u2040_3, u2040_4, u2040_5, u2040_6⟩ := hQ2040
  have N2040 := Fr.app N2032 N2040q
  have ne2048 : b2019 ≠ b2032 := (Nat.ne_of_lt (Nat.lt_of_lt_of_le ((((cc2024.wr W2023).ext E2025).keep K2026).ext E2031).lt u2032_0))
  have ne2049 : t2031 ≠ b2032 := (Nat.ne_of_lt (Nat.lt_of_lt_of_le LE2031.lt u2032_0))
  have ne2050 : bs2031 ≠ b2032 := (Nat.ne_of_lt (Nat.lt_of_lt_of_le LA2031.lt u2032_0))
  have ne2051 : t2039 ≠ b2032 := (Exa.neArv LE2039 cc2046 (gw hw 33 rfl))
  have ne2052 : t2039 ≠ b2025 := (Exa.ne LE2039 cc2041 (by decide))
  have ne2053 : bs2039 ≠ b2032 := (own_tyne LA2039 cc2046 (by decide))
  have ne2054 : bs2039 ≠ b2025 := (Ne.symm (Exa.neArv cc2041 LA2039 (gw hw 2 rfl)))
  have KK2040 := KK2039.trans K2040 (allS (P := fun x => x ∈ [] ∨ h0.size ≤ x) (Or.inr (Nat.le_trans KK2023.1 (Nat.le_of_eq g2025.symm))) (allS (P := fun x => x ∈ [] ∨ h0.size ≤ x) (Or.inr (Nat.le_trans KK2031.1 u2032_0)) all0))
  have ZN2040 := Nat.le_trans ZN2039 K2040.1
  have HK2040 : k2039 ≤ T2040.heap.size := Nat.le_trans hk2039 K2040.1
  have ch2040 := ch2039.trans (CHr.keep K2040 (allS (Safe.exa hZ.alike cc2041 (by decide) (by decide)) (allS (Safe.exa hZ.alike cc2045 (by decide) (by decide)) all0)) ch2039.1)
  have OL2040 := OL2039.keep K2040 (allS G_b2025 (allS u2032_1 all0))
  refine c_sh 145 [.int 1] rfl rfl <| c_pop X2040 hx hby at_145 rfl <| c_iload X2040 hx hby at_146 rfl <| c_iconst X2040 hx hby 3 at_148 rfl <| c_icmpNo X2040 hx hby at_149 (by decide) <| c_aload X2040 hx hby at_152 rfl rfl ?_
  obtain ⟨t2055, T2055, h2055, k2055, bs2055, ks2055, X2055, e2055, E2055, hS2055, hk2055, hZ, hown, LE2055, LC2055, LV2055, LA2055, -, -, cr2055, -, sn2055, st2055⟩ := ldcCH X2040 hx hZ hown (gw hw 155 rfl) (own_wS hw) rfl hS2039 HK2040 (own_EW hw) (List.mem_of_getElem? (i := 2) rfl) ch2040.1 (vs := [(.int (99 : Int32))]) (z := (1 : Int32)) ⟨by decide, by decide⟩ (by decide) (by decide) (g := (mkF m 154 #[iv p1, iv p2, iv p3, iv p4, iv 3, iv i0, iv i1, iv i2, rv b2019, rv b2025, .unset, .unset, .unset, .unset, .unset, .unset, .unset, .unset, .unset, .unset, .unset, .unset, .unset, .unset, .unset, .unset, .unset, .unset, .unset, .unset, .unset, .unset, .unset] [.ref b2025])) rfl (hb hby at_154) (n := 4) (by decide) (by decide) (by decide) (by decide)
  have ch2055 := ch2040.trans cr2055
  have KK2055 := KK2040.ext E2055
  have ZN2055 := Nat.le_trans ZN2040 E2055.1
  have OL2055 := OL2040.ext E2055
  refine go st2055 ?_
  show Go _ p e below s _ _ _ (T2055.setTop (mkF m 156 #[iv p1, iv p2, iv p3, iv p4, iv 3, iv i0, iv i1, iv i2, rv b2019, rv b2025, .unset, .unset, .unset, .unset, .unset, .unset, .unset, .unset, .unset, .unset, .unset, .unset, .unset, .unset, .unset, .unset, .unset, .unset, .unset, .unset, .unset, .unset, .unset] [.ref t2055, .ref b2025]))
  have cc2057 := (cc2041.keep K2040).ext E2055
  have cc2058 := u2040_1.ext E2055
  have cc2059 := u2040_2.ext E2055
  have cc2060 := u2040_3.ext E2055
  have cc2061 := u2040_4.ext E2055
  have cc2062 := u2040_5.ext E2055
  refine c_callV X2055 hx hby hZ hown hml (gw hw 125 rfl) (gw hw 126 rfl) (gw hw 128 rfl) (gw hw 127 rfl) (gw hw 129 rfl) (gw hw 3 rfl) cc2057 e2055 (rmX12 hw b2025 t2055 b2032 k2032 t2031 t2039 h2055 n0 ZN2055 cc2057 G_b2025 LE2055 cc2058 cc2059 cc2060 cc2061 cc2062 u2040_6 u2032_1 ne2047) pd_21 rfl at_156 [] rfl 0 (by decide) rfl rfl fun o2056 T2056 L2056 X2056 hQ2056 => ?_
  obtain ⟨rfl, N2056q, K2056, u2056_1, u2056_2, u2056_3, u2056_4, u2056_5, u2056_6⟩ := hQ2056
  have N2056 := Fr.app N2040 N2056q
  have ne2063 : t2055 ≠ b2032 := (Exa.neArv LE2055 cc2062 (gw hw 33 rfl))
  have ne2064 : t2055 ≠ b2025 := (Exa.ne LE2055 cc2057 (by decide))
  have ne2065 : bs2055 ≠ b2032 := (own_tyne LA2055 cc2062 (by decide))
  have ne2066 : bs2055 ≠ b2025 := (Ne.symm (Exa.neArv cc2057 LA2055 (gw hw 2 rfl)))
  have KK2056 := KK2055.trans K2056 (allS (P := fun x => x ∈ [] ∨ h0.size ≤ x) (Or.inr (Nat.le_trans KK2023.1 (Nat.le_of_eq g2025.symm))) (allS (P := fun x => x ∈ [] ∨ h0.size ≤ x) (Or.inr (Nat.le_trans KK2031.1 u2032_0)) all0))
  have ZN2056 := Nat.le_trans ZN2055 K2056.1
  have HK2056 : k2055 ≤ T2056.heap.size := Nat.le_trans hk2055 K2056.1
  have ch2056 := ch2055.trans (CHr.keep K2056 (allS (Safe.exa hZ.alike cc2057 (by decide) (by decide)) (allS (Safe.exa hZ.alike cc2061 (by decide) (by decide)) all0)) ch2055.1)
  have OL2056 := OL2055.keep K2056 (allS G_b2025 (allS u2032_1 all0))
  refine c_sh 159 [.int 1] rfl rfl <| c_pop X2056 hx hby at_159 rfl <| c_iloadN X2056 hx hby at_160 rfl <| c_sipush X2056 hx hby 255 at_161 rfl <| c_iand X2056 hx hby at_164 <| c_i2c X2056 hx hby at_165 ?_
  rw [i2c_mask]
  refine c_sh 166 [.int (p2 &&& (255 : Int32))] rfl rfl <| c_istore X2056 hx hby _ at_166 rfl <| c_iloadN X2056 hx hby at_168 rfl <| c_bipush X2056 hx hby 8 at_169 rfl <| c_iushr X2056 hx hby at_171 <| c_sipush X2056 hx hby 255 at_172 rfl <| c_iand X2056 hx hby at_175 <| c_i2c X2056 hx hby at_176 <| c_shL #[iv p1, iv p2, iv p3, iv p4, iv 3, iv i0, iv i1, iv i2, rv b2019, rv b2025, iv (p2 &&& (255 : Int32)), .unset, .unset, .unset, .unset, .unset, .unset, .unset, .unset, .unset, .unset, .unset, .unset, .unset, .unset, .unset, .unset, .unset, .unset, .unset, .unset, .unset, .unset] rfl ?_
  rw [i2c_mask]
  refine c_sh 177 [.int (((p2.toUInt32 >>> ((8 : Int32) &&& 31).toUInt32).toInt32) &&& (255 : Int32))] rfl rfl <| c_istore X2056 hx hby _ at_177 rfl <| c_iloadN X2056 hx hby at_179 rfl <| c_bipush X2056 hx hby 16 at_180 rfl <| c_iushr X2056 hx hby at_182 <| c_sipush X2056 hx hby 255 at_183 rfl <| c_iand X2056 hx hby at_186 <| c_i2c X2056 hx hby at_187 <| c_shL #[iv p1, iv p2, iv p3, iv p4, iv 3, iv i0, iv i1, iv i2, rv b2019, rv b2025, iv (p2 &&& (255 : Int32)), iv (((p2.toUInt32 >>> ((8 : Int32) &&& 31).toUInt32).toInt32) &&& (255 : Int32)), .unset, .unset, .unset, .unset, .unset, .unset, .unset, .unset, .unset, .unset, .unset, .unset, .unset, .unset, .unset, .unset, .unset, .unset, .unset, .unset, .unset] rfl ?_
  rw [i2c_mask]
  refine c_sh 188 [.int (((p2.toUInt32 >>> ((16 : Int32) &&& 31).toUInt32).toInt32) &&& (255 : Int32))] rfl rfl <| c_istore X2056 hx hby _ at_188 rfl <| c_iloadN X2056 hx hby at_190 rfl <| c_sipush X2056 hx hby 255 at_191 rfl <| c_iand X2056 hx hby at_194 <| c_i2c X2056 hx hby at_195 <| c_shL #[iv p1, iv p2, iv p3, iv p4, iv 3, iv i0, iv i1, iv i2, rv b2019, rv b2025, iv (p2 &&& (255 : Int32)), iv (((p2.toUInt32 >>> ((8 : Int32) &&& 31).toUInt32).toInt32) &&& (255 : Int32)), iv (((p2.toUInt32 >>> ((16 : Int32) &&& 31).toUInt32).toInt32) &&& (255 : Int32)), .unset, .unset, .unset, .unset, .unset, .unset, .unset, .unset, .unset, .unset, .unset, .unset, .unset, .unset, .unset, .unset, .unset, .unset, .unset, .unset] rfl ?_
  rw [i2c_mask]
  refine c_sh 196 [.int (p3 &&& (255 : Int32))] rfl rfl <| c_istore X2056 hx hby _ at_196 rfl <| c_iloadN X2056 hx hby at_198 rfl <| c_bipush X2056 hx hby 8 at_199 rfl <| c_iushr X2056 hx hby at_201 <| c_sipush X2056 hx hby 255 at_202 rfl <| c_iand X2056 hx hby at_205 <| c_i2c X2056 hx hby at_206 <| c_shL #[iv p1, iv p2, iv p3, iv p4, iv 3, iv i0, iv i1, iv i2, rv b2019, rv b2025, iv (p2 &&& (255 : Int32)), iv (((p2.toUInt32 >>> ((8 : Int32) &&& 31).toUInt32).toInt32) &&& (255 : Int32)), iv (((p2.toUInt32 >>> ((16 : Int32) &&& 31).toUInt32).toInt32) &&& (255 : Int32)), iv (p3 &&& (255 : Int32)), .unset, .unset, .unset, .unset, .unset, .unset, .unset, .unset, .unset, .unset, .unset, .unset, .unset, .unset, .unset, .unset, .unset, .unset, .unset] rfl ?_
  rw [i2c_mask]
  refine c_sh 207 [.int (((p3.toUInt32 >>> ((8 : Int32) &&& 31).toUInt32).toInt32) &&& (255 : Int32))] rfl rfl <| c_istore X2056 hx hby _ at_207 rfl <| c_iloadN X2056 hx hby at_209 rfl <| c_bipush X2056 hx hby 16 at_210 rfl <| c_iushr X2056 hx hby at_212 <| c_sipush X2056 hx hby 255 at_213 rfl <| c_iand X2056 hx hby at_216 <| c_i2c X2056 hx hby at_217 <| c_shL #[iv p1, iv p2, iv p3, iv p4, iv 3, iv i0, iv i1, iv i2, rv b2019, rv b2025, iv (p2 &&& (255 : Int32)), iv (((p2.toUInt32 >>> ((8 : Int32) &&& 31).toUInt32).toInt32) &&& (255 : Int32)), iv (((p2.toUInt32 >>> ((16 : Int32) &&& 31).toUInt32).toInt32) &&& (255 : Int32)), iv (p3 &&& (255 : Int32)), iv (((p3.toUInt32 >>> ((8 : Int32) &&& 31).toUInt32).toInt32) &&& (255 : Int32)), .unset, .unset, .unset, .unset, .unset, .unset, .unset, .unset, .unset, .unset, .unset, .unset, .unset, .unset, .unset, .unset, .unset, .unset] rfl ?_
  rw [i2c_mask]
  refine c_sh 218 [.int (((p3.toUInt32 >>> ((16 : Int32) &&& 31).toUInt32).toInt32) &&& (255 : Int32))] rfl rfl <| c_istore X2056 hx hby _ at_218 rfl <| c_shL #[iv p1, iv p2, iv p3, iv p4, iv 3, iv i0, iv i1, iv i2, rv b2019, rv b2025, iv (p2 &&& (255 : Int32)), iv (((p2.toUInt32 >>> ((8 : Int32) &&& 31).toUInt32).toInt32) &&& (255 : Int32)), iv (((p2.toUInt32 >>> ((16 : Int32) &&& 31).toUInt32).toInt32) &&& (255 : Int32)), iv (p3 &&& (255 : Int32)), iv (((p3.toUInt32 >>> ((8 : Int32) &&& 31).toUInt32).toInt32) &&& (255 : Int32)), iv (((p3.toUInt32 >>> ((16 : Int32) &&& 31).toUInt32).toInt32) &&& (255 : Int32)), .unset, .unset, .unset, .unset, .unset, .unset, .unset, .unset, .unset, .unset, .unset, .unset, .unset, .unset, .unset, .unset, .unset] rfl ?_
  have hca0 := own_chm p2
  generalize (p2 &&& (255 : Int32)) = ca0 at hca0 ⊢
  have hca1 := own_chm ((p2.toUInt32 >>> ((8 : Int32) &&& 31).toUInt32).toInt32)
  generalize (((p2.toUInt32 >>> ((8 : Int32) &&& 31).toUInt32).toInt32) &&& (255 : Int32)) = ca1 at hca1 ⊢
  have hca2 := own_chm ((p2.toUInt32 >>> ((16 : Int32) &&& 31).toUInt32).toInt32)
  generalize (((p2.toUInt32 >>> ((16 : Int32) &&& 31).toUInt32).toInt32) &&& (255 : Int32)) = ca2 at hca2 ⊢
  have hcb0 := own_chm p3
  generalize (p3 &&& (255 : Int32)) = cb0 at hcb0 ⊢
  have hcb1 := own_chm ((p3.toUInt32 >>> ((8 : Int32) &&& 31).toUInt32).toInt32)
  generalize (((p3.toUInt32 >>> ((8 : Int32) &&& 31).toUInt32).toInt32) &&& (255 : Int32)) = cb1 at hcb1 ⊢
  have hcb2 := own_chm ((p3.toUInt32 >>> ((16 : Int32) &&& 31).toUInt32).toInt32)
  generalize (((p3.toUInt32 >>> ((16 : Int32) &&& 31).toUInt32).toInt32) &&& (255 : Int32)) = cb2 at hcb2 ⊢
  refine c_sh 220 [] rfl rfl ?_
  have JQ0_2067 : ∀ (q0 : Int32), Go (own_EndH Z) p e below s room_1.cells room_1.slots (Q0 Z p1 p2 p3 p4 w0 d0 kd el em mr h0 n0) (T2056.setTop (mkF m 231 #[iv p1, iv p2, iv p3, iv p4, iv 3, iv i0, iv i1, iv i2, rv b2019, rv b2025, iv ca0, iv ca1, iv ca2, iv cb0, iv cb1, iv cb2, .unset, .unset, .unset, .unset, .unset, .unset, .unset, .unset, .unset, .unset, .unset, .unset, .unset, .unset, .unset, .unset, .unset] [.int q0])) := by
   intro q0
   refine c_istore X2056 hx hby _ at_231 rfl <| c_shL #[iv p1, iv p2, iv p3, iv p4, iv 3, iv i0, iv i1, iv i2, rv b2019, rv b2025, iv ca0, iv ca1, iv ca2, iv cb0, iv cb1, iv cb2, iv q0, .unset, .unset, .unset, .unset, .unset, .unset, .unset, .unset, .unset, .unset, .unset, .unset, .unset, .unset, .unset, .unset] rfl ?_
   have JQ1_2068 : ∀ (q1 : Int32), Go (own_EndH Z) p e below s room_1.cells room_1.slots (Q0 Z p1 p2 p3 p4 w0 d0 kd el em mr h0 n0) (T2056.setTop (mkF m 246 #[iv p1, iv p2, iv p3, iv p4, iv 3, iv i0, iv i1, iv i2, rv b2019, rv b2025, iv ca0, iv ca1, iv ca2, iv cb0, iv cb1, iv cb2, iv q0, .unset, .unset, .unset, .unset, .unset, .unset, .unset, .unset, .unset, .unset, .unset, .unset, .unset, .unset, .unset, .unset] [.int q1])) := by
    intro q1
    refine c_istore X2056 hx hby _ at_246 rfl <| c_shL #[iv p1, iv p2, iv p3, iv p4, iv 3, iv i0, iv i1, iv i2, rv b2019, rv b2025, iv ca0, iv ca1, iv ca2, iv cb0, iv cb1, iv cb2, iv q0, iv q1, .unset, .unset, .unset, .unset, .unset, .unset, .unset, .unset, .unset, .unset, .unset, .unset, .unset, .unset, .unset] rfl ?_
    have JQ2_2069 : ∀ (q2 : Int32), Go (own_EndH Z) p e below s room_1.cells room_1.slots (Q0 Z p1 p2 p3 p4 w0 d0 kd el em mr h0 n0) (T2056.setTop (mkF m 261 #[iv p1, iv p2, iv p3, iv p4, iv 3, iv i0, iv i1, iv i2, rv b2019, rv b2025, iv ca0, iv ca1, iv ca2, iv cb0, iv cb1, iv cb2, iv q0, iv q1, .unset, .unset, .unset, .unset, .unset, .unset, .unset, .unset, .unset, .unset, .unset, .unset, .unset, .unset, .unset] [.int q2])) := by
     intro q2
     refine c_istore X2056 hx hby _ at_261 rfl <| c_iloadN X2056 hx hby at_263 rfl <| c_iconst X2056 hx hby 3 at_264 rfl <| c_iushr X2056 hx hby at_265 <| c_iconst X2056 hx hby 1 at_266 rfl <| c_iand X2056 hx hby at_267 <| c_istore X2056 hx hby #[iv p1, iv p2, iv p3, iv p4, iv 3, iv i0, iv i1, iv i2, rv b2019, rv b2025, iv ca0, iv ca1, iv ca2, iv cb0, iv cb1, iv cb2, iv q0, iv q1, iv q2, iv (((p4.toUInt32 >>> ((3 : Int32) &&& 31).toUInt32).toInt32) &&& (1 : Int32)), .unset, .unset, .unset, .unset, .unset, .unset, .unset, .unset, .unset, .unset, .unset, .unset, .unset] at_268 rfl <| c_iloadN X2056 hx hby at_270 rfl <| c_iconst X2056 hx hby 4 at_271 rfl <| c_iushr X2056 hx hby at_272 <| c_iconst X2056 hx hby 1 at_273 rfl <| c_iand X2056 hx hby at_274 <| c_istore X2056 hx hby _ at_275 rfl <| c_iloadN X2056 hx hby at_277 rfl <| c_iconst X2056 hx hby 5 at_278 rfl <| c_sh 279 _ rfl rfl <| c_iushr X2056 hx hby at_279 <| c_iconst X2056 hx hby 1 at_280 rfl <| c_iand X2056 hx hby at_281 <| c_istore X2056 hx hby #[iv p1, iv p2, iv p3, iv p4, iv 3, iv i0, iv i1, iv i2, rv b2019, rv b2025, iv ca0, iv ca1, iv ca2, iv cb0, iv cb1, iv cb2, iv q0, iv q1, iv q2, iv (((p4.toUInt32 >>> ((3 : Int32) &&& 31).toUInt32).toInt32) &&& (1 : Int32)), iv (((p4.toUInt32 >>> ((4 : Int32) &&& 31).toUInt32).toInt32) &&& (1 : Int32)), iv (((p4.toUInt32 >>> ((5 : Int32) &&& 31).toUInt32).toInt32) &&& (1 : Int32)), .unset, .unset, .unset, .unset, .unset, .unset, .unset, .unset, .unset, .unset, .unset] at_282 rfl <| c_iloadN X2056 hx hby at_284 rfl <| c_bipush X2056 hx hby 6 at_285 rfl <| c_iushr X2056 hx hby at_287 <| c_iconst X2056 hx hby 1 at_288 rfl <| c_iand X2056 hx hby at_289 <| c_istore X2056 hx hby _ at_290 rfl <| c_iloadN X2056 hx hby at_292 rfl <| c_bipush X2056 hx hby 7 at_293 rfl <| c_iushr X2056 hx hby at_295 <| c_iconst X2056 hx hby 1 at_296 rfl <| c_iand X2056 hx hby at_297 <| c_sh 298 _ rfl rfl <| c_istore X2056 hx hby #[iv p1, iv p2, iv p3, iv p4, iv 3, iv i0, iv i1, iv i2, rv b2019, rv b2025, iv ca0, iv ca1, iv ca2, iv cb0, iv cb1, iv cb2, iv q0, iv q1, iv q2, iv (((p4.toUInt32 >>> ((3 : Int32) &&& 31).toUInt32).toInt32) &&& (1 : Int32)), iv (((p4.toUInt32 >>> ((4 : Int32) &&& 31).toUInt32).toInt32) &&& (1 : Int32)), iv (((p4.toUInt32 >>> ((5 : Int32) &&& 31).toUInt32).toInt32) &&& (1 : Int32)), iv (((p4.toUInt32 >>> ((6 : Int32) &&& 31).toUInt32).toInt32) &&& (1 : Int32)), iv (((p4.toUInt32 >>> ((7 : Int32) &&& 31).toUInt32).toInt32) &&& (1 : Int32)), .unset, .unset, .unset, .unset, .unset, .unset, .unset, .unset, .unset] at_298 rfl <| c_iloadN X2056 hx hby at_300 rfl <| c_bipush X2056 hx hby 8 at_301 rfl <| c_iushr X2056 hx hby at_303 <| c_iconst X2056 hx hby 1 at_304 rfl <| c_iand X2056 hx hby at_305 <| c_istore X2056 hx hby _ at_306 rfl <| c_shL #[iv p1, iv p2, iv p3, iv p4, iv 3, iv i0, iv i1, iv i2, rv b2019, rv b2025, iv ca0, iv ca1, iv ca2, iv cb0, iv cb1, iv cb2, iv q0, iv q1, iv q2, iv (((p4.toUInt32 >>> ((3 : Int32) &&& 31).toUInt32).toInt32) &&& (1 : Int32)), iv (((p4.toUInt32 >>> ((4 : Int32) &&& 31).toUInt32).toInt32) &&& (1 : Int32)), iv (((p4.toUInt32 >>> ((5 : Int32) &&& 31).toUInt32).toInt32) &&& (1 : Int32)), iv (((p4.toUInt32 >>> ((6 : Int32) &&& 31).toUInt32).toInt32) &&& (1 : Int32)), iv (((p4.toUInt32 >>> ((7 : Int32) &&& 31).toUInt32).toInt32) &&& (1 : Int32)), iv (((p4.toUInt32 >>> ((8 : Int32) &&& 31).toUInt32).toInt32) &&& (1 : Int32)), .unset, .unset, .unset, .unset, .unset, .unset, .unset, .unset] rfl ?_
     have hla0 := own_bit ((p4.toUInt32 >>> ((3 : Int32) &&& 31).toUInt32).toInt32)
     generalize (((p4.toUInt32 >>> ((3 : Int32) &&& 31).toUInt32).toInt32) &&& (1 : Int32)) = la0 at hla0 ⊢
     have hla1 := own_bit ((p4.toUInt32 >>> ((4 : Int32) &&& 31).toUInt32).toInt32)
     generalize (((p4.toUInt32 >>> ((4 : Int32) &&& 31).toUInt32).toInt32) &&& (1 : Int32)) = la1 at hla1 ⊢
     have hla2 := own_bit ((p4.toUInt32 >>> ((5 : Int32) &&& 31).toUInt32).toInt32)
     generalize (((p4.toUInt32 >>> ((5 : Int32) &&& 31).toUInt32).toInt32) &&& (1 : Int32)) = la2 at hla2 ⊢
     have hlb0 := own_bit ((p4.toUInt32 >>> ((6 : Int32) &&& 31).toUInt32).toInt32)
     generalize (((p4.toUInt32 >>> ((6 : Int32) &&& 31).toUInt32).toInt32) &&& (1 : Int32)) = lb0 at hlb0 ⊢
     have hlb1 := own_bit ((p4.toUInt32 >>> ((7 : Int32) &&& 31).toUInt32).toInt32)
     generalize (((p4.toUInt32 >>> ((7 : Int32) &&& 31).toUInt32).toInt32) &&& (1 : Int32)) = lb1 at hlb1 ⊢
     have hlb2 := own_bit ((p4.toUInt32 >>> ((8 : Int32) &&& 31).toUInt32).toInt32)
     generalize (((p4.toUInt32 >>> ((8 : Int32) &&& 31).toUInt32).toInt32) &&& (1 : Int32)) = lb2 at hlb2 ⊢
     refine c_sh 308 [] rfl rfl <| c_iconst X2056 hx hby 3 at_308 rfl ?_
     obtain ⟨T2070, h2070, k2070, X2070, e2070, E2070, A2070, AE2070, O2070, st2070⟩ := newRE X2056 hx hZ hown (gw hw 27 rfl) (gw hw 28 rfl) rfl (g := (mkF m 309 #[iv p1, iv p2, iv p3, iv p4, iv 3, iv i0, iv i1, iv i2, rv b2019, rv b2025, iv ca0, iv ca1, iv ca2, iv cb0, iv cb1, iv cb2, iv q0, iv q1, iv q2, iv la0, iv la1, iv la2, iv lb0, iv lb1, iv lb2, .unset, .unset, .unset, .unset, .unset, .unset, .unset, .unset] [.int 3])) rfl (hb hby at_309) rfl (by decide) (cap := 3) (by decide) (by decide) (by decide) (by decide) (ad := "[Ljava/lang/String;") (by first | rfl | decide)
     obtain ⟨b2070, g2070⟩ : ∃ z, z = T2056.heap.size := ⟨_, rfl⟩
     rw [← g2070] at A2070 AE2070 st2070
     have G_b2070 := Nat.le_trans ZN2056 (Nat.le_of_eq g2070.symm)
     have KK2070 := KK2056.ext E2070
     have ZN2070 := Nat.le_trans ZN2056 E2070.1
     have HK2070 := Nat.le_trans HK2056 E2070.1
     have OL2070 := OL2056.ext E2070
     have ch2070 := ch2056.trans (CHr.ext E2070 ch2056.1)
     have V2070 : Arv Z h2070 b2070 k2070 (.object "java/lang/String") (3 : Int32) [.null, .null, .null] .null := (Arv.new A2070 (by decide)).pad (pad_rep [] .null 3)
     refine go st2070 ?_
     show Go _ p e below s _ _ _ (T2070.setTop (mkF m 312 #[iv p1, iv p2, iv p3, iv p4, iv 3, iv i0, iv i1, iv i2, rv b2019, rv b2025, iv ca0, iv ca1, iv ca2, iv cb0, iv cb1, iv cb2, iv q0, iv q1, iv q2, iv la0, iv la1, iv la2, iv lb0, iv lb1, iv lb2, .unset, .unset, .unset, .unset, .unset, .unset, .unset, .unset] [.ref b2070]))
     refine c_dup X2070 hx hby at_312 rfl <| c_iconst X2070 hx hby 0 at_313 rfl <| c_iload X2070 hx hby at_314 rfl <| c_iload X2070 hx hby at_316 rfl <| c_callSH X2070 hx hby hZ hown hml (gw hw 29 rfl) (gw hw 30 rfl) (gw hw 31 rfl) (gw hw 32 rfl) e2070 (own_EW hw) ch2070 hS2055 HK2070 (rmMK hw la0 ca0 w0 h2070 n0 ZN2070 P1 OL2070 hw0 hla0 hca0) pd_22 rfl at_318 [.int 0, .ref b2070, .ref b2070] rfl 3 (by decide) rfl rfl fun o2071 T2071 L2071 X2071 hS2071 hZ hown hR2071 ch2071 hQ2071 => ?_
     obtain ⟨b2071, bb2071, kb2071, rfl, N2071q, u2071_0, u2071_1, K2071, u2071_3, u2071_4, u2071_5, u2071_6⟩ := hQ2071
     have N2071 := Fr.app N2056 N2071q
     have G_b2071 := Nat.le_trans ZN2070 u2071_0
     have KK2071 := KK2070.trans K2071 all0
     have ZN2071 := Nat.le_trans ZN2070 K2071.1
     have OL2071 := OL2070.keep K2071 all0
     refine c_sh 321 [.ref b2071, .int 0, .ref b2070, .ref b2070] rfl rfl ?_
     have cc2072 := V2070.keep K2071 nin0
     obtain ⟨cl2073, Ar2073, q2073, Sz2073, Nz2073, Hs2073, Gs2073⟩ := id cc2072
     have hin2073 : ¬ ((0 : Int32) < 0 ∨ cl2073.slots.size ≤ ((0 : Int32)).toNatClampNeg) := inb_of Sz2073 ⟨by decide, by decide⟩
     obtain ⟨T2073, h2073, X2073, e2073, W2073, st2073⟩ := stR X2071 hx hZ rfl Ar2073 (j := (0 : Int32)) hin2073 rfl (Sto.ofV Ar2073 q2073 O2070 (Ins.self u2071_3)) (g := (mkF m 321 #[iv p1, iv p2, iv p3, iv p4, iv 3, iv i0, iv i1, iv i2, rv b2019, rv b2025, iv ca0, iv ca1, iv ca2, iv cb0, iv cb1, iv cb2, iv q0, iv q1, iv q2, iv la0, iv la1, iv la2, iv lb0, iv lb1, iv lb2, .unset, .unset, .unset, .unset, .unset, .unset, .unset, .unset] [.ref b2071, .int 0, .ref b2070, .ref b2070])) rfl rfl (hb hby at_321)
     have V2073 := Arv.set Ar2073 q2073 Sz2073 Nz2073 Hs2073 Gs2073 rfl W2073 0 rfl (Nat.le_of_ble_eq_true rfl)
     have VV2073 : Arv Z h2073 b2070 k2070 (.object "java/lang/String") (3 : Int32) [(.ref b2071), .null, .null] .null := V2073
     have cc2074 := AE2070.keep K2071
     have ne2075 : b2019 ≠ b2070 := (Nat.ne_of_lt (Nat.lt_of_lt_of_le (((((((((cc2024.wr W2023).ext E2025).keep K2026).ext E2031).keep K2032).ext E2039).keep K2040).ext E2055).keep K2056).lt (Nat.le_of_eq g2070.symm)))
     have ne2076 : b2025 ≠ b2070 := (Nat.ne_of_lt (Nat.lt_of_lt_of_le (cc2057.keep K2056).lt (Nat.le_of_eq g2070.symm)))
     have ne2077 : b2032 ≠ b2070 := (Nat.ne_of_lt (Nat.lt_of_lt_of_le u2056_4.lt (Nat.le_of_eq g2070.symm)))
     have ne2078 : b2071 ≠ b2070 := (Ne.symm (Nat.ne_of_lt (Nat.lt_of_lt_of_le AE2070.lt u2071_0)))
     have ne2079 : bb2071 ≠ b2070 := (own_tyne u2071_6 cc2072 (by decide))
     have KK2073 := KK2071.wr W2073 (Or.inr (Nat.le_trans KK2056.1 (Nat.le_of_eq g2070.symm)))
     have ZN2073 := Nat.le_trans ZN2071 (Keep.of_wr W2073).1
     have HK2073 : T2071.heap.size ≤ h2073.size := Nat.le_trans (Nat.le_refl _) (Keep.of_wr W2073).1
     have NN2073 := Fr.snoc X2073 N2071 G_b2070
     have OL2073 := OL2071.wr W2073 G_b2070
     have ch2073 := ch2071.trans (CHr.wr W2073 (Safe.exa hZ.alike cc2074 (by decide) (by decide)) ch2071.1)
     refine go st2073 ?_
     show Go _ p e below s _ _ _ (T2073.setTop (mkF m 322 #[iv p1, iv p2, iv p3, iv p4, iv 3, iv i0, iv i1, iv i2, rv b2019, rv b2025, iv ca0, iv ca1, iv ca2, iv cb0, iv cb1, iv cb2, iv q0, iv q1, iv q2, iv la0, iv la1, iv la2, iv lb0, iv lb1, iv lb2, .unset, .unset, .unset, .unset, .unset, .unset, .unset, .unset] [.ref b2070]))
     refine c_dup X2073 hx hby at_322 rfl <| c_iconst X2073 hx hby 1 at_323 rfl <| c_iload X2073 hx hby at_324 rfl <| c_iload X2073 hx hby at_326 rfl <| c_callSH X2073 hx hby hZ hown hml (gw hw 29 rfl) (gw hw 30 rfl) (gw hw 31 rfl) (gw hw 32 rfl) e2073 (own_EW hw) ch2073 hS2071 HK2073 (rmMK hw la1 ca1 w0 h2073 n0 ZN2073 P1 OL2073 hw0 hla1 hca1) pd_22 rfl at_328 [.int 1, .ref b2070, .ref b2070] rfl 3 (by decide) rfl rfl fun o2080 T2080 L2080 X2080 hS2080 hZ hown hR2080 ch2080 hQ2080 => ?_
     obtain ⟨b2080, bb2080, kb2080, rfl, N2080q, u2080_0, u2080_1, K2080, u2080_3, u2080_4, u2080_5, u2080_6⟩ := hQ2080
     have N2080 := Fr.app NN2073 N2080q
     have G_b2080 := Nat.le_trans ZN2073 u2080_0
     have KK2080 := KK2073.trans K2080 all0
     have ZN2080 := Nat.le_trans ZN2073 K2080.1
     have OL2080 := OL2073.keep K2080 all0
     refine c_sh 331 [.ref b2080, .int 1, .ref b2070, .ref b2070] rfl rfl ?_
     have cc2081 := VV2073.keep K2080 nin0
     obtain ⟨cl2082, Ar2082, q2082, Sz2082, Nz2082, Hs2082, Gs2082⟩ := id cc2081
     have hin2082 : ¬ ((1 : Int32) < 0 ∨ cl2082.slots.size ≤ ((1 : Int32)).toNatClampNeg) := inb_of Sz2082 ⟨by decide, by decide⟩
     obtain ⟨T2082, h2082, X2082, e2082, W2082, st2082⟩ := stR X2080 hx hZ rfl Ar2082 (j := (1 : Int32)) hin2082 rfl (Sto.ofV Ar2082 q2082 O2070 (Ins.self u2080_3)) (g := (mkF m 331 #[iv p1, iv p2, iv p3, iv p4, iv 3, iv i0, iv i1, iv i2, rv b2019, rv b2025, iv ca0, iv ca1, iv ca2, iv cb0, iv cb1, iv cb2, iv q0, iv q1, iv q2, iv la0, iv la1, iv la2, iv lb0, iv lb1, iv lb2, .unset, .unset, .unset, .unset, .unset, .unset, .unset, .unset] [.ref b2080, .int 1, .ref b2070, .ref b2070])) rfl rfl (hb hby at_331)
     have V2082 := Arv.set Ar2082 q2082 Sz2082 Nz2082 Hs2082 Gs2082 rfl W2082 1 rfl (Nat.le_of_ble_eq_true rfl)
     have VV2082 : Arv Z h2082 b2070 k2070 (.object "java/lang/String") (3 : Int32) [(.ref b2071), (.ref b2080), .null] .null := V2082
     have cc2083 := (cc2074.wr W2073).keep K2080
     have ne2084 : b2080 ≠ b2070 := (Ne.symm (Nat.ne_of_lt (Nat.lt_of_lt_of_le (cc2074.wr W2073).lt u2080_0)))
     have ne2085 : bb2080 ≠ b2070 := (own_tyne u2080_6 cc2081 (by decide))
     have KK2082 := KK2080.wr W2082 (Or.inr (Nat.le_trans KK2056.1 (Nat.le_of_eq g2070.symm)))
     have ZN2082 := Nat.le_trans ZN2080 (Keep.of_wr W2082).1
     have HK2082 : T2080.heap.size ≤ h2082.size := Nat.le_trans (Nat.le_refl _) (Keep.of_wr W2082).1
     have NN2082 := Fr.snoc X2082 N2080 G_b2070
     have OL2082 := OL2080.wr W2082 G_b2070
     have ch2082 := ch2080.trans (CHr.wr W2082 (Safe.exa hZ.alike cc2083 (by decide) (by decide)) ch2080.1)
     refine go st2082 ?_
     show Go _ p e below s _ _ _ (T2082.setTop (mkF m 332 #[iv p1, iv p2, iv p3, iv p4, iv 3, iv i0, iv i1, iv i2, rv b2019, rv b2025, iv ca0, iv ca1, iv ca2, iv cb0, iv cb1, iv cb2, iv q0, iv q1, iv q2, iv la0, iv la1, iv la2, iv lb0, iv lb1, iv lb2, .unset, .unset, .unset, .unset, .unset, .unset, .unset, .unset] [.ref b2070]))
     refine c_dup X2082 hx hby at_332 rfl <| c_iconst X2082 hx hby 2 at_333 rfl <| c_iload X2082 hx hby at_334 rfl <| c_iload X2082 hx hby at_336 rfl <| c_callSH X2082 hx hby hZ hown hml (gw hw 29 rfl) (gw hw 30 rfl) (gw hw 31 rfl) (gw hw 32 rfl) e2082 (own_EW hw) ch2082 hS2080 HK2082 (rmMK hw la2 ca2 w0 h2082 n0 ZN2082 P1 OL2082 hw0 hla2 hca2) pd_22 rfl at_338 [.int 2, .ref b2070, .ref b2070] rfl 3 (by decide) rfl rfl fun o2086 T2086 L2086 X2086 hS2086 hZ hown hR2086 ch2086 hQ2086 => ?_
     obtain ⟨b2086, bb2086, kb2086, rfl, N2086q, u2086_0, u2086_1, K2086, u2086_3, u2086_4, u2086_5, u2086_6⟩ := hQ2086
     have N2086 := Fr.app NN2082 N2086q
     have G_b2086 := Nat.le_trans ZN2082 u2086_0
     have KK2086 := KK2082.trans K2086 all0
     have ZN2086 := Nat.le_trans ZN2082 K2086.1
     have OL2086 := OL2082.keep K2086 all0
     refine c_sh 341 [.ref b2086, .int 2, .ref b2070, .ref b2070] rfl rfl ?_
     have cc2087 := VV2082.keep K2086 nin0
     obtain ⟨cl2088, Ar2088, q2088, Sz2088, Nz2088, Hs2088, Gs2088⟩ := id cc2087
     have hin2088 : ¬ ((2 : Int32) < 0 ∨ cl2088.slots.size ≤ ((2 : Int32)).toNatClampNeg) := inb_of Sz2088 ⟨by decide, by decide⟩
     obtain ⟨T2088, h2088, X2088, e2088, W2088, st2088⟩ := stR X2086 hx hZ rfl Ar2088 (j := (2 : Int32)) hin2088 rfl (Sto.ofV Ar2088 q2088 O2070 (Ins.self u2086_3)) (g := (mkF m 341 #[iv p1, iv p2, iv p3, iv p4, iv 3, iv i0, iv i1, iv i2, rv b2019, rv b2025, iv ca0, iv ca1, iv ca2, iv cb0, iv cb1, iv cb2, iv q0, iv q1, iv q2, iv la0, iv la1, iv la2, iv lb0, iv lb1, iv lb2, .unset, .unset, .unset, .unset, .unset, .unset, .unset, .unset] [.ref b2086, .int 2, .ref b2070, .ref b2070])) rfl rfl (hb hby at_341)
     have V2088 := Arv.set Ar2088 q2088 Sz2088 Nz2088 Hs2088 Gs2088 rfl W2088 2 rfl (Nat.le_of_ble_eq_true rfl)
     have VV2088 : Arv Z h2088 b2070 k2070 (.object "java/lang/String") (3 : Int32) [(.ref b2071), (.ref b2080), (.ref b2086)] .null := V2088
     have cc2089 := (cc2083.wr W2082).keep K2086
     have ne2090 : b2086 ≠ b2070 := (Ne.symm (Nat.ne_of_lt (Nat.lt_of_lt_of_le (cc2083.wr W2082).lt u2086_0)))
     have ne2091 : bb2086 ≠ b2070 := (own_tyne u2086_6 cc2087 (by decide))
     have KK2088 := KK2086.wr W2088 (Or.inr (Nat.le_trans KK2056.1 (Nat.le_of_eq g2070.symm)))
     have ZN2088 := Nat.le_trans ZN2086 (Keep.of_wr W2088).1
     have HK2088 : T2086.heap.size ≤ h2088.size := Nat.le_trans (Nat.le_refl _) (Keep.of_wr W2088).1
     have NN2088 := Fr.snoc X2088 N2086 G_b2070
     have OL2088 := OL2086.wr W2088 G_b2070
     have ch2088 := ch2086.trans (CHr.wr W2088 (Safe.exa hZ.alike cc2089 (by decide) (by decide)) ch2086.1)
     refine go st2088 ?_
     show Go _ p e below s _ _ _ (T2088.setTop (mkF m 342 #[iv p1, iv p2, iv p3, iv p4, iv 3, iv i0, iv i1, iv i2, rv b2019, rv b2025, iv ca0, iv ca1, iv ca2, iv cb0, iv cb1, iv cb2, iv q0, iv q1, iv q2, iv la0, iv la1, iv la2, iv lb0, iv lb1, iv lb2, .unset, .unset, .unset, .unset, .unset, .unset, .unset, .unset] [.ref b2070]))
     refine c_astore X2088 hx hby _ at_342 rfl rfl <| c_iconst X2088 hx hby 3 at_344 rfl <| c_shL #[iv p1, iv p2, iv p3, iv p4, iv 3, iv i0, iv i1, iv i2, rv b2019, rv b2025, iv ca0, iv ca1, iv ca2, iv cb0, iv cb1, iv cb2, iv q0, iv q1, iv q2, iv la0, iv la1, iv la2, iv lb0, iv lb1, iv lb2, rv b2070, .unset, .unset, .unset, .unset, .unset, .unset, .unset] rfl ?_
     obtain ⟨T2092, h2092, k2092, X2092, e2092, E2092, A2092, AE2092, O2092, st2092⟩ := newRE X2088 hx hZ hown (gw hw 27 rfl) (gw hw 28 rfl) e2088 (g := (mkF m 345 #[iv p1, iv p2, iv p3, iv p4, iv 3, iv i0, iv i1, iv i2, rv b2019, rv b2025, iv ca0, iv ca1, iv ca2, iv cb0, iv cb1, iv cb2, iv q0, iv q1, iv q2, iv la0, iv la1, iv la2, iv lb0, iv lb1, iv lb2, rv b2070, .unset, .unset, .unset, .unset, .unset, .unset, .unset] [.int 3])) rfl (hb hby at_345) rfl (by decide) (cap := 3) (by decide) (by decide) (by decide) (by decide) (ad := "[Ljava/lang/String;") (by first | rfl | decide)
     obtain ⟨b2092, g2092⟩ : ∃ z, z = h2088.size := ⟨_, rfl⟩
     rw [← g2092] at A2092 AE2092 st2092
     have G_b2092 := Nat.le_trans ZN2088 (Nat.le_of_eq g2092.symm)
     have KK2092 := KK2088.ext E2092
     have ZN2092 := Nat.le_trans ZN2088 E2092.1
     have HK2092 := Nat.le_trans HK2088 E2092.1
     have OL2092 := OL2088.ext E2092
     have ch2092 := ch2088.trans (CHr.ext E2092 ch2088.1)
     have V2092 : Arv Z h2092 b2092 k2092 (.object "java/lang/String") (3 : Int32) [.null, .null, .null] .null := (Arv.new A2092 (by decide)).pad (pad_rep [] .null 3)
     refine go st2092 ?_
     show Go _ p e below s _ _ _ (T2092.setTop (mkF m 348 #[iv p1, iv p2, iv p3, iv p4, iv 3, iv i0, iv i1, iv i2, rv b2019, rv b2025, iv ca0, iv ca1, iv ca2, iv cb0, iv cb1, iv cb2, iv q0, iv q1, iv q2, iv la0, iv la1, iv la2, iv lb0, iv lb1, iv lb2, rv b2070, .unset, .unset, .unset, .unset, .unset, .unset, .unset] [.ref b2092]))
     refine c_dup X2092 hx hby at_348 rfl <| c_iconst X2092 hx hby 0 at_349 rfl ?_
     have JO0_2093 : ∀ (o0 : Addr) (ov0 : Addr) (ok0 : ClassId) (lo0 : Int32) (co0 : Int32) (T2094 : State) (locs2094 : List Loc) (_ : Stand p l e room_1 (s.setVm T2094.vm) m #[.int p1, .int p2, .int p3, .int p4] below meth c T2094 locs2094 35 94) (_ : s.Since T2094.vm T2094.heap.size) (_ : Z.Warmed39 T2094.vm) (_ : T2094.vm.findClass "com/example/raccordo/raccordo/flow/XmlElementSameAttributesPinLaw" = some m.cls) (_ : Fr n0 locs2094) (_ : Keep h0 T2094.heap []) (_ : n0 ≤ T2094.heap.size) (_ : Old Z n0 T2094.heap) (_ : CHr Z own_EL s.vm h0 T2094.vm T2094.heap) (_ : Exa Z T2094.heap b2019 "[I") (_ : Arv Z T2094.heap b2019 k2019 .int (3 : Int32) [(.int i0), (.int i1), (.int i2)] (.int (0 : Int32))) (_ : Exa Z T2094.heap b2025 "java/util/ArrayList") (_ : eS Z T2094.heap t2031) (_ : Exa Z T2094.heap b2032 "[Ljava/lang/Object;") (_ : eS Z T2094.heap t2039) (_ : eS Z T2094.heap t2055) (_ : Fld Z T2094.heap b2025 "java/util/ArrayList" "size" "I" (.int (3 : Int32))) (_ : Fld Z T2094.heap b2025 "java/util/ArrayList" "elementData" "[Ljava/lang/Object;" (.ref b2032)) (_ : Arv Z T2094.heap b2032 k2032 (.object "java/lang/Object") (10 : Int32) [(.ref t2031), (.ref t2039), (.ref t2055), .null, .null, .null, .null, .null, .null, .null] .null) (_ : Exa Z T2094.heap b2070 "[Ljava/lang/String;") (_ : Arv Z T2094.heap b2070 k2070 (.object "java/lang/String") (3 : Int32) [(.ref b2071), (.ref b2080), (.ref b2086)] .null) (_ : eS Z T2094.heap b2071) (_ : fC Z T2094.heap b2071) (_ : fV Z T2094.heap b2071 bb2071) (_ : Arv Z T2094.heap bb2071 kb2071 .byte la0 (own_vs la0 ca0) (.int (0 : Int32))) (_ : eS Z T2094.heap b2080) (_ : fC Z T2094.heap b2080) (_ : fV Z T2094.heap b2080 bb2080) (_ : Arv Z T2094.heap bb2080 kb2080 .byte la1 (own_vs la1 ca1) (.int (0 : Int32))) (_ : eS Z T2094.heap b2086) (_ : fC Z T2094.heap b2086) (_ : fV Z T2094.heap b2086 bb2086) (_ : Arv Z T2094.heap bb2086 kb2086 .byte la2 (own_vs la2 ca2) (.int (0 : Int32))) (_ : Exa Z T2094.heap b2092 "[Ljava/lang/String;") (_ : Arv Z T2094.heap b2092 k2092 (.object "java/lang/String") (3 : Int32) [.null, .null, .null] .null) (_ : eS Z T2094.heap o0) (_ : fC Z T2094.heap o0) (_ : fV Z T2094.heap o0 ov0) (_ : Arv Z T2094.heap ov0 ok0 .byte lo0 (own_vs lo0 co0) (.int (0 : Int32))) (_ : h2092.size ≤ o0), (own_o q0 la0 ca0 lb0 cb0 lo0 co0) → (lo0 = 0 ∨ lo0 = 1) → (own_ch co0) → Go (own_EndH Z) p e below s room_1.cells room_1.slots (Q0 Z p1 p2 p3 p4 w0 d0 kd el em mr h0 n0) (T2094.setTop (mkF m 372 #[iv p1, iv p2, iv p3, iv p4, iv 3, iv i0, iv i1, iv i2, rv b2019, rv b2025, iv ca0, iv ca1, iv ca2, iv cb0, iv cb1, iv cb2, iv q0, iv q1, iv q2, iv la0, iv la1, iv la2, iv lb0, iv lb1, iv lb2, rv b2070, .unset, .unset, .unset, .unset, .unset, .unset, .unset] [.ref o0, .int 0, .ref b2092, .ref b2092])) := by
      intro o0 ov0 ok0 lo0 co0 T2094 locs2094 X2094 hS2094 hZ hown NF2094 KK2094 ZN2094 OL2094 ch2094 ff2094_0 ff2094_1 ff2094_2 ff2094_3 ff2094_4 ff2094_5 ff2094_6 ff2094_7 ff2094_8 ff2094_9 ff2094_10 ff2094_11 ff2094_12 ff2094_13 ff2094_14 ff2094_15 ff2094_16 ff2094_17 ff2094_18 ff2094_19 ff2094_20 ff2094_21 ff2094_22 ff2094_23 ff2094_24 ff2094_25 ff2094_26 ff2094_27 ff2094_28 ff2094_29 fz2094_0 ho0 hlo0 hco0
      have G_o0 := Nat.le_trans ZN2092 fz2094_0
      obtain ⟨cl2095, Ar2095, q2095, Sz2095, Nz2095, Hs2095, Gs2095⟩ := id ff2094_25
      have hin2095 : ¬ ((0 : Int32) < 0 ∨ cl2095.slots.size ≤ ((0 : Int32)).toNatClampNeg) := inb_of Sz2095 ⟨by decide, by decide⟩
      obtain ⟨T2095, h2095, X2095, e2095, W2095, st2095⟩ := stR X2094 hx hZ rfl Ar2095 (j := (0 : Int32)) hin2095 rfl (Sto.ofV Ar2095 q2095 O2092 (Ins.self ff2094_26)) (g := (mkF m 372 #[iv p1, iv p2, iv p3, iv p4, iv 3, iv i0, iv i1, iv i2, rv b2019, rv b2025, iv ca0, iv ca1, iv ca2, iv cb0, iv cb1, iv cb2, iv q0, iv q1, iv q2, iv la0, iv la1, iv la2, iv lb0, iv lb1, iv lb2, rv b2070, .unset, .unset, .unset, .unset, .unset, .unset, .unset] [.ref o0, .int 0, .ref b2092, .ref b2092])) rfl rfl (hb hby at_372)
      have V2095 := Arv.set Ar2095 q2095 Sz2095 Nz2095 Hs2095 Gs2095 rfl W2095 0 rfl (Nat.le_of_ble_eq_true rfl)
      have VV2095 : Arv Z h2095 b2092 k2092 (.object "java/lang/String") (3 : Int32) [(.ref o0), .null, .null] .null := V2095
      have ne2096 : b2019 ≠ b2092 := (Nat.ne_of_lt (Nat.lt_of_lt_of_le ((((((((((((((((cc2024.wr W2023).ext E2025).keep K2026).ext E2031).keep K2032).ext E2039).keep K2040).ext E2055).keep K2056).ext E2070).keep K2071).wr W2073).keep K2080).wr W2082).keep K2086).wr W2088).lt (Nat.le_of_eq g2092.symm)))
      have ne2097 : b2025 ≠ b2092 := (Nat.ne_of_lt (Nat.lt_of_lt_of_le ((((((((cc2057.keep K2056).ext E2070).keep K2071).wr W2073).keep K2080).wr W2082).keep K2086).wr W2088).lt (Nat.le_of_eq g2092.symm)))
      have ne2098 : b2032 ≠ b2092 := (Nat.ne_of_lt (Nat.lt_of_lt_of_le (((((((u2056_4.ext E2070).keep K2071).wr W2073).keep K2080).wr W2082).keep K2086).wr W2088).lt (Nat.le_of_eq g2092.symm)))
      have ne2099 : b2070 ≠ b2092 := (Nat.ne_of_lt (Nat.lt_of_lt_of_le (cc2089.wr W2088).lt (Nat.le_of_eq g2092.symm)))
      have ne2100 : b2071 ≠ b2092 := (Nat.ne_of_lt (Nat.lt_of_lt_of_le (((((u2071_3.wr W2073).keep K2080).wr W2082).keep K2086).wr W2088).lt (Nat.le_of_eq g2092.symm)))
      have ne2101 : bb2071 ≠ b2092 := (Nat.ne_of_lt (Nat.lt_of_lt_of_le (((((u2071_6.other W2073 ne2079).keep K2080 nin0).other W2082 ne2079).keep K2086 nin0).other W2088 ne2079).lt (Nat.le_of_eq g2092.symm)))
      have ne2102 : b2080 ≠ b2092 := (Nat.ne_of_lt (Nat.lt_of_lt_of_le (((u2080_3.wr W2082).keep K2086).wr W2088).lt (Nat.le_of_eq g2092.symm)))
      have ne2103 : bb2080 ≠ b2092 := (Nat.ne_of_lt (Nat.lt_of_lt_of_le (((u2080_6.other W2082 ne2085).keep K2086 nin0).other W2088 ne2085).lt (Nat.le_of_eq g2092.symm)))
      have ne2104 : b2086 ≠ b2092 := (Nat.ne_of_lt (Nat.lt_of_lt_of_le (u2086_3.wr W2088).lt (Nat.le_of_eq g2092.symm)))
      have ne2105 : bb2086 ≠ b2092 := (Nat.ne_of_lt (Nat.lt_of_lt_of_le (u2086_6.other W2088 ne2091).lt (Nat.le_of_eq g2092.symm)))
      have ne2106 : o0 ≠ b2092 := (Ne.symm (Nat.ne_of_lt (Nat.lt_of_lt_of_le AE2092.lt fz2094_0)))
      have ne2107 : ov0 ≠ b2092 := (own_tyne ff2094_29 ff2094_25 (by decide))
      have KK2095 := KK2094.wr W2095 (Or.inr (Nat.le_trans KK2088.1 (Nat.le_of_eq g2092.symm)))
      have ZN2095 := Nat.le_trans ZN2094 (Keep.of_wr W2095).1
      have HK2095 : T2094.heap.size ≤ h2095.size := Nat.le_trans (Nat.le_refl _) (Keep.of_wr W2095).1
      have NN2095 := Fr.snoc X2095 NF2094 G_b2092
      have OL2095 := OL2094.wr W2095 G_b2092
      have ch2095 := ch2094.trans (CHr.wr W2095 (Safe.exa hZ.alike ff2094_24 (by decide) (by decide)) ch2094.1)
      refine go st2095 ?_
      show Go _ p e below s _ _ _ (T2095.setTop (mkF m 373 #[iv p1, iv p2, iv p3, iv p4, iv 3, iv i0, iv i1, iv i2, rv b2019, rv b2025, iv ca0, iv ca1, iv ca2, iv cb0, iv cb1, iv cb2, iv q0, iv q1, iv q2, iv la0, iv la1, iv la2, iv lb0, iv lb1, iv lb2, rv b2070, .unset, .unset, .unset, .unset, .unset, .unset, .unset] [.ref b2092]))
      refine c_dup X2095 hx hby at_373 rfl <| c_iconst X2095 hx hby 1 at_374 rfl ?_
      have JO1_2108 : ∀ (o1 : Addr) (ov1 : Addr) (ok1 : ClassId) (lo1 : Int32) (co1 : Int32) (T2109 : State) (locs2109 : List Loc) (_ : Stand p l e room_1 (s.setVm T2109.vm) m #[.int p1, .int p2, .int p3, .int p4] below meth c T2109 locs2109 41 106) (_ : s.Since T2109.vm T2109.heap.size) (_ : Z.Warmed39 T2109.vm) (_ : T2109.vm.findClass "com/example/raccordo/raccordo/flow/XmlElementSameAttributesPinLaw" = some m.cls) (_ : Fr n0 locs2109) (_ : Keep h0 T2109.heap []) (_ : n0 ≤ T2109.heap.size) (_ : Old Z n0 T2109.heap) (_ : CHr Z own_EL s.vm h0 T2109.vm T2109.heap) (_ : Exa Z T2109.heap b2019 "[I") (_ : Arv Z T2109.heap b2019 k2019 .int (3 : Int32) [(.int i0), (.int i1), (.int i2)] (.int (0 : Int32))) (_ : Exa Z T2109.heap b2025 "java/util/ArrayList") (_ : eS Z T2109.heap t2031) (_ : Exa Z T2109.heap b2032 "[Ljava/lang/Object;") (_ : eS Z T2109.heap t2039) (_ : eS Z T2109.heap t2055) (_ : Fld Z T2109.heap b2025 "java/util/ArrayList" "size" "I" (.int (3 : Int32))) (_ : Fld Z T2109.heap b2025 "java/util/ArrayList" "elementData" "[Ljava/lang/Object;" (.ref b2032)) (_ : Arv Z T2109.heap b2032 k2032 (.object "java/lang/Object") (10 : Int32) [(.ref t2031), (.ref t2039), (.ref t2055), .null, .null, .null, .null, .null, .null, .null] .null) (_ : Exa Z T2109.heap b2070 "[Ljava/lang/String;") (_ : Arv Z T2109.heap b2070 k2070 (.object "java/lang/String") (3 : Int32) [(.ref b2071), (.ref b2080), (.ref b2086)] .null) (_ : eS Z T2109.heap b2071) (_ : fC Z T2109.heap b2071) (_ : fV Z T2109.heap b2071 bb2071) (_ : Arv Z T2109.heap bb2071 kb2071 .byte la0 (own_vs la0 ca0) (.int (0 : Int32))) (_ : eS Z T2109.heap b2080) (_ : fC Z T2109.heap b2080) (_ : fV Z T2109.heap b2080 bb2080) (_ : Arv Z T2109.heap bb2080 kb2080 .byte la1 (own_vs la1 ca1) (.int (0 : Int32))) (_ : eS Z T2109.heap b2086) (_ : fC Z T2109.heap b2086) (_ : fV Z T2109.heap b2086 bb2086) (_ : Arv Z T2109.heap bb2086 kb2086 .byte la2 (own_vs la2 ca2) (.int (0 : Int32))) (_ : Exa Z T2109.heap b2092 "[Ljava/lang/String;") (_ : Arv Z T2109.heap b2092 k2092 (.object "java/lang/String") (3 : Int32) [(.ref o0), .null, .null] .null) (_ : eS Z T2109.heap o0) (_ : fC Z T2109.heap o0) (_ : fV Z T2109.heap o0 ov0) (_ : Arv Z T2109.heap ov0 ok0 .byte lo0 (own_vs lo0 co0) (.int (0 : Int32))) (_ : eS Z T2109.heap o1) (_ : fC Z T2109.heap o1) (_ : fV Z T2109.heap o1 ov1) (_ : Arv Z T2109.heap ov1 ok1 .byte lo1 (own_vs lo1 co1) (.int (0 : Int32))) (_ : h2095.size ≤ o1), (own_o q1 la1 ca1 lb1 cb1 lo1 co1) → (lo1 = 0 ∨ lo1 = 1) → (own_ch co1) → Go (own_EndH Z) p e below s room_1.cells room_1.slots (Q0 Z p1 p2 p3 p4 w0 d0 kd el em mr h0 n0) (T2109.setTop (mkF m 397 #[iv p1, iv p2, iv p3, iv p4, iv 3, iv i0, iv i1, iv i2, rv b2019, rv b2025, iv ca0, iv ca1, iv ca2, iv cb0, iv cb1, iv cb2, iv q0, iv q1, iv q2, iv la0, iv la1, iv la2, iv lb0, iv lb1, iv lb2, rv b2070, .unset, .unset, .unset, .unset, .unset, .unset, .unset] [.ref o1, .int 1, .ref b2092, .ref b2092])) := by
       intro o1 ov1 ok1 lo1 co1 T2109 locs2109 X2109 hS2109 hZ hown NF2109 KK2109 ZN2109 OL2109 ch2109 ff2109_0 ff2109_1 ff2109_2 ff2109_3 ff2109_4 ff2109_5 ff2109_6 ff2109_7 ff2109_8 ff2109_9 ff2109_10 ff2109_11 ff2109_12 ff2109_13 ff2109_14 ff2109_15 ff2109_16 ff2109_17 ff2109_18 ff2109_19 ff2109_20 ff2109_21 ff2109_22 ff2109_23 ff2109_24 ff2109_25 ff2109_26 ff2109_27 ff2109_28 ff2109_29 ff2109_30 ff2109_31 ff2109_32 ff2109_33 fz2109_0 ho1 hlo1 hco1
       have G_o1 := Nat.le_trans ZN2095 fz2109_0
       obtain ⟨cl2110, Ar2110, q2110, Sz2110, Nz2110, Hs2110, Gs2110⟩ := id ff2109_25
       have hin2110 : ¬ ((1 : Int32) < 0 ∨ cl2110.slots.size ≤ ((1 : Int32)).toNatClampNeg) := inb_of Sz2110 ⟨by decide, by decide⟩
       obtain ⟨T2110, h2110, X2110, e2110, W2110, st2110⟩ := stR X2109 hx hZ rfl Ar2110 (j := (1 : Int32)) hin2110 rfl (Sto.ofV Ar2110 q2110 O2092 (Ins.self ff2109_30)) (g := (mkF m 397 #[iv p1, iv p2, iv p3, iv p4, iv 3, iv i0, iv i1, iv i2, rv b2019, rv b2025, iv ca0, iv ca1, iv ca2, iv cb0, iv cb1, iv cb2, iv q0, iv q1, iv q2, iv la0, iv la1, iv la2, iv lb0, iv lb1, iv lb2, rv b2070, .unset, .unset, .unset, .unset, .unset, .unset, .unset] [.ref o1, .int 1, .ref b2092, .ref b2092])) rfl rfl (hb hby at_397)
       have V2110 := Arv.set Ar2110 q2110 Sz2110 Nz2110 Hs2110 Gs2110 rfl W2110 1 rfl (Nat.le_of_ble_eq_true rfl)
       have VV2110 : Arv Z h2110 b2092 k2092 (.object "java/lang/String") (3 : Int32) [(.ref o0), (.ref o1), .null] .null := V2110
       have ne2111 : o1 ≠ b2092 := (Ne.symm (Nat.ne_of_lt (Nat.lt_of_lt_of_le (ff2094_24.wr W2095).lt fz2109_0)))
       have ne2112 : ov1 ≠ b2092 := (own_tyne ff2109_33 ff2109_25 (by decide))
       have KK2110 := KK2109.wr W2110 (Or.inr (Nat.le_trans KK2088.1 (Nat.le_of_eq g2092.symm)))
       have ZN2110 := Nat.le_trans ZN2109 (Keep.of_wr W2110).1
       have HK2110 : T2109.heap.size ≤ h2110.size := Nat.le_trans (Nat.le_refl _) (Keep.of_wr W2110).1
       have NN2110 := Fr.snoc X2110 NF2109 G_b2092
       have OL2110 := OL2109.wr W2110 G_b2092
       have ch2110 := ch2109.trans (CHr.wr W2110 (Safe.exa hZ.alike ff2109_24 (by decide) (by decide)) ch2109.1)
       refine go st2110 ?_
       show Go _ p e below s _ _ _ (T2110.setTop (mkF m 398 #[iv p1, iv p2, iv p3, iv p4, iv 3, iv i0, iv i1, iv i2, rv b2019, rv b2025, iv ca0, iv ca1, iv ca2, iv cb0, iv cb1, iv cb2, iv q0, iv q1, iv q2, iv la0, iv la1, iv la2, iv lb0, iv lb1, iv lb2, rv b2070, .unset, .unset, .unset, .unset, .unset, .unset, .unset] [.ref b2092]))
       refine c_dup X2110 hx hby at_398 rfl <| c_iconst X2110 hx hby 2 at_399 rfl ?_
       have JO2_2113 : ∀ (o2 : Addr) (ov2 : Addr) (ok2 : ClassId) (lo2 : Int32) (co2 : Int32) (T2114 : State) (locs2114 : List Loc) (_ : Stand p l e room_1 (s.setVm T2114.vm) m #[.int p1, .int p2, .int p3, .int p4] below meth c T2114 locs2114 47 118) (_ : s.Since T2114.vm T2114.heap.size) (_ : Z.Warmed39 T2114.vm) (_ : T2114.vm.findClass "com/example/raccordo/raccordo/flow/XmlElementSameAttributesPinLaw" = some m.cls) (_ : Fr n0 locs2114) (_ : Keep h0 T2114.heap []) (_ : n0 ≤ T2114.heap.size) (_ : Old Z n0 T2114.heap) (_ : CHr Z own_EL s.vm h0 T2114.vm T2114.heap) (_ : Exa Z T2114.heap b2019 "[I") (_ : Arv Z T2114.heap b2019 k2019 .int (3 : Int32) [(.int i0), (.int i1), (.int i2)] (.int (0 : Int32))) (_ : Exa Z T2114.heap b2025 "java/util/ArrayList") (_ : eS Z T2114.heap t2031) (_ : Exa Z T2114.heap b2032 "[Ljava/lang/Object;") (_ : eS Z T2114.heap t2039) (_ : eS Z T2114.heap t2055) (_ : Fld Z T2114.heap b2025 "java/util/ArrayList" "size" "I" (.int (3 : Int32))) (_ : Fld Z T2114.heap b2025 "java/util/ArrayList" "elementData" "[Ljava/lang/Object;" (.ref b2032)) (_ : Arv Z T2114.heap b2032 k2032 (.object "java/lang/Object") (10 : Int32) [(.ref t2031), (.ref t2039), (.ref t2055), .null, .null, .null, .null, .null, .null, .null] .null) (_ : Exa Z T2114.heap b2070 "[Ljava/lang/String;") (_ : Arv Z T2114.heap b2070 k2070 (.object "java/lang/String") (3 : Int32) [(.ref b2071), (.ref b2080), (.ref b2086)] .null) (_ : eS Z T2114.heap b2071) (_ : fC Z T2114.heap b2071) (_ : fV Z T2114.heap b2071 bb2071) (_ : Arv Z T2114.heap bb2071 kb2071 .byte la0 (own_vs la0 ca0) (.int (0 : Int32))) (_ : eS Z T2114.heap b2080) (_ : fC Z T2114.heap b2080) (_ : fV Z T2114.heap b2080 bb2080) (_ : Arv Z T2114.heap bb2080 kb2080 .byte la1 (own_vs la1 ca1) (.int (0 : Int32))) (_ : eS Z T2114.heap b2086) (_ : fC Z T2114.heap b2086) (_ : fV Z T2114.heap b2086 bb2086) (_ : Arv Z T2114.heap bb2086 kb2086 .byte la2 (own_vs la2 ca2) (.int (0 : Int32))) (_ : Exa Z T2114.heap b2092 "[Ljava/lang/String;") (_ : Arv Z T2114.heap b2092 k2092 (.object "java/lang/String") (3 : Int32) [(.ref o0), (.ref o1), .null] .null) (_ : eS Z T2114.heap o0) (_ : fC Z T2114.heap o0) (_ : fV Z T2114.heap o0 ov0) (_ : Arv Z T2114.heap ov0 ok0 .byte lo0 (own_vs lo0 co0) (.int (0 : Int32))) (_ : eS Z T2114.heap o1) (_ : fC Z T2114.heap o1) (_ : fV Z T2114.heap o1 ov1) (_ : Arv Z T2114.heap ov1 ok1 .byte lo1 (own_vs lo1 co1) (.int (0 : Int32))) (_ : eS Z T2114.heap o2) (_ : fC Z T2114.heap o2) (_ : fV Z T2114.heap o2 ov2) (_ : Arv Z T2114.heap ov2 ok2 .byte lo2 (own_vs lo2 co2) (.int (0 : Int32))) (_ : h2110.size ≤ o2), (own_o q2 la2 ca2 lb2 cb2 lo2 co2) → (lo2 = 0 ∨ lo2 = 1) → (own_ch co2) → Go (own_EndH Z) p e below s room_1.cells room_1.slots (Q0 Z p1 p2 p3 p4 w0 d0 kd el em mr h0 n0) (T2114.setTop (mkF m 422 #[iv p1, iv p2, iv p3, iv p4, iv 3, iv i0, iv i1, iv i2, rv b2019, rv b2025, iv ca0, iv ca1, iv ca2, iv cb0, iv cb1, iv cb2, iv q0, iv q1, iv q2, iv la0, iv la1, iv la2, iv lb0, iv lb1, iv lb2, rv b2070, .unset, .unset, .unset, .unset, .unset, .unset, .unset] [.ref o2, .int 2, .ref b2092, .ref b2092])) := by
        intro o2 ov2 ok2 lo2 co2 T2114 locs2114 X2114 hS2114 hZ hown NF2114 KK2114 ZN2114 OL2114 ch2114 ff2114_0 ff2114_1 ff2114_2 ff2114_3 ff2114_4 ff2114_5 ff2114_6 ff2114_7 ff2114_8 ff2114_9 ff2114_10 ff2114_11 ff2114_12 ff2114_13 ff2114_14 ff2114_15 ff2114_16 ff2114_17 ff2114_18 ff2114_19 ff2114_20 ff2114_21 ff2114_22 ff2114_23 ff2114_24 ff2114_25 ff2114_26 ff2114_27 ff2114_28 ff2114_29 ff2114_30 ff2114_31 ff2114_32 ff2114_33 ff2114_34 ff2114_35 ff2114_36 ff2114_37 fz2114_0 ho2 hlo2 hco2
        have G_o2 := Nat.le_trans ZN2110 fz2114_0
        obtain ⟨cl2115, Ar2115, q2115, Sz2115, Nz2115, Hs2115, Gs2115⟩ := id ff2114_25
        have hin2115 : ¬ ((2 : Int32) < 0 ∨ cl2115.slots.size ≤ ((2 : Int32)).toNatClampNeg) := inb_of Sz2115 ⟨by decide, by decide⟩
        obtain ⟨T2115, h2115, X2115, e2115, W2115, st2115⟩ := stR X2114 hx hZ rfl Ar2115 (j := (2 : Int32)) hin2115 rfl (Sto.ofV Ar2115 q2115 O2092 (Ins.self ff2114_34)) (g := (mkF m 422 #[iv p1, iv p2, iv p3, iv p4, iv 3, iv i0, iv i1, iv i2, rv b2019, rv b2025, iv ca0, iv ca1, iv ca2, iv cb0, iv cb1, iv cb2, iv q0, iv q1, iv q2, iv la0, iv la1, iv la2, iv lb0, iv lb1, iv lb2, rv b2070, .unset, .unset, .unset, .unset, .unset, .unset, .unset] [.ref o2, .int 2, .ref b2092, .ref b2092])) rfl rfl (hb hby at_422)
        have V2115 := Arv.set Ar2115 q2115 Sz2115 Nz2115 Hs2115 Gs2115 rfl W2115 2 rfl (Nat.le_of_ble_eq_true rfl)
        have VV2115 : Arv Z h2115 b2092 k2092 (.object "java/lang/String") (3 : Int32) [(.ref o0), (.ref o1), (.ref o2)] .null := V2115
        have ne2116 : o2 ≠ b2092 := (Ne.symm (Nat.ne_of_lt (Nat.lt_of_lt_of_le (ff2109_24.wr W2110).lt fz2114_0)))
        have ne2117 : ov2 ≠ b2092 := (own_tyne ff2114_37 ff2114_25 (by decide))
        have KK2115 := KK2114.wr W2115 (Or.inr (Nat.le_trans KK2088.1 (Nat.le_of_eq g2092.symm)))
        have ZN2115 := Nat.le_trans ZN2114 (Keep.of_wr W2115).1
        have HK2115 : T2114.heap.size ≤ h2115.size := Nat.le_trans (Nat.le_refl _) (Keep.of_wr W2115).1
        have NN2115 := Fr.snoc X2115 NF2114 G_b2092
        have OL2115 := OL2114.wr W2115 G_b2092
        have ch2115 := ch2114.trans (CHr.wr W2115 (Safe.exa hZ.alike ff2114_24 (by decide) (by decide)) ch2114.1)
        refine go st2115 ?_
        show Go _ p e below s _ _ _ (T2115.setTop (mkF m 423 #[iv p1, iv p2, iv p3, iv p4, iv 3, iv i0, iv i1, iv i2, rv b2019, rv b2025, iv ca0, iv ca1, iv ca2, iv cb0, iv cb1, iv cb2, iv q0, iv q1, iv q2, iv la0, iv la1, iv la2, iv lb0, iv lb1, iv lb2, rv b2070, .unset, .unset, .unset, .unset, .unset, .unset, .unset] [.ref b2092]))
        refine c_astore X2115 hx hby _ at_423 rfl rfl <| c_shL #[iv p1, iv p2, iv p3, iv p4, iv 3, iv i0, iv i1, iv i2, rv b2019, rv b2025, iv ca0, iv ca1, iv ca2, iv cb0, iv cb1, iv cb2, iv q0, iv q1, iv q2, iv la0, iv la1, iv la2, iv lb0, iv lb1, iv lb2, rv b2070, rv b2092, .unset, .unset, .unset, .unset, .unset, .unset] rfl ?_
        have JE0_2118 : ∀ (ze2119 : Int32), (ze2119 = (own_eq la0 ca0 lo0 co0)) → Go (own_EndH Z) p e below s room_1.cells room_1.slots (Q0 Z p1 p2 p3 p4 w0 d0 kd el em mr h0 n0) (T2115.setTop (mkF m 454 #[iv p1, iv p2, iv p3, iv p4, iv 3, iv i0, iv i1, iv i2, rv b2019, rv b2025, iv ca0, iv ca1, iv ca2, iv cb0, iv cb1, iv cb2, iv q0, iv q1, iv q2, iv la0, iv la1, iv la2, iv lb0, iv lb1, iv lb2, rv b2070, rv b2092, .unset, .unset, .unset, .unset, .unset, .unset] [.int ze2119])) := by
         intro ze2119 hz_
         subst hz_
         refine c_istore X2115 hx hby _ at_454 rfl <| c_shL #[iv p1, iv p2, iv p3, iv p4, iv 3, iv i0, iv i1, iv i2, rv b2019, rv b2025, iv ca0, iv ca1, iv ca2, iv cb0, iv cb1, iv cb2, iv q0, iv q1, iv q2, iv la0, iv la1, iv la2, iv lb0, iv lb1, iv lb2, rv b2070, rv b2092, iv (own_eq la0 ca0 lo0 co0), .unset, .unset, .unset, .unset, .unset] rfl ?_
         have JE1_2120 : ∀ (ze2121 : Int32), (ze2121 = (own_eq la1 ca1 lo1 co1)) → Go (own_EndH Z) p e below s room_1.cells room_1.slots (Q0 Z p1 p2 p3 p4 w0 d0 kd el em mr h0 n0) (T2115.setTop (mkF m 485 #[iv p1, iv p2, iv p3, iv p4, iv 3, iv i0, iv i1, iv i2, rv b2019, rv b2025, iv ca0, iv ca1, iv ca2, iv cb0, iv cb1, iv cb2, iv q0, iv q1, iv q2, iv la0, iv la1, iv la2, iv lb0, iv lb1, iv lb2, rv b2070, rv b2092, iv (own_eq la0 ca0 lo0 co0), .unset, .unset, .unset, .unset, .unset] [.int ze2121])) := by
          intro ze2121 hz_
          subst hz_
          refine c_istore X2115 hx hby _ at_485 rfl <| c_shL #[iv p1, iv p2, iv p3, iv p4, iv 3, iv i0, iv i1, iv i2, rv b2019, rv b2025, iv ca0, iv ca1, iv ca2, iv cb0, iv cb1, iv cb2, iv q0, iv q1, iv q2, iv la0, iv la1, iv la2, iv lb0, iv lb1, iv lb2, rv b2070, rv b2092, iv (own_eq la0 ca0 lo0 co0), iv (own_eq la1 ca1 lo1 co1), .unset, .unset, .unset, .unset] rfl ?_
          have JE2_2122 : ∀ (ze2123 : Int32), (ze2123 = (own_eq la2 ca2 lo2 co2)) → Go (own_EndH Z) p e below s room_1.cells room_1.slots (Q0 Z p1 p2 p3 p4 w0 d0 kd el em mr h0 n0) (T2115.setTop (mkF m 516 #[iv p1, iv p2, iv p3, iv p4, iv 3, iv i0, iv i1, iv i2, rv b2019, rv b2025, iv ca0, iv ca1, iv ca2, iv cb0, iv cb1, iv cb2, iv q0, iv q1, iv q2, iv la0, iv la1, iv la2, iv lb0, iv lb1, iv lb2, rv b2070, rv b2092, iv (own_eq la0 ca0 lo0 co0), iv (own_eq la1 ca1 lo1 co1), .unset, .unset, .unset, .unset] [.int ze2123])) := by
           intro ze2123 hz_
           subst hz_
           refine c_istore X2115 hx hby _ at_516 rfl <| c_shL #[iv p1, iv p2, iv p3, iv p4, iv 3, iv i0, iv i1, iv i2, rv b2019, rv b2025, iv ca0, iv ca1, iv ca2, iv cb0, iv cb1, iv cb2, iv q0, iv q1, iv q2, iv la0, iv la1, iv la2, iv lb0, iv lb1, iv lb2, rv b2070, rv b2092, iv (own_eq la0 ca0 lo0 co0), iv (own_eq la1 ca1 lo1 co1), iv (own_eq la2 ca2 lo2 co2), .unset, .unset, .unset] rfl <| c_new X2115 hx hby hZ hown (gw hw 52 rfl) (gw hw 53 rfl) (gw hw 54 rfl) e2115 at_518 (by decide) fun T2124 h2124 b2124 g2124 X2124 e2124 E2124 A2124 D2124 => ?_
           have G_b2124 := Nat.le_trans ZN2115 (Nat.le_of_eq g2124.symm)
           have KK2124 := KK2115.ext E2124
           have ZN2124 := Nat.le_trans ZN2115 E2124.1
           have HK2124 := Nat.le_trans HK2115 E2124.1
           have OL2124 := OL2115.ext E2124
           have ch2124 := ch2115.trans (CHr.ext E2124 ch2115.1)
           refine c_sh 521 [.ref b2124] rfl rfl <| c_dup X2124 hx hby at_521 rfl ?_
           obtain ⟨t2125, T2125, h2125, k2125, bs2125, ks2125, X2125, e2125, E2125, hS2125, hk2125, hZ, hown, LE2125, LC2125, LV2125, LA2125, -, -, cr2125, -, sn2125, st2125⟩ := ldcCH X2124 hx hZ hown (gw hw 55 rfl) (own_wS hw) e2124 hS2114 HK2124 (own_EW hw) (List.mem_of_getElem? (i := 3) rfl) ch2124.1 (vs := [(.int (120 : Int32))]) (z := (1 : Int32)) ⟨by decide, by decide⟩ (by decide) (by decide) (g := (mkF m 522 #[iv p1, iv p2, iv p3, iv p4, iv 3, iv i0, iv i1, iv i2, rv b2019, rv b2025, iv ca0, iv ca1, iv ca2, iv cb0, iv cb1, iv cb2, iv q0, iv q1, iv q2, iv la0, iv la1, iv la2, iv lb0, iv lb1, iv lb2, rv b2070, rv b2092, iv (own_eq la0 ca0 lo0 co0), iv (own_eq la1 ca1 lo1 co1), iv (own_eq la2 ca2 lo2 co2), .unset, .unset, .unset] [.ref b2124, .ref b2124])) rfl (hb hby at_522) (n := 4) (by decide) (by decide) (by decide) (by decide)
           have ch2125 := ch2124.trans cr2125
           have KK2125 := KK2124.ext E2125
           have ZN2125 := Nat.le_trans ZN2124 E2125.1
           have OL2125 := OL2124.ext E2125
           refine go st2125 ?_
           show Go _ p e below s _ _ _ (T2125.setTop (mkF m 524 #[iv p1, iv p2, iv p3, iv p4, iv 3, iv i0, iv i1, iv i2, rv b2019, rv b2025, iv ca0, iv ca1, iv ca2, iv cb0, iv cb1, iv cb2, iv q0, iv q1, iv q2, iv la0, iv la1, iv la2, iv lb0, iv lb1, iv lb2, rv b2070, rv b2092, iv (own_eq la0 ca0 lo0 co0), iv (own_eq la1 ca1 lo1 co1), iv (own_eq la2 ca2 lo2 co2), .unset, .unset, .unset] [.ref t2125, .ref b2124, .ref b2124]))
           refine c_aload X2125 hx hby at_524 rfl rfl <| c_aload X2125 hx hby at_526 rfl rfl <| c_iconst X2125 hx hby (-1) at_528 rfl <| c_new X2125 hx hby hZ hown (gw hw 1 rfl) (gw hw 2 rfl) (gw hw 3 rfl) e2125 at_529 (by decide) fun T2126 h2126 b2126 g2126 X2126 e2126 E2126 A2126 D2126 => ?_
           have G_b2126 := Nat.le_trans ZN2125 (Nat.le_of_eq g2126.symm)
           have KK2126 := KK2125.ext E2126
           have ZN2126 := Nat.le_trans ZN2125 E2126.1
           have HK2126 := Nat.le_trans hk2125 E2126.1
           have OL2126 := OL2125.ext E2126
           have ch2126 := ch2125.trans (CHr.ext E2126 ch2125.1)
           refine c_sh 532 [.ref b2126, .int (-1), .ref b2019, .ref b2025, .ref t2125, .ref b2124, .ref b2124] rfl rfl <| c_dup X2126 hx hby at_532 rfl ?_
           have cc2128 := show Fld Z h2126 b2126 "java/util/AbstractList" "modCount" "I" (.int (0 : Int32)) from D2126 (Or.inl (gw hw 23 rfl)) (ty := .int) (by decide)
           have cc2129 := show Fld Z h2126 b2126 "java/util/ArrayList" "size" "I" (.int (0 : Int32)) from D2126 (Or.inl (gw hw 86 rfl)) (ty := .int) (by decide)
           have cc2130 := show Fld Z h2126 b2126 "java/util/ArrayList" "elementData" "[Ljava/lang/Object;" .null from D2126 (Or.inl (gw hw 26 rfl)) (ty := (.array (.object "java/lang/Object"))) (by decide)
           refine c_init X2126 hx hby hZ hown hml (gw hw 4 rfl) (gw hw 5 rfl) (gw hw 6 rfl) (gw hw 3 rfl) rfl e2126 (rm1 hw b2126 (.int (0 : Int32)) (.int (0 : Int32)) .null d0 h2126 n0 ZN2126 P2 OL2126 A2126 G_b2126 cc2128 cc2129 cc2130) pd_4 rfl at_533 [.ref b2126, .int (-1), .ref b2019, .ref b2025, .ref t2125, .ref b2124, .ref b2124] rfl 7 (by decide) rfl rfl fun o2127 T2127 L2127 X2127 hQ2127 => ?_
           obtain ⟨rfl, N2127q, K2127, u2127_1, u2127_2, u2127_3⟩ := hQ2127
           have N2127 := Fr.app NN2115 N2127q
           have ne2131 : b2019 ≠ b2126 := (Nat.ne_of_lt (Nat.lt_of_lt_of_le (((ff2114_0.wr W2115).ext E2124).ext E2125).lt (Nat.le_of_eq g2126.symm)))
           have ne2132 : b2025 ≠ b2126 := (Nat.ne_of_lt (Nat.lt_of_lt_of_le (((ff2114_2.wr W2115).ext E2124).ext E2125).lt (Nat.le_of_eq g2126.symm)))
           have ne2133 : b2032 ≠ b2126 := (Nat.ne_of_lt (Nat.lt_of_lt_of_le (((ff2114_4.wr W2115).ext E2124).ext E2125).lt (Nat.le_of_eq g2126.symm)))
           have ne2134 : b2070 ≠ b2126 := (Nat.ne_of_lt (Nat.lt_of_lt_of_le (((ff2114_10.wr W2115).ext E2124).ext E2125).lt (Nat.le_of_eq g2126.symm)))
           have ne2135 : b2071 ≠ b2126 := (Nat.ne_of_lt (Nat.lt_of_lt_of_le (((ff2114_12.wr W2115).ext E2124).ext E2125).lt (Nat.le_of_eq g2126.symm)))
           have ne2136 : bb2071 ≠ b2126 := (Nat.ne_of_lt (Nat.lt_of_lt_of_le (((ff2114_15.other W2115 ne2101).ext E2124).ext E2125).lt (Nat.le_of_eq g2126.symm)))
           have ne2137 : b2080 ≠ b2126 := (Nat.ne_of_lt (Nat.lt_of_lt_of_le (((ff2114_16.wr W2115).ext E2124).ext E2125).lt (Nat.le_of_eq g2126.symm)))
           have ne2138 : bb2080 ≠ b2126 := (Nat.ne_of_lt (Nat.lt_of_lt_of_le (((ff2114_19.other W2115 ne2103).ext E2124).ext E2125).lt (Nat.le_of_eq g2126.symm)))
           have ne2139 : b2086 ≠ b2126 := (Nat.ne_of_lt (Nat.lt_of_lt_of_le (((ff2114_20.wr W2115).ext E2124).ext E2125).lt (Nat.le_of_eq g2126.symm)))
           have ne2140 : bb2086 ≠ b2126 := (Nat.ne_of_lt (Nat.lt_of_lt_of_le (((ff2114_23.other W2115 ne2105).ext E2124).ext E2125).lt (Nat.le_of_eq g2126.symm)))
           have ne2141 : b2092 ≠ b2126 := (Nat.ne_of_lt (Nat.lt_of_lt_of_le (((ff2114_24.wr W2115).ext E2124).ext E2125).lt (Nat.le_of_eq g2126.symm)))
           have ne2142 : o0 ≠ b2126 := (Nat.ne_of_lt (Nat.lt_of_lt_of_le (((ff2114_26.wr W2115).ext E2124).ext E2125).lt (Nat.le_of_eq g2126.symm)))
           have ne2143 : ov0 ≠ b2126 := (Nat.ne_of_lt (Nat.lt_of_lt_of_le (((ff2114_29.other W2115 ne2107).ext E2124).ext E2125).lt (Nat.le_of_eq g2126.symm)))
           have ne2144 : o1 ≠ b2126 := (Nat.ne_of_lt (Nat.lt_of_lt_of_le (((ff2114_30.wr W2115).ext E2124).ext E2125).lt (Nat.le_of_eq g2126.symm)))
           have ne2145 : ov1 ≠ b2126 := (Nat.ne_of_lt (Nat.lt_of_lt_of_le (((ff2114_33.other W2115 ne2112).ext E2124).ext E2125).lt (Nat.le_of_eq g2126.symm)))
           have ne2146 : o2 ≠ b2126 := (Nat.ne_of_lt (Nat.lt_of_lt_of_le (((ff2114_34.wr W2115).ext E2124).ext E2125).lt (Nat.le_of_eq g2126.symm)))
           have ne2147 : ov2 ≠ b2126 := (Nat.ne_of_lt (Nat.lt_of_lt_of_le (((ff2114_37.other W2115 ne2117).ext E2124).ext E2125).lt (Nat.le_of_eq g2126.symm)))
           have ne2148 : b2124 ≠ b2126 := (Nat.ne_of_lt (Nat.lt_of_lt_of_le (A2124.ext E2125).lt (Nat.le_of_eq g2126.symm)))
           have ne2149 : t2125 ≠ b2126 := (Nat.ne_of_lt (Nat.lt_of_lt_of_le LE2125.lt (Nat.le_of_eq g2126.symm)))
           have ne2150 : bs2125 ≠ b2126 := (Nat.ne_of_lt (Nat.lt_of_lt_of_le LA2125.lt (Nat.le_of_eq g2126.symm)))
           have KK2127 := KK2126.trans K2127 (allS (P := fun x => x ∈ [] ∨ h0.size ≤ x) (Or.inr (Nat.le_trans KK2125.1 (Nat.le_of_eq g2126.symm))) all0)
           have ZN2127 := Nat.le_trans ZN2126 K2127.1
           have HK2127 : k2125 ≤ T2127.heap.size := Nat.le_trans HK2126 K2127.1
           have ch2127 := ch2126.trans (CHr.keep K2127 (allS (Safe.exa hZ.alike A2126 (by decide) (by decide)) all0) ch2126.1)
           have OL2127 := OL2126.keep K2127 (allS G_b2126 all0)
           refine c_sh 536 [.ref b2126, .int (-1), .ref b2019, .ref b2025, .ref t2125, .ref b2124, .ref b2124] rfl rfl ?_
           have cc2152 := ((A2124.ext E2125).ext E2126).keep K2127
           have cc2153 := (((show Fld Z h2124 b2124 "com/example/raccordo/raccordo/flow/XmlElement" "name" "Ljava/lang/String;" .null from D2124 (Or.inr (gw hw 61 rfl)) (ty := (.object "java/lang/String")) (by decide)).ext E2125).ext E2126).keep K2127 (ninS ne2148 nin0)
           have cc2154 := (((show Fld Z h2124 b2124 "com/example/raccordo/raccordo/flow/XmlElement" "attributes" "Ljava/util/List;" .null from D2124 (Or.inr (gw hw 92 rfl)) (ty := (.object "java/util/List")) (by decide)).ext E2125).ext E2126).keep K2127 (ninS ne2148 nin0)
           have cc2155 := (((show Fld Z h2124 b2124 "com/example/raccordo/raccordo/flow/XmlElement" "attributeIndexes" "[I" .null from D2124 (Or.inr (gw hw 103 rfl)) (ty := (.array .int)) (by decide)).ext E2125).ext E2126).keep K2127 (ninS ne2148 nin0)
           have cc2156 := (((show Fld Z h2124 b2124 "com/example/raccordo/raccordo/flow/XmlElement" "textIndex" "I" (.int (0 : Int32)) from D2124 (Or.inr (gw hw 105 rfl)) (ty := .int) (by decide)).ext E2125).ext E2126).keep K2127 (ninS ne2148 nin0)
           have cc2157 := (((show Fld Z h2124 b2124 "com/example/raccordo/raccordo/flow/XmlElement" "children" "Ljava/util/List;" .null from D2124 (Or.inr (gw hw 107 rfl)) (ty := (.object "java/util/List")) (by decide)).ext E2125).ext E2126).keep K2127 (ninS ne2148 nin0)
           have cc2158 := ((((ff2114_2.wr W2115).ext E2124).ext E2125).ext E2126).keep K2127
           have cc2159 := ((((ff2114_7.other W2115 (Or.inl ne2097)).ext E2124).ext E2125).ext E2126).keep K2127 (ninS ne2132 nin0)
           have cc2160 := ((((ff2114_8.other W2115 (Or.inl ne2097)).ext E2124).ext E2125).ext E2126).keep K2127 (ninS ne2132 nin0)
           have cc2161 := ((((ff2114_4.wr W2115).ext E2124).ext E2125).ext E2126).keep K2127
           have cc2162 := ((((ff2114_9.other W2115 ne2098).ext E2124).ext E2125).ext E2126).keep K2127 (ninS ne2133 nin0)
           have cc2163 := ((((ff2114_3.wr W2115).ext E2124).ext E2125).ext E2126).keep K2127
           have cc2164 := ((((ff2114_5.wr W2115).ext E2124).ext E2125).ext E2126).keep K2127
           have cc2165 := ((((ff2114_6.wr W2115).ext E2124).ext E2125).ext E2126).keep K2127
           have cc2166 := A2126.keep K2127
           have cc2167 := ((((ff2114_0.wr W2115).ext E2124).ext E2125).ext E2126).keep K2127
           have cc2168 := ((((ff2114_1.other W2115 ne2096).ext E2124).ext E2125).ext E2126).keep K2127 (ninS ne2131 nin0)
           have ne2169 : b2124 ≠ b2025 := (Ne.symm (Nat.ne_of_lt (Nat.lt_of_lt_of_le (ff2114_2.wr W2115).lt (Nat.le_of_eq g2124.symm))))
           have ne2170 : b2124 ≠ b2019 := (Ne.symm (Nat.ne_of_lt (Nat.lt_of_lt_of_le (ff2114_0.wr W2115).lt (Nat.le_of_eq g2124.symm))))
           have ne2171 : b2124 ≠ b2032 := (Ne.symm (Nat.ne_of_lt (Nat.lt_of_lt_of_le (ff2114_4.wr W2115).lt (Nat.le_of_eq g2124.symm))))
           refine c_init X2127 hx hby hZ hown hml (gw hw 56 rfl) (gw hw 57 rfl) (gw hw 58 rfl) (gw hw 54 rfl) rfl rfl (rmXI3 hw b2124 t2125 b2025 b2019 b2126 .null .null .null (.int (0 : Int32)) .null el k2019 i0 i1 i2 b2032 k2032 t2031 t2039 t2055 mr em (T2127.heap) n0 ZN2127 P4 OL2127 cc2152 G_b2124 cc2153 cc2154 cc2155 cc2156 cc2157 cc2158 cc2159 cc2160 cc2161 cc2162 cc2163 cc2164 cc2165 P5 cc2166 u2127_2 cc2167 cc2168 ne2169 ne2170 ne2148 ne2171 hm) pd_23 rfl at_536 [.ref b2124] rfl 1 (by decide) rfl rfl fun o2151 T2151 L2151 X2151 hQ2151 => ?_
           obtain ⟨b2151, rfl, N2151q, u2151_0, u2151_1, K2151, u2151_3, u2151_4⟩ := hQ2151
           have N2151 := Fr.app N2127 N2151q
           have G_b2151 := Nat.le_trans ZN2127 u2151_0
           have ne2172 : b2070 ≠ b2124 := (Nat.ne_of_lt (Nat.lt_of_lt_of_le (ff2114_10.wr W2115).lt (Nat.le_of_eq g2124.symm)))
           have ne2173 : b2071 ≠ b2124 := (Nat.ne_of_lt (Nat.lt_of_lt_of_le (ff2114_12.wr W2115).lt (Nat.le_of_eq g2124.symm)))
           have ne2174 : bb2071 ≠ b2124 := (Nat.ne_of_lt (Nat.lt_of_lt_of_le (ff2114_15.other W2115 ne2101).lt (Nat.le_of_eq g2124.symm)))
           have ne2175 : b2080 ≠ b2124 := (Nat.ne_of_lt (Nat.lt_of_lt_of_le (ff2114_16.wr W2115).lt (Nat.le_of_eq g2124.symm)))
           have ne2176 : bb2080 ≠ b2124 := (Nat.ne_of_lt (Nat.lt_of_lt_of_le (ff2114_19.other W2115 ne2103).lt (Nat.le_of_eq g2124.symm)))
           have ne2177 : b2086 ≠ b2124 := (Nat.ne_of_lt (Nat.lt_of_lt_of_le (ff2114_20.wr W2115).lt (Nat.le_of_eq g2124.symm)))
           have ne2178 : bb2086 ≠ b2124 := (Nat.ne_of_lt (Nat.lt_of_lt_of_le (ff2114_23.other W2115 ne2105).lt (Nat.le_of_eq g2124.symm)))
           have ne2179 : b2092 ≠ b2124 := (Nat.ne_of_lt (Nat.lt_of_lt_of_le (ff2114_24.wr W2115).lt (Nat.le_of_eq g2124.symm)))
           have ne2180 : o0 ≠ b2124 := (Nat.ne_of_lt (Nat.lt_of_lt_of_le (ff2114_26.wr W2115).lt (Nat.le_of_eq g2124.symm)))
           have ne2181 : ov0 ≠ b2124 := (Nat.ne_of_lt (Nat.lt_of_lt_of_le (ff2114_29.other W2115 ne2107).lt (Nat.le_of_eq g2124.symm)))
           have ne2182 : o1 ≠ b2124 := (Nat.ne_of_lt (Nat.lt_of_lt_of_le (ff2114_30.wr W2115).lt (Nat.le_of_eq g2124.symm)))
           have ne2183 : ov1 ≠ b2124 := (Nat.ne_of_lt (Nat.lt_of_lt_of_le (ff2114_33.other W2115 ne2112).lt (Nat.le_of_eq g2124.symm)))
           have ne2184 : o2 ≠ b2124 := (Nat.ne_of_lt (Nat.lt_of_lt_of_le (ff2114_34.wr W2115).lt (Nat.le_of_eq g2124.symm)))
           have ne2185 : ov2 ≠ b2124 := (Nat.ne_of_lt (Nat.lt_of_lt_of_le (ff2114_37.other W2115 ne2117).lt (Nat.le_of_eq g2124.symm)))
           have ne2186 : t2125 ≠ b2124 := (Exa.ne ((LE2125.ext E2126).keep K2127) cc2152 (by decide))
           have ne2187 : bs2125 ≠ b2124 := (Ne.symm (Exa.neArv cc2152 ((LA2125.ext E2126).keep K2127 (ninS ne2150 nin0)) (gw hw 53 rfl)))
           have KK2151 := KK2127.trans K2151 (allS (P := fun x => x ∈ [] ∨ h0.size ≤ x) (Or.inr (Nat.le_trans KK2115.1 (Nat.le_of_eq g2124.symm))) all0)
           have ZN2151 := Nat.le_trans ZN2127 K2151.1
           have HK2151 : k2125 ≤ T2151.heap.size := Nat.le_trans HK2127 K2151.1
           have ch2151 := ch2127.trans (CHr.keep K2151 (allS (Safe.exa hZ.alike cc2152 (by decide) (by decide)) all0) ch2127.1)
           have OL2151 := OL2127.keep K2151 (allS G_b2124 all0)
           refine c_sh 539 [.ref b2124] rfl rfl <| c_astore X2151 hx hby _ at_539 rfl rfl <| c_aload X2151 hx hby at_541 rfl rfl <| c_aload X2151 hx hby at_543 rfl rfl <| c_aload X2151 hx hby at_545 rfl rfl <| c_shL #[iv p1, iv p2, iv p3, iv p4, iv 3, iv i0, iv i1, iv i2, rv b2019, rv b2025, iv ca0, iv ca1, iv ca2, iv cb0, iv cb1, iv cb2, iv q0, iv q1, iv q2, iv la0, iv la1, iv la2, iv lb0, iv lb1, iv lb2, rv b2070, rv b2092, iv (own_eq la0 ca0 lo0 co0), iv (own_eq la1 ca1 lo1 co1), iv (own_eq la2 ca2 lo2 co2), rv b2124, .unset, .unset] rfl ?_
           have cc2189 := (((((ff2114_11.other W2115 ne2099).ext E2124).ext E2125).ext E2126).keep K2127 (ninS ne2134 nin0)).keep K2151 (ninS ne2172 nin0)
           have cc2190 := ((((VV2115.ext E2124).ext E2125).ext E2126).keep K2127 (ninS ne2141 nin0)).keep K2151 (ninS ne2179 nin0)
           have cc2191 := (((((ff2114_12.wr W2115).ext E2124).ext E2125).ext E2126).keep K2127).keep K2151
           have cc2192 := (((((ff2114_13.other W2115 (Or.inl ne2100)).ext E2124).ext E2125).ext E2126).keep K2127 (ninS ne2135 nin0)).keep K2151 (ninS ne2173 nin0)
           have cc2193 := (((((ff2114_14.other W2115 (Or.inl ne2100)).ext E2124).ext E2125).ext E2126).keep K2127 (ninS ne2135 nin0)).keep K2151 (ninS ne2173 nin0)
           have cc2194 := (((((ff2114_15.other W2115 ne2101).ext E2124).ext E2125).ext E2126).keep K2127 (ninS ne2136 nin0)).keep K2151 (ninS ne2174 nin0)
           have cc2195 := (((((ff2114_16.wr W2115).ext E2124).ext E2125).ext E2126).keep K2127).keep K2151
           have cc2196 := (((((ff2114_17.other W2115 (Or.inl ne2102)).ext E2124).ext E2125).ext E2126).keep K2127 (ninS ne2137 nin0)).keep K2151 (ninS ne2175 nin0)
           have cc2197 := (((((ff2114_18.other W2115 (Or.inl ne2102)).ext E2124).ext E2125).ext E2126).keep K2127 (ninS ne2137 nin0)).keep K2151 (ninS ne2175 nin0)
           have cc2198 := (((((ff2114_19.other W2115 ne2103).ext E2124).ext E2125).ext E2126).keep K2127 (ninS ne2138 nin0)).keep K2151 (ninS ne2176 nin0)
           have cc2199 := (((((ff2114_20.wr W2115).ext E2124).ext E2125).ext E2126).keep K2127).keep K2151
           have cc2200 := (((((ff2114_21.other W2115 (Or.inl ne2104)).ext E2124).ext E2125).ext E2126).keep K2127 (ninS ne2139 nin0)).keep K2151 (ninS ne2177 nin0)
           have cc2201 := (((((ff2114_22.other W2115 (Or.inl ne2104)).ext E2124).ext E2125).ext E2126).keep K2127 (ninS ne2139 nin0)).keep K2151 (ninS ne2177 nin0)
           have cc2202 := (((((ff2114_23.other W2115 ne2105).ext E2124).ext E2125).ext E2126).keep K2127 (ninS ne2140 nin0)).keep K2151 (ninS ne2178 nin0)
           have cc2203 := (((((ff2114_26.wr W2115).ext E2124).ext E2125).ext E2126).keep K2127).keep K2151
           have cc2204 := (((((ff2114_27.other W2115 (Or.inl ne2106)).ext E2124).ext E2125).ext E2126).keep K2127 (ninS ne2142 nin0)).keep K2151 (ninS ne2180 nin0)
           have cc2205 := (((((ff2114_28.other W2115 (Or.inl ne2106)).ext E2124).ext E2125).ext E2126).keep K2127 (ninS ne2142 nin0)).keep K2151 (ninS ne2180 nin0)
           have cc2206 := (((((ff2114_29.other W2115 ne2107).ext E2124).ext E2125).ext E2126).keep K2127 (ninS ne2143 nin0)).keep K2151 (ninS ne2181 nin0)
           have cc2207 := (((((ff2114_30.wr W2115).ext E2124).ext E2125).ext E2126).keep K2127).keep K2151
           have cc2208 := (((((ff2114_31.other W2115 (Or.inl ne2111)).ext E2124).ext E2125).ext E2126).keep K2127 (ninS ne2144 nin0)).keep K2151 (ninS ne2182 nin0)
           have cc2209 := (((((ff2114_32.other W2115 (Or.inl ne2111)).ext E2124).ext E2125).ext E2126).keep K2127 (ninS ne2144 nin0)).keep K2151 (ninS ne2182 nin0)
           have cc2210 := (((((ff2114_33.other W2115 ne2112).ext E2124).ext E2125).ext E2126).keep K2127 (ninS ne2145 nin0)).keep K2151 (ninS ne2183 nin0)
           have cc2211 := (((((ff2114_34.wr W2115).ext E2124).ext E2125).ext E2126).keep K2127).keep K2151
           have cc2212 := (((((ff2114_35.other W2115 (Or.inl ne2116)).ext E2124).ext E2125).ext E2126).keep K2127 (ninS ne2146 nin0)).keep K2151 (ninS ne2184 nin0)
           have cc2213 := (((((ff2114_36.other W2115 (Or.inl ne2116)).ext E2124).ext E2125).ext E2126).keep K2127 (ninS ne2146 nin0)).keep K2151 (ninS ne2184 nin0)
           have cc2214 := (((((ff2114_37.other W2115 ne2117).ext E2124).ext E2125).ext E2126).keep K2127 (ninS ne2147 nin0)).keep K2151 (ninS ne2185 nin0)
           have ne2215 : b2071 ≠ o0 := (Nat.ne_of_lt (Nat.lt_of_lt_of_le ((((((u2071_3.wr W2073).keep K2080).wr W2082).keep K2086).wr W2088).ext E2092).lt fz2094_0))
           have ne2216 : b2080 ≠ o1 := (Nat.ne_of_lt (Nat.lt_of_lt_of_le (ff2094_16.wr W2095).lt fz2109_0))
           have ne2217 : b2086 ≠ o2 := (Nat.ne_of_lt (Nat.lt_of_lt_of_le (ff2109_20.wr W2110).lt fz2114_0))
           have cc2218 := cc2152.keep K2151
           refine c_callV X2151 hx hby hZ hown hml (gw hw 108 rfl) (gw hw 109 rfl) (gw hw 111 rfl) (gw hw 110 rfl) (gw hw 112 rfl) (gw hw 54 rfl) cc2218 rfl (rmSM3 hw b2124 b2070 b2092 w0 b2151 k2019 i0 i1 i2 k2070 k2092 b2071 bb2071 kb2071 la0 ca0 b2080 bb2080 kb2080 la1 ca1 b2086 bb2086 kb2086 la2 ca2 o0 ov0 ok0 lo0 co0 o1 ov1 ok1 lo1 co1 o2 ov2 ok2 lo2 co2 (T2151.heap) n0 ZN2151 P1 OL2151 u2151_3 u2151_4 cc2189 cc2190 cc2191 cc2192 cc2193 cc2194 cc2195 cc2196 cc2197 cc2198 cc2199 cc2200 cc2201 cc2202 cc2203 cc2204 cc2205 cc2206 cc2207 cc2208 cc2209 cc2210 cc2211 cc2212 cc2213 cc2214 ne2215 ne2216 ne2217 hw0 hi0 hi1 hi2 hla0 hla1 hla2 hlo0 hlo1 hlo2 hca0 hca1 hca2 hco0 hco1 hco2) pd_24 rfl at_547 [] rfl 0 (by decide) rfl rfl fun o2188 T2188 L2188 X2188 hQ2188 => ?_
           obtain ⟨rfl, N2188q, e2188⟩ := hQ2188
           have N2188 := Fr.app N2151 N2188q
           refine c_sh 550 [.int (own_cj [own_pk i0 (own_eq la0 ca0 lo0 co0) (own_eq la1 ca1 lo1 co1) (own_eq la2 ca2 lo2 co2), own_pk i1 (own_eq la0 ca0 lo0 co0) (own_eq la1 ca1 lo1 co1) (own_eq la2 ca2 lo2 co2), own_pk i2 (own_eq la0 ca0 lo0 co0) (own_eq la1 ca1 lo1 co1) (own_eq la2 ca2 lo2 co2)])] rfl rfl <| c_istore X2188 hx hby _ at_550 rfl <| c_iload X2188 hx hby at_552 rfl <| c_iconst X2188 hx hby 1 at_554 rfl <| c_icmpNo X2188 hx hby at_555 (by decide) <| c_iload X2188 hx hby at_558 rfl <| c_iload X2188 hx hby at_560 rfl <| c_iload X2188 hx hby at_562 rfl <| c_iload X2188 hx hby at_564 rfl <| c_shL #[iv p1, iv p2, iv p3, iv p4, iv 3, iv i0, iv i1, iv i2, rv b2019, rv b2025, iv ca0, iv ca1, iv ca2, iv cb0, iv cb1, iv cb2, iv q0, iv q1, iv q2, iv la0, iv la1, iv la2, iv lb0, iv lb1, iv lb2, rv b2070, rv b2092, iv (own_eq la0 ca0 lo0 co0), iv (own_eq la1 ca1 lo1 co1), iv (own_eq la2 ca2 lo2 co2), rv b2124, iv (own_cj [own_pk i0 (own_eq la0 ca0 lo0 co0) (own_eq la1 ca1 lo1 co1) (own_eq la2 ca2 lo2 co2), own_pk i1 (own_eq la0 ca0 lo0 co0) (own_eq la1 ca1 lo1 co1) (own_eq la2 ca2 lo2 co2), own_pk i2 (own_eq la0 ca0 lo0 co0) (own_eq la1 ca1 lo1 co1) (own_eq la2 ca2 lo2 co2)]), .unset] rfl <| c_callS X2188 hx hby hZ hown hml (gw hw 231 rfl) (gw hw 232 rfl) (gw hw 31 rfl) (gw hw 233 rfl) e2188 (rm34 hw i0 (own_eq la0 ca0 lo0 co0) (own_eq la1 ca1 lo1 co1) (own_eq la2 ca2 lo2 co2) (T2151.heap) n0 ZN2151 (own_eqb _ _ _ _) (own_eqb _ _ _ _) (own_eqb _ _ _ _)) pd_25 rfl at_566 [] rfl 0 (by decide) rfl rfl fun o2219 T2219 L2219 X2219 hQ2219 => ?_
           obtain ⟨rfl, N2219q, e2219⟩ := hQ2219
           have N2219 := Fr.app N2188 N2219q
           refine c_sh 569 [.int (own_pk i0 (own_eq la0 ca0 lo0 co0) (own_eq la1 ca1 lo1 co1) (own_eq la2 ca2 lo2 co2))] rfl rfl ?_
           by_cases hc569_2220 : (own_pk i0 (own_eq la0 ca0 lo0 co0) (own_eq la1 ca1 lo1 co1) (own_eq la2 ca2 lo2 co2)) = (0 : Int32)
           ·refine c_ifYes X2219 hx hby 616 at_569 ((if0 _ _).trans (teq hc569_2220).1) (by decide) <| c_iconst X2219 hx hby 0 at_616 rfl <| c_istore X2219 hx hby _ at_617 rfl <| c_iload X2219 hx hby at_619 rfl <| c_iload X2219 hx hby at_621 rfl <| c_icmpNo X2219 hx hby at_623 (teq (by rw [own_cj_z hc569_2220])).2 <| c_iconst X2219 hx hby 1 at_626 rfl <| c_goto X2219 hx hby 631 at_627 (by decide) <| c_shL #[iv p1, iv p2, iv p3, iv p4, iv 3, iv i0, iv i1, iv i2, rv b2019, rv b2025, iv ca0, iv ca1, iv ca2, iv cb0, iv cb1, iv cb2, iv q0, iv q1, iv q2, iv la0, iv la1, iv la2, iv lb0, iv lb1, iv lb2, rv b2070, rv b2092, iv (own_eq la0 ca0 lo0 co0), iv (own_eq la1 ca1 lo1 co1), iv (own_eq la2 ca2 lo2 co2), rv b2124, iv (own_cj [own_pk i0 (own_eq la0 ca0 lo0 co0) (own_eq la1 ca1 lo1 co1) (own_eq la2 ca2 lo2 co2), own_pk i1 (own_eq la0 ca0 lo0 co0) (own_eq la1 ca1 lo1 co1) (own_eq la2 ca2 lo2 co2), own_pk i2 (own_eq la0 ca0 lo0 co0) (own_eq la1 ca1 lo1 co1) (own_eq la2 ca2 lo2 co2)]), iv 0] rfl ?_
            refine goRetH X2219 hZ (own_EW hw) ch2151 hh e2219 hS2125 HK2151 hx Bd.notSynchronized Bd.returns rfl (Or.inl ⟨rfl, Or.inr (Or.inl rfl), _, rfl⟩) (hb hby at_631) (by decide) (by decide) ⟨rfl, N2219⟩
           ·refine c_ifNo X2219 hx hby at_569 ((if0 _ _).trans (feq hc569_2220).1) <| c_iload X2219 hx hby at_572 rfl <| c_iconst X2219 hx hby 2 at_574 rfl <| c_icmpNo X2219 hx hby at_575 (by decide) <| c_iload X2219 hx hby at_578 rfl <| c_iload X2219 hx hby at_580 rfl <| c_iload X2219 hx hby at_582 rfl <| c_iload X2219 hx hby at_584 rfl <| c_callS X2219 hx hby hZ hown hml (gw hw 231 rfl) (gw hw 232 rfl) (gw hw 31 rfl) (gw hw 233 rfl) e2219 (rm34 hw i1 (own_eq la0 ca0 lo0 co0) (own_eq la1 ca1 lo1 co1) (own_eq la2 ca2 lo2 co2) (T2151.heap) n0 ZN2151 (own_eqb _ _ _ _) (own_eqb _ _ _ _) (own_eqb _ _ _ _)) pd_25 rfl at_586 [] rfl 0 (by decide) rfl rfl fun o2221 T2221 L2221 X2221 hQ2221 => ?_
            obtain ⟨rfl, N2221q, e2221⟩ := hQ2221
            have N2221 := Fr.app N2219 N2221q
            refine c_sh 589 [.int (own_pk i1 (own_eq la0 ca0 lo0 co0) (own_eq la1 ca1 lo1 co1) (own_eq la2 ca2 lo2 co2))] rfl rfl ?_
            by_cases hc589_2222 : (own_pk i1 (own_eq la0 ca0 lo0 co0) (own_eq la1 ca1 lo1 co1) (own_eq la2 ca2 lo2 co2)) = (0 : Int32)
            ·refine c_ifYes X2221 hx hby 616 at_589 ((if0 _ _).trans (teq hc589_2222).1) (by decide) <| c_iconst X2221 hx hby 0 at_616 rfl <| c_istore X2221 hx hby _ at_617 rfl <| c_iload X2221 hx hby at_619 rfl <| c_iload X2221 hx hby at_621 rfl <| c_icmpNo X2221 hx hby at_623 (teq (by rw [own_cj_n hc569_2220, own_cj_z hc589_2222])).2 <| c_iconst X2221 hx hby 1 at_626 rfl <| c_goto X2221 hx hby 631 at_627 (by decide) <| c_shL #[iv p1, iv p2, iv p3, iv p4, iv 3, iv i0, iv i1, iv i2, rv b2019, rv b2025, iv ca0, iv ca1, iv ca2, iv cb0, iv cb1, iv cb2, iv q0, iv q1, iv q2, iv la0, iv la1, iv la2, iv lb0, iv lb1, iv lb2, rv b2070, rv b2092, iv (own_eq la0 ca0 lo0 co0), iv (own_eq la1 ca1 lo1 co1), iv (own_eq la2 ca2 lo2 co2), rv b2124, iv (own_cj [own_pk i0 (own_eq la0 ca0 lo0 co0) (own_eq la1 ca1 lo1 co1) (own_eq la2 ca2 lo2 co2), own_pk i1 (own_eq la0 ca0 lo0 co0) (own_eq la1 ca1 lo1 co1) (own_eq la2 ca2 lo2 co2), own_pk i2 (own_eq la0 ca0 lo0 co0) (own_eq la1 ca1 lo1 co1) (own_eq la2 ca2 lo2 co2)]), iv 0] rfl ?_
             refine goRetH X2221 hZ (own_EW hw) ch2151 hh e2221 hS2125 HK2151 hx Bd.notSynchronized Bd.returns rfl (Or.inl ⟨rfl, Or.inr (Or.inl rfl), _, rfl⟩) (hb hby at_631) (by decide) (by decide) ⟨rfl, N2221⟩
            ·refine c_ifNo X2221 hx hby at_589 ((if0 _ _).trans (feq hc589_2222).1) <| c_iload X2221 hx hby at_592 rfl <| c_iconst X2221 hx hby 3 at_594 rfl <| c_icmpNo X2221 hx hby at_595 (by decide) <| c_iload X2221 hx hby at_598 rfl <| c_iload X2221 hx hby at_600 rfl <| c_iload X2221 hx hby at_602 rfl <| c_iload X2221 hx hby at_604 rfl <| c_callS X2221 hx hby hZ hown hml (gw hw 231 rfl) (gw hw 232 rfl) (gw hw 31 rfl) (gw hw 233 rfl) e2221 (rm34 hw i2 (own_eq la0 ca0 lo0 co0) (own_eq la1 ca1 lo1 co1) (own_eq la2 ca2 lo2 co2) (T2151.heap) n0 ZN2151 (own_eqb _ _ _ _) (own_eqb _ _ _ _) (own_eqb _ _ _ _)) pd_25 rfl at_606 [] rfl 0 (by decide) rfl rfl fun o2223 T2223 L2223 X2223 hQ2223 => ?_
             obtain ⟨rfl, N2223q, e2223⟩ := hQ2223
             have N2223 := Fr.app N2221 N2223q
             refine c_sh 609 [.int (own_pk i2 (own_eq la0 ca0 lo0 co0) (own_eq la1 ca1 lo1 co1) (own_eq la2 ca2 lo2 co2))] rfl rfl ?_
             by_cases hc609_2224 : (own_pk i2 (own_eq la0 ca0 lo0 co0) (own_eq la1 ca1 lo1 co1) (own_eq la2 ca2 lo2 co2)) = (0 : Int32)
             ·refine c_ifYes X2223 hx hby 616 at_609 ((if0 _ _).trans (teq hc609_2224).1) (by decide) <| c_iconst X2223 hx hby 0 at_616 rfl <| c_istore X2223 hx hby _ at_617 rfl <| c_iload X2223 hx hby at_619 rfl <| c_iload X2223 hx hby at_621 rfl <| c_icmpNo X2223 hx hby at_623 (teq (by rw [own_cj_n hc569_2220, own_cj_n hc589_2222, own_cj_z hc609_2224])).2 <| c_iconst X2223 hx hby 1 at_626 rfl <| c_goto X2223 hx hby 631 at_627 (by decide) <| c_shL #[iv p1, iv p2, iv p3, iv p4, iv 3, iv i0, iv i1, iv i2, rv b2019, rv b2025, iv ca0, iv ca1, iv ca2, iv cb0, iv cb1, iv cb2, iv q0, iv q1, iv q2, iv la0, iv la1, iv la2, iv lb0, iv lb1, iv lb2, rv b2070, rv b2092, iv (own_eq la0 ca0 lo0 co0), iv (own_eq la1 ca1 lo1 co1), iv (own_eq la2 ca2 lo2 co2), rv b2124, iv (own_cj [own_pk i0 (own_eq la0 ca0 lo0 co0) (own_eq la1 ca1 lo1 co1) (own_eq la2 ca2 lo2 co2), own_pk i1 (own_eq la0 ca0 lo0 co0) (own_eq la1 ca1 lo1 co1) (own_eq la2 ca2 lo2 co2), own_pk i2 (own_eq la0 ca0 lo0 co0) (own_eq la1 ca1 lo1 co1) (own_eq la2 ca2 lo2 co2)]), iv 0] rfl ?_
              refine goRetH X2223 hZ (own_EW hw) ch2151 hh e2223 hS2125 HK2151 hx Bd.notSynchronized Bd.returns rfl (Or.inl ⟨rfl, Or.inr (Or.inl rfl), _, rfl⟩) (hb hby at_631) (by decide) (by decide) ⟨rfl, N2223⟩
             ·refine c_ifNo X2223 hx hby at_609 ((if0 _ _).trans (feq hc609_2224).1) <| c_iconst X2223 hx hby 1 at_612 rfl <| c_goto X2223 hx hby 617 at_613 (by decide) <| c_istore X2223 hx hby _ at_617 rfl <| c_iload X2223 hx hby at_619 rfl <| c_iload X2223 hx hby at_621 rfl <| c_icmpNo X2223 hx hby at_623 (teq (by rw [own_cj_n hc569_2220, own_cj_n hc589_2222, own_cj_n hc609_2224]; rfl)).2 <| c_iconst X2223 hx hby 1 at_626 rfl <| c_goto X2223 hx hby 631 at_627 (by decide) <| c_shL #[iv p1, iv p2, iv p3, iv p4, iv 3, iv i0, iv i1, iv i2, rv b2019, rv b2025, iv ca0, iv ca1, iv ca2, iv cb0, iv cb1, iv cb2, iv q0, iv q1, iv q2, iv la0, iv la1, iv la2, iv lb0, iv lb1, iv lb2, rv b2070, rv b2092, iv (own_eq la0 ca0 lo0 co0), iv (own_eq la1 ca1 lo1 co1), iv (own_eq la2 ca2 lo2 co2), rv b2124, iv (own_cj [own_pk i0 (own_eq la0 ca0 lo0 co0) (own_eq la1 ca1 lo1 co1) (own_eq la2 ca2 lo2 co2), own_pk i1 (own_eq la0 ca0 lo0 co0) (own_eq la1 ca1 lo1 co1) (own_eq la2 ca2 lo2 co2), own_pk i2 (own_eq la0 ca0 lo0 co0) (own_eq la1 ca1 lo1 co1) (own_eq la2 ca2 lo2 co2)]), iv 1] rfl ?_
              refine goRetH X2223 hZ (own_EW hw) ch2151 hh e2223 hS2125 HK2151 hx Bd.notSynchronized Bd.returns rfl (Or.inl ⟨rfl, Or.inr (Or.inl rfl), _, rfl⟩) (hb hby at_631) (by decide) (by decide) ⟨rfl, N2223⟩
          refine c_iload X2115 hx hby at_487 rfl ?_
          by_cases hc489_2225 : q2 = (0 : Int32)
          ·refine c_ifNo X2115 hx hby at_489 ((if0 _ _).trans (teq hc489_2225).2) <| c_iload X2115 hx hby at_492 rfl <| c_iload X2115 hx hby at_494 rfl ?_
           by_cases hc496_2226 : la2 = lb2
           ·refine c_icmpNo X2115 hx hby at_496 (teq hc496_2226).2 <| c_iload X2115 hx hby at_499 rfl ?_
            by_cases hc501_2227 : la2 = (0 : Int32)
            ·refine c_ifYes X2115 hx hby 511 at_501 ((if0 _ _).trans (teq hc501_2227).1) (by decide) <| c_iconst X2115 hx hby 1 at_511 rfl <| c_goto X2115 hx hby 516 at_512 (by decide) ?_
             exact JE2_2122 _ ((own_e ho2).trans ((if_neg (fun k => k hc489_2225)).trans (if_pos ⟨hc496_2226, Or.inl hc501_2227⟩))).symm
            ·refine c_ifNo X2115 hx hby at_501 ((if0 _ _).trans (feq hc501_2227).1) <| c_iload X2115 hx hby at_504 rfl <| c_iload X2115 hx hby at_506 rfl ?_
             by_cases hc508_2228 : ca2 = cb2
             ·refine c_icmpNo X2115 hx hby at_508 (teq hc508_2228).2 <| c_iconst X2115 hx hby 1 at_511 rfl <| c_goto X2115 hx hby 516 at_512 (by decide) ?_
              exact JE2_2122 _ ((own_e ho2).trans ((if_neg (fun k => k hc489_2225)).trans (if_pos ⟨hc496_2226, Or.inr hc508_2228⟩))).symm
             ·refine c_icmpYes X2115 hx hby 515 at_508 (feq hc508_2228).2 (by decide) <| c_iconst X2115 hx hby 0 at_515 rfl ?_
              exact JE2_2122 _ ((own_e ho2).trans ((if_neg (fun k => k hc489_2225)).trans (if_neg fun h => h.2.elim hc501_2227 hc508_2228))).symm
           ·refine c_icmpYes X2115 hx hby 515 at_496 (feq hc496_2226).2 (by decide) <| c_iconst X2115 hx hby 0 at_515 rfl ?_
            exact JE2_2122 _ ((own_e ho2).trans ((if_neg (fun k => k hc489_2225)).trans (if_neg fun h => hc496_2226 h.1))).symm
          ·refine c_ifYes X2115 hx hby 511 at_489 ((if0 _ _).trans (feq hc489_2225).2) (by decide) <| c_iconst X2115 hx hby 1 at_511 rfl <| c_goto X2115 hx hby 516 at_512 (by decide) ?_
           exact JE2_2122 _ ((own_e ho2).trans (if_pos hc489_2225)).symm
         refine c_iload X2115 hx hby at_456 rfl ?_
         by_cases hc458_2229 : q1 = (0 : Int32)
         ·refine c_ifNo X2115 hx hby at_458 ((if0 _ _).trans (teq hc458_2229).2) <| c_iload X2115 hx hby at_461 rfl <| c_iload X2115 hx hby at_463 rfl ?_
          by_cases hc465_2230 : la1 = lb1
          ·refine c_icmpNo X2115 hx hby at_465 (teq hc465_2230).2 <| c_iload X2115 hx hby at_468 rfl ?_
           by_cases hc470_2231 : la1 = (0 : Int32)
           ·refine c_ifYes X2115 hx hby 480 at_470 ((if0 _ _).trans (teq hc470_2231).1) (by decide) <| c_iconst X2115 hx hby 1 at_480 rfl <| c_goto X2115 hx hby 485 at_481 (by decide) ?_
            exact JE1_2120 _ ((own_e ho1).trans ((if_neg (fun k => k hc458_2229)).trans (if_pos ⟨hc465_2230, Or.inl hc470_2231⟩))).symm
           ·refine c_ifNo X2115 hx hby at_470 ((if0 _ _).trans (feq hc470_2231).1) <| c_iload X2115 hx hby at_473 rfl <| c_iload X2115 hx hby at_475 rfl ?_
            by_cases hc477_2232 : ca1 = cb1
            ·refine c_icmpNo X2115 hx hby at_477 (teq hc477_2232).2 <| c_iconst X2115 hx hby 1 at_480 rfl <| c_goto X2115 hx hby 485 at_481 (by decide) ?_
             exact JE1_2120 _ ((own_e ho1).trans ((if_neg (fun k => k hc458_2229)).trans (if_pos ⟨hc465_2230, Or.inr hc477_2232⟩))).symm
            ·refine c_icmpYes X2115 hx hby 484 at_477 (feq hc477_2232).2 (by decide) <| c_iconst X2115 hx hby 0 at_484 rfl ?_
             exact JE1_2120 _ ((own_e ho1).trans ((if_neg (fun k => k hc458_2229)).trans (if_neg fun h => h.2.elim hc470_2231 hc477_2232))).symm
          ·refine c_icmpYes X2115 hx hby 484 at_465 (feq hc465_2230).2 (by decide) <| c_iconst X2115 hx hby 0 at_484 rfl ?_
           exact JE1_2120 _ ((own_e ho1).trans ((if_neg (fun k => k hc458_2229)).trans (if_neg fun h => hc465_2230 h.1))).symm
         ·refine c_ifYes X2115 hx hby 480 at_458 ((if0 _ _).trans (feq hc458_2229).2) (by decide) <| c_iconst X2115 hx hby 1 at_480 rfl <| c_goto X2115 hx hby 485 at_481 (by decide) ?_
          exact JE1_2120 _ ((own_e ho1).trans (if_pos hc458_2229)).symm
        refine c_iload X2115 hx hby at_425 rfl ?_
        by_cases hc427_2233 : q0 = (0 : Int32)
        ·refine c_ifNo X2115 hx hby at_427 ((if0 _ _).trans (teq hc427_2233).2) <| c_iload X2115 hx hby at_430 rfl <| c_iload X2115 hx hby at_432 rfl ?_
         by_cases hc434_2234 : la0 = lb0
         ·refine c_icmpNo X2115 hx hby at_434 (teq hc434_2234).2 <| c_iload X2115 hx hby at_437 rfl ?_
          by_cases hc439_2235 : la0 = (0 : Int32)
          ·refine c_ifYes X2115 hx hby 449 at_439 ((if0 _ _).trans (teq hc439_2235).1) (by decide) <| c_iconst X2115 hx hby 1 at_449 rfl <| c_goto X2115 hx hby 454 at_450 (by decide) ?_
           exact JE0_2118 _ ((own_e ho0).trans ((if_neg (fun k => k hc427_2233)).trans (if_pos ⟨hc434_2234, Or.inl hc439_2235⟩))).symm
          ·refine c_ifNo X2115 hx hby at_439 ((if0 _ _).trans (feq hc439_2235).1) <| c_iload X2115 hx hby at_442 rfl <| c_iload X2115 hx hby at_444 rfl ?_
           by_cases hc446_2236 : ca0 = cb0
           ·refine c_icmpNo X2115 hx hby at_446 (teq hc446_2236).2 <| c_iconst X2115 hx hby 1 at_449 rfl <| c_goto X2115 hx hby 454 at_450 (by decide) ?_
            exact JE0_2118 _ ((own_e ho0).trans ((if_neg (fun k => k hc427_2233)).trans (if_pos ⟨hc434_2234, Or.inr hc446_2236⟩))).symm
           ·refine c_icmpYes X2115 hx hby 453 at_446 (feq hc446_2236).2 (by decide) <| c_iconst X2115 hx hby 0 at_453 rfl ?_
            exact JE0_2118 _ ((own_e ho0).trans ((if_neg (fun k => k hc427_2233)).trans (if_neg fun h => h.2.elim hc439_2235 hc446_2236))).symm
         ·refine c_icmpYes X2115 hx hby 453 at_434 (feq hc434_2234).2 (by decide) <| c_iconst X2115 hx hby 0 at_453 rfl ?_
          exact JE0_2118 _ ((own_e ho0).trans ((if_neg (fun k => k hc427_2233)).trans (if_neg fun h => hc434_2234 h.1))).symm
        ·refine c_ifYes X2115 hx hby 449 at_427 ((if0 _ _).trans (feq hc427_2233).2) (by decide) <| c_iconst X2115 hx hby 1 at_449 rfl <| c_goto X2115 hx hby 454 at_450 (by decide) ?_
         exact JE0_2118 _ ((own_e ho0).trans (if_pos hc427_2233)).symm
       refine c_iload X2110 hx hby at_400 rfl ?_
       by_cases hc402_2237 : q2 = (0 : Int32)
       ·refine c_ifYes X2110 hx hby 415 at_402 ((if0 _ _).trans (teq hc402_2237).1) (by decide) <| c_iload X2110 hx hby at_415 rfl <| c_iload X2110 hx hby at_417 rfl <| c_callSH X2110 hx hby hZ hown hml (gw hw 29 rfl) (gw hw 30 rfl) (gw hw 31 rfl) (gw hw 32 rfl) e2110 (own_EW hw) ch2110 hS2109 HK2110 (rmMK hw lb2 cb2 w0 h2110 n0 ZN2110 P1 OL2110 hw0 hlb2 hcb2) pd_22 rfl at_419 [.int 2, .ref b2092, .ref b2092] rfl 3 (by decide) rfl rfl fun o2238 T2238 L2238 X2238 hS2238 hZ hown hR2238 ch2238 hQ2238 => ?_
        obtain ⟨b2238, bb2238, kb2238, rfl, N2238q, u2238_0, u2238_1, K2238, u2238_3, u2238_4, u2238_5, u2238_6⟩ := hQ2238
        have N2238 := Fr.app NN2110 N2238q
        have G_b2238 := Nat.le_trans ZN2110 u2238_0
        have KK2238 := KK2110.trans K2238 all0
        have ZN2238 := Nat.le_trans ZN2110 K2238.1
        have OL2238 := OL2110.keep K2238 all0
        refine c_sh 422 [.ref b2238, .int 2, .ref b2092, .ref b2092] rfl rfl ?_
        have cc2239 := (ff2109_0.wr W2110).keep K2238
        have cc2240 := (ff2109_1.other W2110 ne2096).keep K2238 nin0
        have cc2241 := (ff2109_2.wr W2110).keep K2238
        have cc2242 := (ff2109_3.wr W2110).keep K2238
        have cc2243 := (ff2109_4.wr W2110).keep K2238
        have cc2244 := (ff2109_5.wr W2110).keep K2238
        have cc2245 := (ff2109_6.wr W2110).keep K2238
        have cc2246 := (ff2109_7.other W2110 (Or.inl ne2097)).keep K2238 nin0
        have cc2247 := (ff2109_8.other W2110 (Or.inl ne2097)).keep K2238 nin0
        have cc2248 := (ff2109_9.other W2110 ne2098).keep K2238 nin0
        have cc2249 := (ff2109_10.wr W2110).keep K2238
        have cc2250 := (ff2109_11.other W2110 ne2099).keep K2238 nin0
        have cc2251 := (ff2109_12.wr W2110).keep K2238
        have cc2252 := (ff2109_13.other W2110 (Or.inl ne2100)).keep K2238 nin0
        have cc2253 := (ff2109_14.other W2110 (Or.inl ne2100)).keep K2238 nin0
        have cc2254 := (ff2109_15.other W2110 ne2101).keep K2238 nin0
        have cc2255 := (ff2109_16.wr W2110).keep K2238
        have cc2256 := (ff2109_17.other W2110 (Or.inl ne2102)).keep K2238 nin0
        have cc2257 := (ff2109_18.other W2110 (Or.inl ne2102)).keep K2238 nin0
        have cc2258 := (ff2109_19.other W2110 ne2103).keep K2238 nin0
        have cc2259 := (ff2109_20.wr W2110).keep K2238
        have cc2260 := (ff2109_21.other W2110 (Or.inl ne2104)).keep K2238 nin0
        have cc2261 := (ff2109_22.other W2110 (Or.inl ne2104)).keep K2238 nin0
        have cc2262 := (ff2109_23.other W2110 ne2105).keep K2238 nin0
        have cc2263 := (ff2109_24.wr W2110).keep K2238
        have cc2264 := VV2110.keep K2238 nin0
        have cc2265 := (ff2109_26.wr W2110).keep K2238
        have cc2266 := (ff2109_27.other W2110 (Or.inl ne2106)).keep K2238 nin0
        have cc2267 := (ff2109_28.other W2110 (Or.inl ne2106)).keep K2238 nin0
        have cc2268 := (ff2109_29.other W2110 ne2107).keep K2238 nin0
        have cc2269 := (ff2109_30.wr W2110).keep K2238
        have cc2270 := (ff2109_31.other W2110 (Or.inl ne2111)).keep K2238 nin0
        have cc2271 := (ff2109_32.other W2110 (Or.inl ne2111)).keep K2238 nin0
        have cc2272 := (ff2109_33.other W2110 ne2112).keep K2238 nin0
        exact JO2_2113 b2238 bb2238 kb2238 lb2 cb2 T2238 _ X2238 hS2238 hZ hown N2238 KK2238 ZN2238 OL2238 ch2238 cc2239 cc2240 cc2241 cc2242 cc2243 cc2244 cc2245 cc2246 cc2247 cc2248 cc2249 cc2250 cc2251 cc2252 cc2253 cc2254 cc2255 cc2256 cc2257 cc2258 cc2259 cc2260 cc2261 cc2262 cc2263 cc2264 cc2265 cc2266 cc2267 cc2268 cc2269 cc2270 cc2271 cc2272 u2238_3 u2238_4 u2238_5 u2238_6 u2238_0 (Or.inr ⟨hc402_2237, rfl, rfl⟩) hlb2 hcb2
       ·refine c_ifNo X2110 hx hby at_402 ((if0 _ _).trans (feq hc402_2237).1) <| c_iload X2110 hx hby at_405 rfl <| c_iload X2110 hx hby at_407 rfl <| c_callSH X2110 hx hby hZ hown hml (gw hw 29 rfl) (gw hw 30 rfl) (gw hw 31 rfl) (gw hw 32 rfl) e2110 (own_EW hw) ch2110 hS2109 HK2110 (rmMK hw la2 ca2 w0 h2110 n0 ZN2110 P1 OL2110 hw0 hla2 hca2) pd_22 rfl at_409 [.int 2, .ref b2092, .ref b2092] rfl 3 (by decide) rfl rfl fun o2273 T2273 L2273 X2273 hS2273 hZ hown hR2273 ch2273 hQ2273 => ?_
        obtain ⟨b2273, bb2273, kb2273, rfl, N2273q, u2273_0, u2273_1, K2273, u2273_3, u2273_4, u2273_5, u2273_6⟩ := hQ2273
        have N2273 := Fr.app NN2110 N2273q
        have G_b2273 := Nat.le_trans ZN2110 u2273_0
        have KK2273 := KK2110.trans K2273 all0
        have ZN2273 := Nat.le_trans ZN2110 K2273.1
        have OL2273 := OL2110.keep K2273 all0
        refine c_sh 412 [.ref b2273, .int 2, .ref b2092, .ref b2092] rfl rfl <| c_goto X2273 hx hby 422 at_412 (by decide) ?_
        have cc2274 := (ff2109_0.wr W2110).keep K2273
        have cc2275 := (ff2109_1.other W2110 ne2096).keep K2273 nin0
        have cc2276 := (ff2109_2.wr W2110).keep K2273
        have cc2277 := (ff2109_3.wr W2110).keep K2273
        have cc2278 := (ff2109_4.wr W2110).keep K2273
        have cc2279 := (ff2109_5.wr W2110).keep K2273
        have cc2280 := (ff2109_6.wr W2110).keep K2273
        have cc2281 := (ff2109_7.other W2110 (Or.inl ne2097)).keep K2273 nin0
        have cc2282 := (ff2109_8.other W2110 (Or.inl ne2097)).keep K2273 nin0
        have cc2283 := (ff2109_9.other W2110 ne2098).keep K2273 nin0
        have cc2284 := (ff2109_10.wr W2110).keep K2273
        have cc2285 := (ff2109_11.other W2110 ne2099).keep K2273 nin0
        have cc2286 := (ff2109_12.wr W2110).keep K2273
        have cc2287 := (ff2109_13.other W2110 (Or.inl ne2100)).keep K2273 nin0
        have cc2288 := (ff2109_14.other W2110 (Or.inl ne2100)).keep K2273 nin0
        have cc2289 := (ff2109_15.other W2110 ne2101).keep K2273 nin0
        have cc2290 := (ff2109_16.wr W2110).keep K2273
        have cc2291 := (ff2109_17.other W2110 (Or.inl ne2102)).keep K2273 nin0
        have cc2292 := (ff2109_18.other W2110 (Or.inl ne2102)).keep K2273 nin0
        have cc2293 := (ff2109_19.other W2110 ne2103).keep K2273 nin0
        have cc2294 := (ff2109_20.wr W2110).keep K2273
        have cc2295 := (ff2109_21.other W2110 (Or.inl ne2104)).keep K2273 nin0
        have cc2296 := (ff2109_22.other W2110 (Or.inl ne2104)).keep K2273 nin0
        have cc2297 := (ff2109_23.other W2110 ne2105).keep K2273 nin0
        have cc2298 := (ff2109_24.wr W2110).keep K2273
        have cc2299 := VV2110.keep K2273 nin0
        have cc2300 := (ff2109_26.wr W2110).keep K2273
        have cc2301 := (ff2109_27.other W2110 (Or.inl ne2106)).keep K2273 nin0
        have cc2302 := (ff2109_28.other W2110 (Or.inl ne2106)).keep K2273 nin0
        have cc2303 := (ff2109_29.other W2110 ne2107).keep K2273 nin0
        have cc2304 := (ff2109_30.wr W2110).keep K2273
        have cc2305 := (ff2109_31.other W2110 (Or.inl ne2111)).keep K2273 nin0
        have cc2306 := (ff2109_32.other W2110 (Or.inl ne2111)).keep K2273 nin0
        have cc2307 := (ff2109_33.other W2110 ne2112).keep K2273 nin0
        exact JO2_2113 b2273 bb2273 kb2273 la2 ca2 T2273 _ X2273 hS2273 hZ hown N2273 KK2273 ZN2273 OL2273 ch2273 cc2274 cc2275 cc2276 cc2277 cc2278 cc2279 cc2280 cc2281 cc2282 cc2283 cc2284 cc2285 cc2286 cc2287 cc2288 cc2289 cc2290 cc2291 cc2292 cc2293 cc2294 cc2295 cc2296 cc2297 cc2298 cc2299 cc2300 cc2301 cc2302 cc2303 cc2304 cc2305 cc2306 cc2307 u2273_3 u2273_4 u2273_5 u2273_6 u2273_0 (Or.inl ⟨hc402_2237, rfl, rfl⟩) hla2 hca2
      refine c_iload X2095 hx hby at_375 rfl ?_
      by_cases hc377_2308 : q1 = (0 : Int32)
      ·refine c_ifYes X2095 hx hby 390 at_377 ((if0 _ _).trans (teq hc377_2308).1) (by decide) <| c_iload X2095 hx hby at_390 rfl <| c_iload X2095 hx hby at_392 rfl <| c_callSH X2095 hx hby hZ hown hml (gw hw 29 rfl) (gw hw 30 rfl) (gw hw 31 rfl) (gw hw 32 rfl) e2095 (own_EW hw) ch2095 hS2094 HK2095 (rmMK hw lb1 cb1 w0 h2095 n0 ZN2095 P1 OL2095 hw0 hlb1 hcb1) pd_22 rfl at_394 [.int 1, .ref b2092, .ref b2092] rfl 3 (by decide) rfl rfl fun o2309 T2309 L2309 X2309 hS2309 hZ hown hR2309 ch2309 hQ2309 => ?_
       obtain ⟨b2309, bb2309, kb2309, rfl, N2309q, u2309_0, u2309_1, K2309, u2309_3, u2309_4, u2309_5, u2309_6⟩ := hQ2309
       have N2309 := Fr.app NN2095 N2309q
       have G_b2309 := Nat.le_trans ZN2095 u2309_0
       have KK2309 := KK2095.trans K2309 all0
       have ZN2309 := Nat.le_trans ZN2095 K2309.1
       have OL2309 := OL2095.keep K2309 all0
       refine c_sh 397 [.ref b2309, .int 1, .ref b2092, .ref b2092] rfl rfl ?_
       have cc2310 := (ff2094_0.wr W2095).keep K2309
       have cc2311 := (ff2094_1.other W2095 ne2096).keep K2309 nin0
       have cc2312 := (ff2094_2.wr W2095).keep K2309
       have cc2313 := (ff2094_3.wr W2095).keep K2309
       have cc2314 := (ff2094_4.wr W2095).keep K2309
       have cc2315 := (ff2094_5.wr W2095).keep K2309
       have cc2316 := (ff2094_6.wr W2095).keep K2309
       have cc2317 := (ff2094_7.other W2095 (Or.inl ne2097)).keep K2309 nin0
       have cc2318 := (ff2094_8.other W2095 (Or.inl ne2097)).keep K2309 nin0
       have cc2319 := (ff2094_9.other W2095 ne2098).keep K2309 nin0
       have cc2320 := (ff2094_10.wr W2095).keep K2309
       have cc2321 := (ff2094_11.other W2095 ne2099).keep K2309 nin0
       have cc2322 := (ff2094_12.wr W2095).keep K2309
       have cc2323 := (ff2094_13.other W2095 (Or.inl ne2100)).keep K2309 nin0
       have cc2324 := (ff2094_14.other W2095 (Or.inl ne2100)).keep K2309 nin0
       have cc2325 := (ff2094_15.other W2095 ne2101).keep K2309 nin0
       have cc2326 := (ff2094_16.wr W2095).keep K2309
       have cc2327 := (ff2094_17.other W2095 (Or.inl ne2102)).keep K2309 nin0
       have cc2328 := (ff2094_18.other W2095 (Or.inl ne2102)).keep K2309 nin0
       have cc2329 := (ff2094_19.other W2095 ne2103).keep K2309 nin0
       have cc2330 := (ff2094_20.wr W2095).keep K2309
       have cc2331 := (ff2094_21.other W2095 (Or.inl ne2104)).keep K2309 nin0
       have cc2332 := (ff2094_22.other W2095 (Or.inl ne2104)).keep K2309 nin0
       have cc2333 := (ff2094_23.other W2095 ne2105).keep K2309 nin0
       have cc2334 := (ff2094_24.wr W2095).keep K2309
       have cc2335 := VV2095.keep K2309 nin0
       have cc2336 := (ff2094_26.wr W2095).keep K2309
       have cc2337 := (ff2094_27.other W2095 (Or.inl ne2106)).keep K2309 nin0
       have cc2338 := (ff2094_28.other W2095 (Or.inl ne2106)).keep K2309 nin0
       have cc2339 := (ff2094_29.other W2095 ne2107).keep K2309 nin0
       exact JO1_2108 b2309 bb2309 kb2309 lb1 cb1 T2309 _ X2309 hS2309 hZ hown N2309 KK2309 ZN2309 OL2309 ch2309 cc2310 cc2311 cc2312 cc2313 cc2314 cc2315 cc2316 cc2317 cc2318 cc2319 cc2320 cc2321 cc2322 cc2323 cc2324 cc2325 cc2326 cc2327 cc2328 cc2329 cc2330 cc2331 cc2332 cc2333 cc2334 cc2335 cc2336 cc2337 cc2338 cc2339 u2309_3 u2309_4 u2309_5 u2309_6 u2309_0 (Or.inr ⟨hc377_2308, rfl, rfl⟩) hlb1 hcb1
      ·refine c_ifNo X2095 hx hby at_377 ((if0 _ _).trans (feq hc377_2308).1) <| c_iload X2095 hx hby at_380 rfl <| c_iload X2095 hx hby at_382 rfl <| c_callSH X2095 hx hby hZ hown hml (gw hw 29 rfl) (gw hw 30 rfl) (gw hw 31 rfl) (gw hw 32 rfl) e2095 (own_EW hw) ch2095 hS2094 HK2095 (rmMK hw la1 ca1 w0 h2095 n0 ZN2095 P1 OL2095 hw0 hla1 hca1) pd_22 rfl at_384 [.int 1, .ref b2092, .ref b2092] rfl 3 (by decide) rfl rfl fun o2340 T2340 L2340 X2340 hS2340 hZ hown hR2340 ch2340 hQ2340 => ?_
       obtain ⟨b2340, bb2340, kb2340, rfl, N2340q, u2340_0, u2340_1, K2340, u2340_3, u2340_4, u2340_5, u2340_6⟩ := hQ2340
       have N2340 := Fr.app NN2095 N2340q
       have G_b2340 := Nat.le_trans ZN2095 u2340_0
       have KK2340 := KK2095.trans K2340 all0
       have ZN2340 := Nat.le_trans ZN2095 K2340.1
       have OL2340 := OL2095.keep K2340 all0
       refine c_sh 387 [.ref b2340, .int 1, .ref b2092, .ref b2092] rfl rfl <| c_goto X2340 hx hby 397 at_387 (by decide) ?_
       have cc2341 := (ff2094_0.wr W2095).keep K2340
       have cc2342 := (ff2094_1.other W2095 ne2096).keep K2340 nin0
       have cc2343 := (ff2094_2.wr W2095).keep K2340
       have cc2344 := (ff2094_3.wr W2095).keep K2340
       have cc2345 := (ff2094_4.wr W2095).keep K2340
       have cc2346 := (ff2094_5.wr W2095).keep K2340
       have cc2347 := (ff2094_6.wr W2095).keep K2340
       have cc2348 := (ff2094_7.other W2095 (Or.inl ne2097)).keep K2340 nin0
       have cc2349 := (ff2094_8.other W2095 (Or.inl ne2097)).keep K2340 nin0
       have cc2350 := (ff2094_9.other W2095 ne2098).keep K2340 nin0
       have cc2351 := (ff2094_10.wr W2095).keep K2340
       have cc2352 := (ff2094_11.other W2095 ne2099).keep K2340 nin0
       have cc2353 := (ff2094_12.wr W2095).keep K2340
       have cc2354 := (ff2094_13.other W2095 (Or.inl ne2100)).keep K2340 nin0
       have cc2355 := (ff2094_14.other W2095 (Or.inl ne2100)).keep K2340 nin0
       have cc2356 := (ff2094_15.other W2095 ne2101).keep K2340 nin0
       have cc2357 := (ff2094_16.wr W2095).keep K2340
       have cc2358 := (ff2094_17.other W2095 (Or.inl ne2102)).keep K2340 nin0
       have cc2359 := (ff2094_18.other W2095 (Or.inl ne2102)).keep K2340 nin0
       have cc2360 := (ff2094_19.other W2095 ne2103).keep K2340 nin0
       have cc2361 := (ff2094_20.wr W2095).keep K2340
       have cc2362 := (ff2094_21.other W2095 (Or.inl ne2104)).keep K2340 nin0
       have cc2363 := (ff2094_22.other W2095 (Or.inl ne2104)).keep K2340 nin0
       have cc2364 := (ff2094_23.other W2095 ne2105).keep K2340 nin0
       have cc2365 := (ff2094_24.wr W2095).keep K2340
       have cc2366 := VV2095.keep K2340 nin0
       have cc2367 := (ff2094_26.wr W2095).keep K2340
       have cc2368 := (ff2094_27.other W2095 (Or.inl ne2106)).keep K2340 nin0
       have cc2369 := (ff2094_28.other W2095 (Or.inl ne2106)).keep K2340 nin0
       have cc2370 := (ff2094_29.other W2095 ne2107).keep K2340 nin0
       exact JO1_2108 b2340 bb2340 kb2340 la1 ca1 T2340 _ X2340 hS2340 hZ hown N2340 KK2340 ZN2340 OL2340 ch2340 cc2341 cc2342 cc2343 cc2344 cc2345 cc2346 cc2347 cc2348 cc2349 cc2350 cc2351 cc2352 cc2353 cc2354 cc2355 cc2356 cc2357 cc2358 cc2359 cc2360 cc2361 cc2362 cc2363 cc2364 cc2365 cc2366 cc2367 cc2368 cc2369 cc2370 u2340_3 u2340_4 u2340_5 u2340_6 u2340_0 (Or.inl ⟨hc377_2308, rfl, rfl⟩) hla1 hca1
     refine c_iload X2092 hx hby at_350 rfl ?_
     by_cases hc352_2371 : q0 = (0 : Int32)
     ·refine c_ifYes X2092 hx hby 365 at_352 ((if0 _ _).trans (teq hc352_2371).1) (by decide) <| c_iload X2092 hx hby at_365 rfl <| c_iload X2092 hx hby at_367 rfl <| c_callSH X2092 hx hby hZ hown hml (gw hw 29 rfl) (gw hw 30 rfl) (gw hw 31 rfl) (gw hw 32 rfl) e2092 (own_EW hw) ch2092 hS2086 HK2092 (rmMK hw lb0 cb0 w0 h2092 n0 ZN2092 P1 OL2092 hw0 hlb0 hcb0) pd_22 rfl at_369 [.int 0, .ref b2092, .ref b2092] rfl 3 (by decide) rfl rfl fun o2372 T2372 L2372 X2372 hS2372 hZ hown hR2372 ch2372 hQ2372 => ?_
      obtain ⟨b2372, bb2372, kb2372, rfl, N2372q, u2372_0, u2372_1, K2372, u2372_3, u2372_4, u2372_5, u2372_6⟩ := hQ2372
      have N2372 := Fr.app NN2088 N2372q
      have G_b2372 := Nat.le_trans ZN2092 u2372_0
      have KK2372 := KK2092.trans K2372 all0
      have ZN2372 := Nat.le_trans ZN2092 K2372.1
      have OL2372 := OL2092.keep K2372 all0
      refine c_sh 372 [.ref b2372, .int 0, .ref b2092, .ref b2092] rfl rfl ?_
      have cc2373 := (((((((((((((((((cc2024.wr W2023).ext E2025).keep K2026).ext E2031).keep K2032).ext E2039).keep K2040).ext E2055).keep K2056).ext E2070).keep K2071).wr W2073).keep K2080).wr W2082).keep K2086).wr W2088).ext E2092).keep K2372
      have cc2374 := ((((((((((((((((V2023.ext E2025).keep K2026 (ninS ne2030 nin0)).ext E2031).keep K2032 (ninS ne2030 nin0)).ext E2039).keep K2040 (ninS ne2030 (ninS ne2048 nin0))).ext E2055).keep K2056 (ninS ne2030 (ninS ne2048 nin0))).ext E2070).keep K2071 nin0).other W2073 ne2075).keep K2080 nin0).other W2082 ne2075).keep K2086 nin0).other W2088 ne2075).ext E2092).keep K2372 nin0
      have cc2375 := (((((((((cc2057.keep K2056).ext E2070).keep K2071).wr W2073).keep K2080).wr W2082).keep K2086).wr W2088).ext E2092).keep K2372
      have cc2376 := (((((((((((((LE2031.keep K2032).ext E2039).keep K2040).ext E2055).keep K2056).ext E2070).keep K2071).wr W2073).keep K2080).wr W2082).keep K2086).wr W2088).ext E2092).keep K2372
      have cc2377 := ((((((((u2056_4.ext E2070).keep K2071).wr W2073).keep K2080).wr W2082).keep K2086).wr W2088).ext E2092).keep K2372
      have cc2378 := (((((((((((LE2039.keep K2040).ext E2055).keep K2056).ext E2070).keep K2071).wr W2073).keep K2080).wr W2082).keep K2086).wr W2088).ext E2092).keep K2372
      have cc2379 := (((((((((LE2055.keep K2056).ext E2070).keep K2071).wr W2073).keep K2080).wr W2082).keep K2086).wr W2088).ext E2092).keep K2372
      have cc2380 := ((((((((u2056_2.ext E2070).keep K2071 nin0).other W2073 (Or.inl ne2076)).keep K2080 nin0).other W2082 (Or.inl ne2076)).keep K2086 nin0).other W2088 (Or.inl ne2076)).ext E2092).keep K2372 nin0
      have cc2381 := ((((((((u2056_3.ext E2070).keep K2071 nin0).other W2073 (Or.inl ne2076)).keep K2080 nin0).other W2082 (Or.inl ne2076)).keep K2086 nin0).other W2088 (Or.inl ne2076)).ext E2092).keep K2372 nin0
      have cc2382 := ((((((((u2056_5.ext E2070).keep K2071 nin0).other W2073 ne2077).keep K2080 nin0).other W2082 ne2077).keep K2086 nin0).other W2088 ne2077).ext E2092).keep K2372 nin0
      have cc2383 := ((cc2089.wr W2088).ext E2092).keep K2372
      have cc2384 := (VV2088.ext E2092).keep K2372 nin0
      have cc2385 := ((((((u2071_3.wr W2073).keep K2080).wr W2082).keep K2086).wr W2088).ext E2092).keep K2372
      have cc2386 := ((((((u2071_4.other W2073 (Or.inl ne2078)).keep K2080 nin0).other W2082 (Or.inl ne2078)).keep K2086 nin0).other W2088 (Or.inl ne2078)).ext E2092).keep K2372 nin0
      have cc2387 := ((((((u2071_5.other W2073 (Or.inl ne2078)).keep K2080 nin0).other W2082 (Or.inl ne2078)).keep K2086 nin0).other W2088 (Or.inl ne2078)).ext E2092).keep K2372 nin0
      have cc2388 := ((((((u2071_6.other W2073 ne2079).keep K2080 nin0).other W2082 ne2079).keep K2086 nin0).other W2088 ne2079).ext E2092).keep K2372 nin0
      have cc2389 := ((((u2080_3.wr W2082).keep K2086).wr W2088).ext E2092).keep K2372
      have cc2390 := ((((u2080_4.other W2082 (Or.inl ne2084)).keep K2086 nin0).other W2088 (Or.inl ne2084)).ext E2092).keep K2372 nin0
      have cc2391 := ((((u2080_5.other W2082 (Or.inl ne2084)).keep K2086 nin0).other W2088 (Or.inl ne2084)).ext E2092).keep K2372 nin0
      have cc2392 := ((((u2080_6.other W2082 ne2085).keep K2086 nin0).other W2088 ne2085).ext E2092).keep K2372 nin0
      have cc2393 := ((u2086_3.wr W2088).ext E2092).keep K2372
      have cc2394 := ((u2086_4.other W2088 (Or.inl ne2090)).ext E2092).keep K2372 nin0
      have cc2395 := ((u2086_5.other W2088 (Or.inl ne2090)).ext E2092).keep K2372 nin0
      have cc2396 := ((u2086_6.other W2088 ne2091).ext E2092).keep K2372 nin0
      have cc2397 := AE2092.keep K2372
      have cc2398 := V2092.keep K2372 nin0
      exact JO0_2093 b2372 bb2372 kb2372 lb0 cb0 T2372 _ X2372 hS2372 hZ hown N2372 KK2372 ZN2372 OL2372 ch2372 cc2373 cc2374 cc2375 cc2376 cc2377 cc2378 cc2379 cc2380 cc2381 cc2382 cc2383 cc2384 cc2385 cc2386 cc2387 cc2388 cc2389 cc2390 cc2391 cc2392 cc2393 cc2394 cc2395 cc2396 cc2397 cc2398 u2372_3 u2372_4 u2372_5 u2372_6 u2372_0 (Or.inr ⟨hc352_2371, rfl, rfl⟩) hlb0 hcb0
     ·refine c_ifNo X2092 hx hby at_352 ((if0 _ _).trans (feq hc352_2371).1) <| c_iload X2092 hx hby at_355 rfl <| c_iload X2092 hx hby at_357 rfl <| c_callSH X2092 hx hby hZ hown hml (gw hw 29 rfl) (gw hw 30 rfl) (gw hw 31 rfl) (gw hw 32 rfl) e2092 (own_EW hw) ch2092 hS2086 HK2092 (rmMK hw la0 ca0 w0 h2092 n0 ZN2092 P1 OL2092 hw0 hla0 hca0) pd_22 rfl at_359 [.int 0, .ref b2092, .ref b2092] rfl 3 (by decide) rfl rfl fun o2399 T2399 L2399 X2399 hS2399 hZ hown hR2399 ch2399 hQ2399 => ?_
      obtain ⟨b2399, bb2399, kb2399, rfl, N2399q, u2399_0, u2399_1, K2399, u2399_3, u2399_4, u2399_5, u2399_6⟩ := hQ2399
      have N2399 := Fr.app NN2088 N2399q
      have G_b2399 := Nat.le_trans ZN2092 u2399_0
      have KK2399 := KK2092.trans K2399 all0
      have ZN2399 := Nat.le_trans ZN2092 K2399.1
      have OL2399 := OL2092.keep K2399 all0
      refine c_sh 362 [.ref b2399, .int 0, .ref b2092, .ref b2092] rfl rfl <| c_goto X2399 hx hby 372 at_362 (by decide) ?_
      have cc2400 := (((((((((((((((((cc2024.wr W2023).ext E2025).keep K2026).ext E2031).keep K2032).ext E2039).keep K2040).ext E2055).keep K2056).ext E2070).keep K2071).wr W2073).keep K2080).wr W2082).keep K2086).wr W2088).ext E2092).keep K2399
      have cc2401 := ((((((((((((((((V2023.ext E2025).keep K2026 (ninS ne2030 nin0)).ext E2031).keep K2032 (ninS ne2030 nin0)).ext E2039).keep K2040 (ninS ne2030 (ninS ne2048 nin0))).ext E2055).keep K2056 (ninS ne2030 (ninS ne2048 nin0))).ext E2070).keep K2071 nin0).other W2073 ne2075).keep K2080 nin0).other W2082 ne2075).keep K2086 nin0).other W2088 ne2075).ext E2092).keep K2399 nin0
      have cc2402 := (((((((((cc2057.keep K2056).ext E2070).keep K2071).wr W2073).keep K2080).wr W2082).keep K2086).wr W2088).ext E2092).keep K2399
      have cc2403 := (((((((((((((LE2031.keep K2032).ext E2039).keep K2040).ext E2055).keep K2056).ext E2070).keep K2071).wr W2073).keep K2080).wr W2082).keep K2086).wr W2088).ext E2092).keep K2399
      have cc2404 := ((((((((u2056_4.ext E2070).keep K2071).wr W2073).keep K2080).wr W2082).keep K2086).wr W2088).ext E2092).keep K2399
      have cc2405 := (((((((((((LE2039.keep K2040).ext E2055).keep K2056).ext E2070).keep K2071).wr W2073).keep K2080).wr W2082).keep K2086).wr W2088).ext E2092).keep K2399
      have cc2406 := (((((((((LE2055.keep K2056).ext E2070).keep K2071).wr W2073).keep K2080).wr W2082).keep K2086).wr W2088).ext E2092).keep K2399
      have cc2407 := ((((((((u2056_2.ext E2070).keep K2071 nin0).other W2073 (Or.inl ne2076)).keep K2080 nin0).other W2082 (Or.inl ne2076)).keep K2086 nin0).other W2088 (Or.inl ne2076)).ext E2092).keep K2399 nin0
      have cc2408 := ((((((((u2056_3.ext E2070).keep K2071 nin0).other W2073 (Or.inl ne2076)).keep K2080 nin0).other W2082 (Or.inl ne2076)).keep K2086 nin0).other W2088 (Or.inl ne2076)).ext E2092).keep K2399 nin0
      have cc2409 := ((((((((u2056_5.ext E2070).keep K2071 nin0).other W2073 ne2077).keep K2080 nin0).other W2082 ne2077).keep K2086 nin0).other W2088 ne2077).ext E2092).keep K2399 nin0
      have cc2410 := ((cc2089.wr W2088).ext E2092).keep K2399
      have cc2411 := (VV2088.ext E2092).keep K2399 nin0
      have cc2412 := ((((((u2071_3.wr W2073).keep K2080).wr W2082).keep K2086).wr W2088).ext E2092).keep K2399
      have cc2413 := ((((((u2071_4.other W2073 (Or.inl ne2078)).keep K2080 nin0).other W2082 (Or.inl ne2078)).keep K2086 nin0).other W2088 (Or.inl ne2078)).ext E2092).keep K2399 nin0
      have cc2414 := ((((((u2071_5.other W2073 (Or.inl ne2078)).keep K2080 nin0).other W2082 (Or.inl ne2078)).keep K2086 nin0).other W2088 (Or.inl ne2078)).ext E2092).keep K2399 nin0
      have cc2415 := ((((((u2071_6.other W2073 ne2079).keep K2080 nin0).other W2082 ne2079).keep K2086 nin0).other W2088 ne2079).ext E2092).keep K2399 nin0
      have cc2416 := ((((u2080_3.wr W2082).keep K2086).wr W2088).ext E2092).keep K2399
      have cc2417 := ((((u2080_4.other W2082 (Or.inl ne2084)).keep K2086 nin0).other W2088 (Or.inl ne2084)).ext E2092).keep K2399 nin0
      have cc2418 := ((((u2080_5.other W2082 (Or.inl ne2084)).keep K2086 nin0).other W2088 (Or.inl ne2084)).ext E2092).keep K2399 nin0
      have cc2419 := ((((u2080_6.other W2082 ne2085).keep K2086 nin0).other W2088 ne2085).ext E2092).keep K2399 nin0
      have cc2420 := ((u2086_3.wr W2088).ext E2092).keep K2399
      have cc2421 := ((u2086_4.other W2088 (Or.inl ne2090)).ext E2092).keep K2399 nin0
      have cc2422 := ((u2086_5.other W2088 (Or.inl ne2090)).ext E2092).keep K2399 nin0
      have cc2423 := ((u2086_6.other W2088 ne2091).ext E2092).keep K2399 nin0
      have cc2424 := AE2092.keep K2399
      have cc2425 := V2092.keep K2399 nin0
      exact JO0_2093 b2399 bb2399 kb2399 la0 ca0 T2399 _ X2399 hS2399 hZ hown N2399 KK2399 ZN2399 OL2399 ch2399 cc2400 cc2401 cc2402 cc2403 cc2404 cc2405 cc2406 cc2407 cc2408 cc2409 cc2410 cc2411 cc2412 cc2413 cc2414 cc2415 cc2416 cc2417 cc2418 cc2419 cc2420 cc2421 cc2422 cc2423 cc2424 cc2425 u2399_3 u2399_4 u2399_5 u2399_6 u2399_0 (Or.inl ⟨hc352_2371, rfl, rfl⟩) hla0 hca0
    refine c_iloadN X2056 hx hby at_248 rfl <| c_iconst X2056 hx hby 2 at_249 rfl <| c_iushr X2056 hx hby at_250 <| c_iconst X2056 hx hby 1 at_251 rfl <| c_iand X2056 hx hby at_252 ?_
    by_cases hc253_2426 : (((p4.toUInt32 >>> ((2 : Int32) &&& 31).toUInt32).toInt32) &&& (1 : Int32)) = (0 : Int32)
    ·refine c_ifYes X2056 hx hby 260 at_253 ((if0 _ _).trans (teq hc253_2426).1) (by decide) <| c_iconst X2056 hx hby 0 at_260 rfl ?_
     exact JQ2_2069 _
    ·refine c_ifNo X2056 hx hby at_253 ((if0 _ _).trans (feq hc253_2426).1) <| c_iconst X2056 hx hby 1 at_256 rfl <| c_goto X2056 hx hby 261 at_257 (by decide) ?_
     exact JQ2_2069 _
   refine c_iloadN X2056 hx hby at_233 rfl <| c_iconst X2056 hx hby 1 at_234 rfl <| c_iushr X2056 hx hby at_235 <| c_iconst X2056 hx hby 1 at_236 rfl <| c_iand X2056 hx hby at_237 ?_
   by_cases hc238_2427 : (((p4.toUInt32 >>> ((1 : Int32) &&& 31).toUInt32).toInt32) &&& (1 : Int32)) = (0 : Int32)
   ·refine c_ifYes X2056 hx hby 245 at_238 ((if0 _ _).trans (teq hc238_2427).1) (by decide) <| c_iconst X2056 hx hby 0 at_245 rfl ?_
    exact JQ1_2068 _
   ·refine c_ifNo X2056 hx hby at_238 ((if0 _ _).trans (feq hc238_2427).1) <| c_iconst X2056 hx hby 1 at_241 rfl <| c_goto X2056 hx hby 246 at_242 (by decide) ?_
    exact JQ1_2068 _
  refine c_sh 220 [] rfl rfl <| c_iloadN X2056 hx hby at_220 rfl <| c_iconst X2056 hx hby 1 at_221 rfl <| c_iand X2056 hx hby at_222 ?_
  by_cases hc223_2428 : (p4 &&& (1 : Int32)) = (0 : Int32)
  ·refine c_ifYes X2056 hx hby 230 at_223 ((if0 _ _).trans (teq hc223_2428).1) (by decide) <| c_iconst X2056 hx hby 0 at_230 rfl ?_
   exact JQ0_2067 _
  ·refine c_ifNo X2056 hx hby at_223 ((if0 _ _).trans (feq hc223_2428).1) <| c_iconst X2056 hx hby 1 at_226 rfl <| c_goto X2056 hx hby 231 at_227 (by decide) ?_
   exact JQ0_2067 _
set_option maxRecDepth 65536 in
set_option maxHeartbeats 40000000 in
theorem comes_1 {Post : Tables → Env → Array Value → State → Outcome → State → Prop} (hpost : ∀ tb e args s v u, (limb_1_1.after args s (.returned v) u = true ∧ limb_1_2.after args s (.returned v) u = true ∧ True) → ReturnedEndW s (.returned v) u (Jvm.fieldLocs frame_1_writes args s ++ Jvm.arrayLocs frame_1_arrays args s ++ Jvm.staticLocs frame_1_statics s) 80 5376 → Post tb e args s (.returned v) u) :
    ArmFor flags0 classFile x code maxLocals ret World_1 tables_1 room_1 Calls_1 rest_1 Pre_1 Post := by
  intro l hfl _ _ p e ha hc hk s m args below hf hA hF happ hP
  obtain ⟨hcalls, hrest, hpre⟩ := hP
  obtain ⟨-, -, -, hnamed, -, -, -, hat⟩ := (Spec.applies_iff hf).mp happ
  obtain ⟨hg, hn⟩ := and_e (Cond.before_iff.mp (show (Jvm.Cond.and given_1 narrow_1).before args s = true from hpre))
  obtain ⟨q0, r0⟩ := and_e hg
  obtain ⟨q1, r1⟩ := and_e r0
  obtain ⟨q2, r2⟩ := and_e r1
  obtain ⟨q3, r3⟩ := and_e r2
  obtain ⟨w0, w1, w2, w3, rfl⟩ : ∃ w0 w1 w2 w3 : Value, args = #[w0, w1, w2, w3] := by
    have hs : args.size = 4 := by simpa [Cond.value, given_1] using q0
    obtain ⟨L⟩ := args
    match L, hs with
    | [w0, w1, w2, w3], _ => exact ⟨w0, w1, w2, w3, rfl⟩
  have hw := fun d (hd : d ∈ tables_1) => atoms_spec (ws := Jvm.Cond.code x code maxLocals ret :: tables_1) hat d (List.mem_cons_of_mem _ hd)
  have hfit : Fit s := fun {y c} hc i hi => by
    obtain ⟨ha, rfl⟩ := Array.getElem?_eq_some_iff.mp hc
    have q := List.all_eq_true.mp ((Array.all_eq_true_iff_forall_mem.mp hF) _ (Array.getElem_mem ha)) i (List.mem_range.mpr hi)
    simpa [Array.getElem?_eq_getElem hi] using q
  obtain ⟨hsets, hown0⟩ := atoms_of _ (rest_1_c_eq ▸ (show rest_1_c.before _ s = true from hrest))
  obtain ⟨i0, ei0⟩ := is_v q1
  obtain rfl : w0 = (.int i0) := Option.some.inj ei0
  obtain ⟨i1, ei1⟩ := is_v q2
  obtain rfl : w1 = (.int i1) := Option.some.inj ei1
  obtain ⟨i2, ei2⟩ := is_v q3
  obtain rfl : w2 = (.int i2) := Option.some.inj ei2
  obtain ⟨i3, ei3⟩ := is_v r3
  obtain rfl : w3 = (.int i3) := Option.some.inj ei3
  obtain ⟨w0_, ew0⟩ := is_v (Cond.before_iff.mp (hsets _ (List.mem_of_getElem? (i := 17) rfl)))
  have hw0 : ¬ w0_ = 0 := own_neI (Cond.before_iff.mp (hsets _ (List.mem_of_getElem? (i := 18) rfl))) ew0
  have S0 : Sta s s.heap "java/lang/String" "COMPACT_STRINGS" "Z" (.int w0_) := Sta.start ew0 (Or.inl (hsets _ (List.mem_of_getElem? (i := 16) rfl)))
  obtain ⟨d0_, vd⟩ := exa_v (Cond.before_iff.mp (hsets _ (List.mem_of_getElem? (i := 7) rfl)))
  obtain ⟨cd, Ad⟩ := Arr.start vd (Cond.before_iff.mp (hsets _ (List.mem_of_getElem? (i := 6) rfl)))
  obtain ⟨l1, l2⟩ := own_len vd Ad (Cond.before_iff.mp (hsets _ (List.mem_of_getElem? (i := 8) rfl)))
  have S1 : Sta s s.heap "java/util/ArrayList" "DEFAULTCAPACITY_EMPTY_ELEMENTDATA" "[Ljava/lang/Object;" (.ref d0_) := Sta.start vd (Or.inr ⟨(hw _ (List.mem_of_getElem? (i := 3) rfl)), (hsets _ (List.mem_of_getElem? (i := 2) rfl))⟩)
  have V0 : Arv s s.heap d0_ cd.cls (.object "java/lang/Object") (0 : Int32) [] .null := Arv.start hfit Ad l1 l2 (by decide) (by decide) trivial
  obtain ⟨el_, vel⟩ := exa_v (Cond.before_iff.mp (hsets _ (List.mem_of_getElem? (i := 11) rfl)))
  have S2 : Sta s s.heap "java/util/ImmutableCollections" "EMPTY_LIST" "Ljava/util/ImmutableCollections$ListN;" (.ref el_) := Sta.start vel (Or.inl (hsets _ (List.mem_of_getElem? (i := 10) rfl)))
  obtain ⟨em_, vem⟩ := exa_v (Cond.before_iff.mp (hsets _ (List.mem_of_getElem? (i := 27) rfl)))
  have S3 : Sta s s.heap "java/util/ImmutableCollections" "EMPTY" "Ljava/lang/Object;" (.ref em_) := Sta.start vem (Or.inl (hsets _ (List.mem_of_getElem? (i := 26) rfl)))
  obtain ⟨mc_, mk_, mr_, mm1, mm2, mm3, -⟩ := hcalls.1
  have hm : own_Mir s "[Ljava/lang/Object;" mr_ := ⟨mc_, mk_, mm1, mm2, mm3⟩
  have hCH : CHv s own_EL s.vm s.heap := CHv.start (own_EW hw) hcalls.2.1 (hsets _ (List.mem_of_getElem? (i := 18) rfl)) (hw _ (List.mem_of_getElem? (i := 45) rfl)) (hw _ (List.mem_of_getElem? (i := 33) rfl))
  obtain ⟨n, o, h1, h2, h3, _, L, rfl, ⟨rfl, N⟩, _, hq⟩ := rm0 l s _ hw tables_1 i0 i1 i2 i3 w0_ d0_ cd.cls el_ em_ mr_ s.heap s.heap.size (Nat.le_refl _) (Old.start s) S0 S1 V0 S2 S3 hw0 hm p e ha hc hk s m _ below hf ((Spec.applies_iff_loose hf).mp happ).1 ⟨rfl, State.Warmed39.refl s, rfl, hCH⟩ trivial
  refine ⟨n, _, h1, h2, h3, hpost _ _ _ _ _ _ ⟨Cond.after_iff.mpr rfl, Cond.after_iff.mpr (eq_i res_at (Term.int_eval (1)) rfl), trivial⟩ ⟨hq.1, hq.2.1, hq.2.2.1, (hq.2.2.2.sift fun y hy => Or.inr (N y hy)).mono (by decide) (by decide)⟩⟩
theorem main_1_1 : Claimed_1_1 := comes_1 fun _ _ _ _ _ _ h hF => ⟨h.1, hF⟩
theorem main_1_2 : Claimed_1_2 := comes_1 fun _ _ _ _ _ _ h hF => ⟨h.2.1, hF⟩
end Jvm.Pilot.@@N@@
namespace Jvm.Pilot.@@N@@
open Jvm Jvm.ClassFile Sem Op Lib Jvm.Free Jvm.Stand Jvm.Pilot.@@N@@.Jvm.D
/-! MADE BY PROGRAM (witnessworld.py) out of the Statement's table words and the real class files: 40 classes; the members and pool entries that the words name. The judged class is class 1, her method 1. -/
namespace start1
open Jvm.ClassFile
def u (s : String) : CpInfo := .utf8 (stringToUtf16 s)
/-- a pool by its gaps: so many unusable entries, then the entry; so many at the end -/
def gap : Nat → List CpInfo → List CpInfo
  | 0, r => r
  | n + 1, r => .unusable :: gap n r
def poolList (es : List (Nat × CpInfo)) (last : Nat) : List CpInfo := es.foldr (fun e r => gap e.1 (e.2 :: r)) (gap last [])
def pool (es : List (Nat × CpInfo)) (last : Nat) : Array CpInfo := ⟨poolList es last⟩
def fileOf (pool : Array CpInfo) (this : Nat) (attrs : Array Attribute := #[]) (ms : Array MethodInfo := #[]) (fl : Nat := 33) (sup : Nat := 0) (ifs : Array Nat := #[]) (fds : Array FieldInfo := #[]) : ClassFile where
  minorVersion := 0
  majorVersion := 65
  constantPool := pool
  accessFlags := fl
  thisClass := this
  superClass := sup
  interfaces := ifs
  fields := fds
  methods := ms
  attributes := attrs
def plain (name : String) (sup : Option ClassId) : Class where
  name := name
  kind := .ordinary
  loader := none
  accessFlags := 33
  super := sup
  interfaces := #[]
  cf := none
  fields := #[]
  methods := #[]
  instanceTypes := #[]
  staticTypes := #[]
  resolved := #[]
  callSites := []
  init := .initialized
  statics := none
  mirror := none

def pool0 : Array CpInfo := pool [(5, u "<init>"), (0, u "()V"), (1, .class_ 10), (1, u "java/lang/Object"), (0, u "getClass"), (0, u "()Ljava/lang/Class;"), (83, u "clone"), (0, u "()Ljava/lang/Object;")] 26

def k0c0 : Code := { maxStack := 0, maxLocals := 1, code := object_method_1_code, exceptionTable := #[], attributes := #[] }
def k0m0 : Method := { name := "<init>", desc := "()V", sig := { parameters := [], returnType := none }, accessFlags := 1, code := some k0c0 }
def k0m1 : Method := { name := "getClass", desc := "()Ljava/lang/Class;", sig := { parameters := [], returnType := some (.object "java/lang/Class") }, accessFlags := 273, code := none }
def k0m2 : Method := { name := "clone", desc := "()Ljava/lang/Object;", sig := { parameters := [], returnType := some (.object "java/lang/Object") }, accessFlags := 260, code := none }
/-- java/lang/Object -/
def k0 : Class := { plain "java/lang/Object" none with
  accessFlags := 33
  interfaces := #[]
  cf := some (fileOf pool0 8 #[] #[{ accessFlags := 1, nameIndex := 5, descriptorIndex := 6, attributes := #[] }, { accessFlags := 273, nameIndex := 11, descriptorIndex := 12, attributes := #[] }, { accessFlags := 260, nameIndex := 96, descriptorIndex := 97, attributes := #[] }] 33 0 #[] #[])
  fields := #[]
  methods := #[k0m0, k0m1, k0m2]
  instanceTypes := #[]
  staticTypes := #[]
  resolved := Array.replicate 124 none
  statics := none }

def pool1 : Array CpInfo := pool [(2, .class_ 4), (0, .nameAndType 5 6), (0, u "java/lang/Object"), (0, u "<init>"), (0, u "()V"), (0, .class_ 8), (0, u "java/util/ArrayList"), (0, .methodref 7 3), (0, .string 11), (0, u "a"), (0, .methodref 7 13), (0, .nameAndType 14 15), (0, u "add"), (0, u "(Ljava/lang/Object;)Z"), (0, .string 17), (0, u "b"), (0, .string 19), (0, u "c"), (0, .class_ 21), (0, u "java/lang/String"), (0, .methodref 23 24), (0, .class_ 25), (0, .nameAndType 26 27), (0, u "com/example/raccordo/raccordo/flow/XmlElementSameAttributesPinLaw"), (0, u "mk"), (0, u "(IC)Ljava/lang/String;"), (0, .class_ 29), (0, u "com/example/raccordo/raccordo/flow/XmlElement"), (0, .string 31), (0, u "x"), (0, .methodref 28 33), (0, .nameAndType 5 34), (0, u "(Ljava/lang/String;Ljava/util/List;[IILjava/util/List;)V"), (0, .methodref 28 36), (0, .nameAndType 37 38), (0, u "sameAttributes"), (0, u "([Ljava/lang/String;[Ljava/lang/String;)Z"), (0, .methodref 23 40), (0, .nameAndType 41 42), (0, u "pick"), (0, u "(IZZZ)Z"), (0, .methodref 20 44), (0, .nameAndType 5 45), (0, u "([C)V"), (2, u "law"), (0, u "(IIII)Z")] 7

def k1m0 : Method := { name := "<init>", desc := "()V", sig := { parameters := [], returnType := none }, accessFlags := 1, code := none }
def k1c1 : Code := { maxStack := 8, maxLocals := 33, code := code, exceptionTable := #[], attributes := #[] }
def k1m1 : Method := { name := "law", desc := "(IIII)Z", sig := { parameters := [.int, .int, .int, .int], returnType := some .boolean }, accessFlags := 9, code := some k1c1 }
def k1c2 : Code := { maxStack := 6, maxLocals := 2, code := method_3_code, exceptionTable := #[], attributes := #[] }
def k1m2 : Method := { name := "mk", desc := "(IC)Ljava/lang/String;", sig := { parameters := [.int, .char], returnType := some (.object "java/lang/String") }, accessFlags := 10, code := some k1c2 }
def k1c3 : Code := { maxStack := 2, maxLocals := 4, code := method_4_code, exceptionTable := #[], attributes := #[] }
def k1m3 : Method := { name := "pick", desc := "(IZZZ)Z", sig := { parameters := [.int, .boolean, .boolean, .boolean], returnType := some .boolean }, accessFlags := 10, code := some k1c3 }
/-- com/example/raccordo/raccordo/flow/XmlElementSameAttributesPinLaw -/
def k1 : Class := { plain "com/example/raccordo/raccordo/flow/XmlElementSameAttributesPinLaw" (some 0) with
  accessFlags := 49
  interfaces := #[]
  cf := some (fileOf pool1 23 #[] #[{ accessFlags := 1, nameIndex := 5, descriptorIndex := 6, attributes := #[] }, { accessFlags := 9, nameIndex := 48, descriptorIndex := 49, attributes := #[] }, { accessFlags := 10, nameIndex := 26, descriptorIndex := 27, attributes := #[] }, { accessFlags := 10, nameIndex := 41, descriptorIndex := 42, attributes := #[] }] 49 2 #[] #[])
  fields := #[]
  methods := #[k1m0, k1m1, k1m2, k1m3]
  instanceTypes := #[]
  staticTypes := #[]
  resolved := Array.replicate 57 none
  statics := none }

def pool2 : Array CpInfo := pool [(8, .class_ 10), (1, u "java/lang/Iterable"), (24, .class_ 36), (0, u "java/lang/Object")] 25

/-- java/lang/Iterable -/
def k2 : Class := { plain "java/lang/Iterable" (some 0) with
  accessFlags := 1537
  interfaces := #[]
  cf := some (fileOf pool2 8 #[] #[] 1537 35 #[] #[])
  fields := #[]
  methods := #[]
  instanceTypes := #[]
  staticTypes := #[]
  resolved := Array.replicate 62 none
  statics := none }

def pool3 : Array CpInfo := pool [(10, .class_ 12), (1, u "java/util/Collection"), (0, u "toArray"), (16, u "()Z"), (29, .class_ 61), (0, u "java/lang/Object"), (0, .class_ 63), (0, u "java/lang/Iterable"), (2, u "isEmpty"), (3, u "()[Ljava/lang/Object;")] 44

def k3m0 : Method := { name := "isEmpty", desc := "()Z", sig := { parameters := [], returnType := some .boolean }, accessFlags := 1025, code := none }
def k3m1 : Method := { name := "toArray", desc := "()[Ljava/lang/Object;", sig := { parameters := [], returnType := some (.array (.object "java/lang/Object")) }, accessFlags := 1025, code := none }
/-- java/util/Collection -/
def k3 : Class := { plain "java/util/Collection" (some 0) with
  accessFlags := 1537
  interfaces := #[2]
  cf := some (fileOf pool3 10 #[] #[{ accessFlags := 1025, nameIndex := 66, descriptorIndex := 30, attributes := #[] }, { accessFlags := 1025, nameIndex := 13, descriptorIndex := 70, attributes := #[] }] 1537 60 #[62] #[])
  fields := #[]
  methods := #[k3m0, k3m1]
  instanceTypes := #[]
  staticTypes := #[]
  resolved := Array.replicate 115 none
  statics := none }

def pool4 : Array CpInfo := pool [(1, .methodref 2 3), (0, .class_ 4), (0, .nameAndType 5 6), (0, u "java/lang/Object"), (0, u "<init>"), (0, u "()V"), (1, .class_ 10), (1, u "java/util/AbstractCollection"), (66, .class_ 78), (0, u "java/util/Collection")] 81

def k4c0 : Code := { maxStack := 1, maxLocals := 1, code := jdk_22_method_1_code, exceptionTable := #[], attributes := #[] }
def k4m0 : Method := { name := "<init>", desc := "()V", sig := { parameters := [], returnType := none }, accessFlags := 4, code := some k4c0 }
/-- java/util/AbstractCollection -/
def k4 : Class := { plain "java/util/AbstractCollection" (some 0) with
  accessFlags := 1057
  interfaces := #[3]
  cf := some (fileOf pool4 8 #[] #[{ accessFlags := 4, nameIndex := 5, descriptorIndex := 6, attributes := #[] }] 1057 2 #[77] #[])
  fields := #[]
  methods := #[k4m0]
  instanceTypes := #[]
  staticTypes := #[]
  resolved := Array.replicate 160 none
  statics := none }

def pool5 : Array CpInfo := pool [(8, .class_ 10), (1, u "java/util/SequencedCollection"), (15, .class_ 27), (0, u "java/lang/Object"), (0, .class_ 29), (0, u "java/util/Collection")] 27

/-- java/util/SequencedCollection -/
def k5 : Class := { plain "java/util/SequencedCollection" (some 0) with
  accessFlags := 1537
  interfaces := #[3]
  cf := some (fileOf pool5 8 #[] #[] 1537 26 #[28] #[])
  fields := #[]
  methods := #[]
  instanceTypes := #[]
  staticTypes := #[]
  resolved := Array.replicate 57 none
  statics := none }

def pool6 : Array CpInfo := pool [(8, .class_ 10), (1, u "java/util/List"), (20, u "(Ljava/lang/Object;)V"), (16, u "<init>"), (39, u "of"), (1, .fieldref 91 92), (0, .class_ 93), (0, .nameAndType 94 95), (0, u "java/util/ImmutableCollections"), (0, u "EMPTY_LIST"), (0, u "Ljava/util/ImmutableCollections$ListN;"), (0, .class_ 97), (0, u "java/util/ImmutableCollections$List12"), (0, .methodref 96 99), (0, .nameAndType 48 31), (0, .methodref 96 101), (0, .nameAndType 48 102), (0, u "(Ljava/lang/Object;Ljava/lang/Object;)V"), (0, .class_ 104), (0, u "java/lang/Object"), (3, u "([Ljava/lang/Object;)Ljava/util/List;"), (0, .methodref 91 110), (0, .nameAndType 111 108), (0, u "listFromArray"), (0, .methodref 91 113), (0, .nameAndType 114 115), (0, u "listCopy"), (0, u "(Ljava/util/Collection;)Ljava/util/List;"), (3, u "()Ljava/util/List;"), (0, .class_ 121), (0, u "java/util/SequencedCollection"), (112, u "copyOf")] 16

def k6c0 : Code := { maxStack := 1, maxLocals := 0, code := jdk_40_method_36_code, exceptionTable := #[], attributes := #[] }
def k6m0 : Method := { name := "of", desc := "()Ljava/util/List;", sig := { parameters := [], returnType := some (.object "java/util/List") }, accessFlags := 9, code := some k6c0 }
def k6c1 : Code := { maxStack := 5, maxLocals := 2, code := jdk_40_method_47_code, exceptionTable := #[], attributes := #[] }
def k6m1 : Method := { name := "of", desc := "([Ljava/lang/Object;)Ljava/util/List;", sig := { parameters := [(.array (.object "java/lang/Object"))], returnType := some (.object "java/util/List") }, accessFlags := 137, code := some k6c1 }
def k6c2 : Code := { maxStack := 1, maxLocals := 1, code := jdk_40_method_48_code, exceptionTable := #[], attributes := #[] }
def k6m2 : Method := { name := "copyOf", desc := "(Ljava/util/Collection;)Ljava/util/List;", sig := { parameters := [(.object "java/util/Collection")], returnType := some (.object "java/util/List") }, accessFlags := 9, code := some k6c2 }
/-- java/util/List -/
def k6 : Class := { plain "java/util/List" (some 0) with
  accessFlags := 1537
  interfaces := #[5]
  cf := some (fileOf pool6 8 #[] #[{ accessFlags := 9, nameIndex := 88, descriptorIndex := 119, attributes := #[] }, { accessFlags := 137, nameIndex := 88, descriptorIndex := 108, attributes := #[] }, { accessFlags := 9, nameIndex := 234, descriptorIndex := 115, attributes := #[] }] 1537 103 #[120] #[])
  fields := #[]
  methods := #[k6m0, k6m1, k6m2]
  instanceTypes := #[]
  staticTypes := #[]
  resolved := Array.replicate 251 none
  statics := none }

def pool7 : Array CpInfo := pool [(1, .methodref 2 3), (0, .class_ 4), (0, .nameAndType 5 6), (0, u "java/util/AbstractCollection"), (0, u "<init>"), (0, u "()V"), (0, .fieldref 8 9), (0, .class_ 10), (0, .nameAndType 11 12), (0, u "java/util/AbstractList"), (0, u "modCount"), (0, u "I"), (64, .class_ 78), (0, u "java/util/AbstractList$Itr"), (3, .class_ 83), (0, u "java/util/AbstractList$ListItr"), (9, .class_ 94), (0, u "java/util/AbstractList$RandomAccessSubList"), (3, .class_ 99), (0, u "java/util/AbstractList$SubList"), (33, .class_ 134), (0, u "java/util/List"), (73, .class_ 209), (0, u "java/util/AbstractList$SubList$1"), (0, .class_ 211), (0, u "java/util/AbstractList$RandomAccessSpliterator")] 6

def k7c0 : Code := { maxStack := 2, maxLocals := 1, code := jdk_39_method_1_code, exceptionTable := #[], attributes := #[] }
def k7m0 : Method := { name := "<init>", desc := "()V", sig := { parameters := [], returnType := none }, accessFlags := 4, code := some k7c0 }
/-- java/util/AbstractList -/
def k7 : Class := { plain "java/util/AbstractList" (some 4) with
  accessFlags := 1057
  interfaces := #[6]
  cf := some (fileOf pool7 8 #[.nestMembers #[93, 98, 208, 210, 82, 77]] #[{ accessFlags := 4, nameIndex := 5, descriptorIndex := 6, attributes := #[] }] 1057 2 #[133] #[{ accessFlags := 132, nameIndex := 11, descriptorIndex := 12, attributes := #[] }])
  fields := #[{ name := "modCount", type := .int, accessFlags := 132, slot := 0, constantValue := 0 }]
  methods := #[k7m0]
  instanceTypes := #[.int]
  staticTypes := #[]
  resolved := Array.replicate 218 none
  statics := none }

def pool8 : Array CpInfo := pool [(1, .class_ 2), (0, u "java/util/RandomAccess"), (0, .class_ 4), (0, u "java/lang/Object")] 2

/-- java/util/RandomAccess -/
def k8 : Class := { plain "java/util/RandomAccess" (some 0) with
  accessFlags := 1537
  interfaces := #[]
  cf := some (fileOf pool8 1 #[] #[] 1537 3 #[] #[])
  fields := #[]
  methods := #[]
  instanceTypes := #[]
  staticTypes := #[]
  resolved := Array.replicate 7 none
  statics := none }

def pool9 : Array CpInfo := pool [(1, .class_ 2), (0, u "java/lang/Cloneable"), (0, .class_ 4), (0, u "java/lang/Object")] 2

/-- java/lang/Cloneable -/
def k9 : Class := { plain "java/lang/Cloneable" (some 0) with
  accessFlags := 1537
  interfaces := #[]
  cf := some (fileOf pool9 1 #[] #[] 1537 3 #[] #[])
  fields := #[]
  methods := #[]
  instanceTypes := #[]
  staticTypes := #[]
  resolved := Array.replicate 7 none
  statics := none }

def pool10 : Array CpInfo := pool [(1, .class_ 2), (0, u "java/io/Serializable"), (0, .class_ 4), (0, u "java/lang/Object")] 2

/-- java/io/Serializable -/
def k10 : Class := { plain "java/io/Serializable" (some 0) with
  accessFlags := 1537
  interfaces := #[]
  cf := some (fileOf pool10 1 #[] #[] 1537 3 #[] #[])
  fields := #[]
  methods := #[]
  instanceTypes := #[]
  staticTypes := #[]
  resolved := Array.replicate 7 none
  statics := none }

def pool11 : Array CpInfo := pool [(1, .methodref 2 3), (0, .class_ 4), (0, .nameAndType 5 6), (0, u "java/util/AbstractList"), (0, u "<init>"), (0, u "()V"), (0, .class_ 8), (0, u "java/lang/Object"), (0, .fieldref 10 11), (0, .class_ 12), (0, .nameAndType 13 14), (0, u "java/util/ArrayList"), (0, u "elementData"), (0, u "[Ljava/lang/Object;"), (2, u "EMPTY_ELEMENTDATA"), (21, .fieldref 10 40), (0, .nameAndType 41 14), (0, u "DEFAULTCAPACITY_EMPTY_ELEMENTDATA"), (4, u "toArray"), (0, u "()[Ljava/lang/Object;"), (0, .fieldref 10 49), (0, .nameAndType 50 51), (0, u "size"), (0, u "I"), (6, .class_ 60), (1, u "java/util/Arrays"), (0, u "copyOf"), (1, .fieldref 10 64), (0, .nameAndType 65 51), (0, u "modCount"), (0, .methodref 58 67), (0, .nameAndType 61 68), (0, u "([Ljava/lang/Object;I)[Ljava/lang/Object;"), (0, .methodref 10 70), (0, .nameAndType 71 72), (0, u "grow"), (0, u "(I)[Ljava/lang/Object;"), (6, .methodref 80 81), (0, .class_ 82), (0, .nameAndType 83 84), (0, u "java/lang/Math"), (0, u "max"), (0, u "(II)I"), (11, u "(Ljava/lang/Object;)Z"), (32, .methodref 10 130), (0, .nameAndType 71 47), (0, .methodref 10 132), (0, .nameAndType 133 134), (0, u "add"), (0, u "(Ljava/lang/Object;[Ljava/lang/Object;I)V"), (13, .class_ 149), (0, u "java/util/List"), (23, u "()Z"), (88, .class_ 263), (0, u "java/util/ArrayList$ListItr"), (3, .class_ 268), (0, u "java/util/ArrayList$Itr"), (7, .class_ 277), (0, u "java/util/ArrayList$SubList"), (12, .class_ 291), (0, u "java/util/ArrayList$ArrayListSpliterator"), (37, .class_ 330), (0, u "java/util/RandomAccess"), (0, .class_ 332), (0, u "java/lang/Cloneable"), (0, .class_ 334), (0, u "java/io/Serializable"), (0, u "serialVersionUID"), (0, u "J"), (3, u "DEFAULT_CAPACITY"), (22, u "isEmpty"), (136, .class_ 501), (0, u "java/util/ArrayList$SubList$2"), (0, .class_ 503), (0, u "java/util/ArrayList$SubList$1")] 5

def k11c0 : Code := { maxStack := 2, maxLocals := 1, code := jdk_38_method_2_code, exceptionTable := #[], attributes := #[] }
def k11m0 : Method := { name := "<init>", desc := "()V", sig := { parameters := [], returnType := none }, accessFlags := 1, code := some k11c0 }
def k11c1 : Code := { maxStack := 4, maxLocals := 4, code := jdk_38_method_6_code, exceptionTable := #[], attributes := #[] }
def k11m1 : Method := { name := "grow", desc := "(I)[Ljava/lang/Object;", sig := { parameters := [.int], returnType := some (.array (.object "java/lang/Object")) }, accessFlags := 2, code := some k11c1 }
def k11c2 : Code := { maxStack := 3, maxLocals := 1, code := jdk_38_method_7_code, exceptionTable := #[], attributes := #[] }
def k11m2 : Method := { name := "grow", desc := "()[Ljava/lang/Object;", sig := { parameters := [], returnType := some (.array (.object "java/lang/Object")) }, accessFlags := 2, code := some k11c2 }
def k11c3 : Code := { maxStack := 1, maxLocals := 1, code := jdk_38_method_9_code, exceptionTable := #[], attributes := #[] }
def k11m3 : Method := { name := "isEmpty", desc := "()Z", sig := { parameters := [], returnType := some .boolean }, accessFlags := 1, code := some k11c3 }
def k11c4 : Code := { maxStack := 2, maxLocals := 1, code := jdk_38_method_16_code, exceptionTable := #[], attributes := #[] }
def k11m4 : Method := { name := "toArray", desc := "()[Ljava/lang/Object;", sig := { parameters := [], returnType := some (.array (.object "java/lang/Object")) }, accessFlags := 1, code := some k11c4 }
def k11c5 : Code := { maxStack := 3, maxLocals := 4, code := jdk_38_method_24_code, exceptionTable := #[], attributes := #[] }
def k11m5 : Method := { name := "add", desc := "(Ljava/lang/Object;[Ljava/lang/Object;I)V", sig := { parameters := [(.object "java/lang/Object"), (.array (.object "java/lang/Object")), .int], returnType := none }, accessFlags := 2, code := some k11c5 }
def k11c6 : Code := { maxStack := 4, maxLocals := 2, code := jdk_38_method_25_code, exceptionTable := #[], attributes := #[] }
def k11m6 : Method := { name := "add", desc := "(Ljava/lang/Object;)Z", sig := { parameters := [(.object "java/lang/Object")], returnType := some .boolean }, accessFlags := 1, code := some k11c6 }
/-- java/util/ArrayList -/
def k11 : Class := { plain "java/util/ArrayList" (some 7) with
  accessFlags := 33
  interfaces := #[6, 8, 9, 10]
  cf := some (fileOf pool11 10 #[.nestMembers #[290, 276, 500, 502, 262, 267]] #[{ accessFlags := 1, nameIndex := 5, descriptorIndex := 6, attributes := #[] }, { accessFlags := 2, nameIndex := 71, descriptorIndex := 72, attributes := #[] }, { accessFlags := 2, nameIndex := 71, descriptorIndex := 47, attributes := #[] }, { accessFlags := 1, nameIndex := 363, descriptorIndex := 173, attributes := #[] }, { accessFlags := 1, nameIndex := 46, descriptorIndex := 47, attributes := #[] }, { accessFlags := 2, nameIndex := 133, descriptorIndex := 134, attributes := #[] }, { accessFlags := 1, nameIndex := 133, descriptorIndex := 96, attributes := #[] }] 33 2 #[148, 329, 331, 333] #[{ accessFlags := 26, nameIndex := 335, descriptorIndex := 336, attributes := #[] }, { accessFlags := 26, nameIndex := 340, descriptorIndex := 51, attributes := #[] }, { accessFlags := 26, nameIndex := 17, descriptorIndex := 14, attributes := #[] }, { accessFlags := 26, nameIndex := 41, descriptorIndex := 14, attributes := #[] }, { accessFlags := 128, nameIndex := 13, descriptorIndex := 14, attributes := #[] }, { accessFlags := 2, nameIndex := 50, descriptorIndex := 51, attributes := #[] }])
  fields := #[{ name := "serialVersionUID", type := .long, accessFlags := 26, slot := 0, constantValue := 0 }, { name := "DEFAULT_CAPACITY", type := .int, accessFlags := 26, slot := 1, constantValue := 0 }, { name := "EMPTY_ELEMENTDATA", type := (.array (.object "java/lang/Object")), accessFlags := 26, slot := 2, constantValue := 0 }, { name := "DEFAULTCAPACITY_EMPTY_ELEMENTDATA", type := (.array (.object "java/lang/Object")), accessFlags := 26, slot := 3, constantValue := 0 }, { name := "elementData", type := (.array (.object "java/lang/Object")), accessFlags := 128, slot := 1, constantValue := 0 }, { name := "size", type := .int, accessFlags := 2, slot := 2, constantValue := 0 }]
  methods := #[k11m0, k11m1, k11m2, k11m3, k11m4, k11m5, k11m6]
  instanceTypes := #[.int, (.array (.object "java/lang/Object")), .int]
  staticTypes := #[.long, .int, (.array (.object "java/lang/Object")), (.array (.object "java/lang/Object"))]
  resolved := Array.replicate 509 none
  statics := some 0 }

def pool12 : Array CpInfo := pool [(1, .class_ 2), (0, u "java/lang/Comparable"), (0, .class_ 4), (0, u "java/lang/Object")] 7

/-- java/lang/Comparable -/
def k12 : Class := { plain "java/lang/Comparable" (some 0) with
  accessFlags := 1537
  interfaces := #[]
  cf := some (fileOf pool12 1 #[] #[] 1537 3 #[] #[])
  fields := #[]
  methods := #[]
  instanceTypes := #[]
  staticTypes := #[]
  resolved := Array.replicate 12 none
  statics := none }

def pool13 : Array CpInfo := pool [(2, .class_ 4), (1, u "java/lang/CharSequence"), (42, .class_ 48), (0, u "java/lang/CharSequence$1CodePointIterator"), (10, .class_ 60), (0, u "java/lang/CharSequence$1CharIterator"), (5, .class_ 67), (0, u "java/lang/Object")] 63

/-- java/lang/CharSequence -/
def k13 : Class := { plain "java/lang/CharSequence" (some 0) with
  accessFlags := 1537
  interfaces := #[]
  cf := some (fileOf pool13 2 #[.nestMembers #[47, 59]] #[] 1537 66 #[] #[])
  fields := #[]
  methods := #[]
  instanceTypes := #[]
  staticTypes := #[]
  resolved := Array.replicate 131 none
  statics := none }

def pool14 : Array CpInfo := pool [(1, .class_ 2), (0, u "java/lang/constant/Constable"), (0, .class_ 4), (0, u "java/lang/Object")] 6

/-- java/lang/constant/Constable -/
def k14 : Class := { plain "java/lang/constant/Constable" (some 0) with
  accessFlags := 1537
  interfaces := #[]
  cf := some (fileOf pool14 1 #[] #[] 1537 3 #[] #[])
  fields := #[]
  methods := #[]
  instanceTypes := #[]
  staticTypes := #[]
  resolved := Array.replicate 11 none
  statics := none }

def pool15 : Array CpInfo := pool [(1, .class_ 2), (0, u "java/lang/constant/ConstantDesc"), (0, .class_ 4), (0, u "java/lang/Object")] 32

/-- java/lang/constant/ConstantDesc -/
def k15 : Class := { plain "java/lang/constant/ConstantDesc" (some 0) with
  accessFlags := 1537
  interfaces := #[]
  cf := some (fileOf pool15 1 #[] #[] 1537 3 #[] #[])
  fields := #[]
  methods := #[]
  instanceTypes := #[]
  staticTypes := #[]
  resolved := Array.replicate 37 none
  statics := none }

def pool16 : Array CpInfo := pool [(1, .methodref 2 3), (0, .class_ 4), (0, .nameAndType 5 6), (0, u "java/lang/Object"), (0, u "<init>"), (0, u "()V"), (0, .string 8), (0, u ""), (0, .fieldref 10 11), (0, .class_ 12), (0, .nameAndType 13 14), (0, u "java/lang/String"), (0, u "value"), (0, u "[B"), (0, .fieldref 10 16), (0, .nameAndType 17 18), (0, u "coder"), (0, u "B"), (2, u "hash"), (0, u "I"), (2, u "hashIsZero"), (0, u "Z"), (0, .methodref 10 28), (0, .nameAndType 5 29), (0, u "([CIILjava/lang/Void;)V"), (8, .fieldref 10 39), (0, .nameAndType 40 26), (0, u "COMPACT_STRINGS"), (1, .class_ 44), (1, u "java/lang/StringUTF16"), (0, u "compress"), (1, .methodref 42 48), (0, .nameAndType 49 50), (0, u "coderFromArrayLen"), (0, u "([BI)B"), (56, .class_ 109), (1, u "java/lang/StringLatin1"), (67, .methodref 42 178), (0, .nameAndType 45 179), (0, u "([CII)[B"), (361, .methodref 107 542), (0, .nameAndType 543 544), (0, u "equals"), (0, u "([B[B)Z"), (28, u "(Ljava/lang/Object;)Z"), (1, .class_ 576), (0, u "java/lang/CharSequence"), (22, u "CASE_INSENSITIVE_ORDER"), (0, u "Ljava/util/Comparator;"), (409, u "([C)V"), (90, u "serialPersistentFields"), (0, u "[Ljava/io/ObjectStreamField;"), (0, .class_ 1104), (0, u "java/lang/String$CaseInsensitiveComparator"), (1, .class_ 1107), (0, u "java/io/Serializable"), (0, .class_ 1109), (0, u "java/lang/Comparable"), (0, .class_ 1111), (0, u "java/lang/constant/Constable"), (0, .class_ 1113), (0, u "java/lang/constant/ConstantDesc"), (2, u "serialVersionUID"), (0, u "J"), (3, u "REPL"), (0, u "C"), (2, u "LATIN1"), (1, u "UTF16")] 323

def k16m0 : Method := { name := "<init>", desc := "()V", sig := { parameters := [], returnType := none }, accessFlags := 1, code := none }
def k16c1 : Code := { maxStack := 5, maxLocals := 2, code := jdk_42_method_3_code, exceptionTable := #[], attributes := #[] }
def k16m1 : Method := { name := "<init>", desc := "([C)V", sig := { parameters := [(.array .char)], returnType := none }, accessFlags := 1, code := some k16c1 }
def k16c2 : Code := { maxStack := 2, maxLocals := 3, code := jdk_42_method_66_code, exceptionTable := #[], attributes := #[] }
def k16m2 : Method := { name := "equals", desc := "(Ljava/lang/Object;)Z", sig := { parameters := [(.object "java/lang/Object")], returnType := some .boolean }, accessFlags := 1, code := some k16c2 }
def k16c3 : Code := { maxStack := 4, maxLocals := 6, code := jdk_42_method_149_code, exceptionTable := #[], attributes := #[] }
def k16m3 : Method := { name := "<init>", desc := "([CIILjava/lang/Void;)V", sig := { parameters := [(.array .char), .int, .int, (.object "java/lang/Void")], returnType := none }, accessFlags := 2, code := some k16c3 }
/-- java/lang/String -/
def k16 : Class := { plain "java/lang/String" (some 0) with
  accessFlags := 49
  interfaces := #[10, 12, 13, 14, 15]
  cf := some (fileOf pool16 10 #[.nestMembers #[1103]] #[{ accessFlags := 1, nameIndex := 5, descriptorIndex := 6, attributes := #[] }, { accessFlags := 1, nameIndex := 5, descriptorIndex := 1010, attributes := #[] }, { accessFlags := 1, nameIndex := 543, descriptorIndex := 573, attributes := #[] }, { accessFlags := 2, nameIndex := 5, descriptorIndex := 29, attributes := #[] }] 49 2 #[1106, 1108, 575, 1110, 1112] #[{ accessFlags := 18, nameIndex := 13, descriptorIndex := 14, attributes := #[] }, { accessFlags := 18, nameIndex := 17, descriptorIndex := 18, attributes := #[] }, { accessFlags := 2, nameIndex := 21, descriptorIndex := 22, attributes := #[] }, { accessFlags := 2, nameIndex := 25, descriptorIndex := 26, attributes := #[] }, { accessFlags := 26, nameIndex := 1116, descriptorIndex := 1117, attributes := #[] }, { accessFlags := 24, nameIndex := 40, descriptorIndex := 26, attributes := #[] }, { accessFlags := 26, nameIndex := 1101, descriptorIndex := 1102, attributes := #[] }, { accessFlags := 26, nameIndex := 1121, descriptorIndex := 1122, attributes := #[] }, { accessFlags := 25, nameIndex := 599, descriptorIndex := 600, attributes := #[] }, { accessFlags := 24, nameIndex := 1125, descriptorIndex := 18, attributes := #[] }, { accessFlags := 24, nameIndex := 1127, descriptorIndex := 18, attributes := #[] }])
  fields := #[{ name := "value", type := (.array .byte), accessFlags := 18, slot := 0, constantValue := 0 }, { name := "coder", type := .byte, accessFlags := 18, slot := 1, constantValue := 0 }, { name := "hash", type := .int, accessFlags := 2, slot := 2, constantValue := 0 }, { name := "hashIsZero", type := .boolean, accessFlags := 2, slot := 3, constantValue := 0 }, { name := "serialVersionUID", type := .long, accessFlags := 26, slot := 0, constantValue := 0 }, { name := "COMPACT_STRINGS", type := .boolean, accessFlags := 24, slot := 1, constantValue := 0 }, { name := "serialPersistentFields", type := (.array (.object "java/io/ObjectStreamField")), accessFlags := 26, slot := 2, constantValue := 0 }, { name := "REPL", type := .char, accessFlags := 26, slot := 3, constantValue := 0 }, { name := "CASE_INSENSITIVE_ORDER", type := (.object "java/util/Comparator"), accessFlags := 25, slot := 4, constantValue := 0 }, { name := "LATIN1", type := .byte, accessFlags := 24, slot := 5, constantValue := 0 }, { name := "UTF16", type := .byte, accessFlags := 24, slot := 6, constantValue := 0 }]
  methods := #[k16m0, k16m1, k16m2, k16m3]
  instanceTypes := #[(.array .byte), .byte, .int, .boolean]
  staticTypes := #[.long, .boolean, (.array (.object "java/io/ObjectStreamField")), .char, (.object "java/util/Comparator"), .byte, .byte]
  resolved := Array.replicate 1451 none
  statics := some 1 }

def pool17 : Array CpInfo := pool [(1, .methodref 2 3), (0, .class_ 4), (0, .nameAndType 5 6), (0, u "java/lang/Object"), (0, u "<init>"), (0, u "()V"), (0, .fieldref 8 9), (0, .class_ 10), (0, .nameAndType 11 12), (0, u "com/example/raccordo/raccordo/flow/XmlElement"), (0, u "name"), (0, u "Ljava/lang/String;"), (0, .interfaceMethodref 14 15), (0, .class_ 16), (0, .nameAndType 17 18), (0, u "java/util/List"), (0, u "copyOf"), (0, u "(Ljava/util/Collection;)Ljava/util/List;"), (0, .fieldref 8 20), (0, .nameAndType 21 22), (0, u "attributes"), (0, u "Ljava/util/List;"), (0, .methodref 24 25), (0, .class_ 26), (0, .nameAndType 27 28), (0, u "[I"), (0, u "clone"), (0, u "()Ljava/lang/Object;"), (0, .fieldref 8 30), (0, .nameAndType 31 26), (0, u "attributeIndexes"), (0, .fieldref 8 33), (0, .nameAndType 34 35), (0, u "textIndex"), (0, u "I"), (0, .fieldref 8 37), (0, .nameAndType 38 22), (0, u "children"), (4, .class_ 44), (0, u "java/lang/String"), (0, .methodref 43 46), (0, .nameAndType 47 48), (0, u "equals"), (0, u "(Ljava/lang/Object;)Z"), (3, u "(Ljava/lang/String;Ljava/util/List;[IILjava/util/List;)V"), (12, u "sameAttributes"), (0, u "([Ljava/lang/String;[Ljava/lang/String;)Z")] 3

def k17c0 : Code := { maxStack := 2, maxLocals := 6, code := prog_37_method_1_code, exceptionTable := #[], attributes := #[] }
def k17m0 : Method := { name := "<init>", desc := "(Ljava/lang/String;Ljava/util/List;[IILjava/util/List;)V", sig := { parameters := [(.object "java/lang/String"), (.object "java/util/List"), (.array .int), .int, (.object "java/util/List")], returnType := none }, accessFlags := 0, code := some k17c0 }
def k17c1 : Code := { maxStack := 3, maxLocals := 7, code := prog_37_method_8_code, exceptionTable := #[], attributes := #[] }
def k17m1 : Method := { name := "sameAttributes", desc := "([Ljava/lang/String;[Ljava/lang/String;)Z", sig := { parameters := [(.array (.object "java/lang/String")), (.array (.object "java/lang/String"))], returnType := some .boolean }, accessFlags := 0, code := some k17c1 }
/-- com/example/raccordo/raccordo/flow/XmlElement -/
def k17 : Class := { plain "com/example/raccordo/raccordo/flow/XmlElement" (some 0) with
  accessFlags := 48
  interfaces := #[]
  cf := some (fileOf pool17 8 #[] #[{ accessFlags := 0, nameIndex := 5, descriptorIndex := 52, attributes := #[] }, { accessFlags := 0, nameIndex := 65, descriptorIndex := 66, attributes := #[] }] 48 2 #[] #[{ accessFlags := 18, nameIndex := 11, descriptorIndex := 12, attributes := #[] }, { accessFlags := 18, nameIndex := 21, descriptorIndex := 22, attributes := #[] }, { accessFlags := 18, nameIndex := 31, descriptorIndex := 26, attributes := #[] }, { accessFlags := 18, nameIndex := 34, descriptorIndex := 35, attributes := #[] }, { accessFlags := 18, nameIndex := 38, descriptorIndex := 22, attributes := #[] }])
  fields := #[{ name := "name", type := (.object "java/lang/String"), accessFlags := 18, slot := 0, constantValue := 0 }, { name := "attributes", type := (.object "java/util/List"), accessFlags := 18, slot := 1, constantValue := 0 }, { name := "attributeIndexes", type := (.array .int), accessFlags := 18, slot := 2, constantValue := 0 }, { name := "textIndex", type := .int, accessFlags := 18, slot := 3, constantValue := 0 }, { name := "children", type := (.object "java/util/List"), accessFlags := 18, slot := 4, constantValue := 0 }]
  methods := #[k17m0, k17m1]
  instanceTypes := #[(.object "java/lang/String"), (.object "java/util/List"), (.array .int), .int, (.object "java/util/List")]
  staticTypes := #[]
  resolved := Array.replicate 70 none
  statics := none }

def pool18 : Array CpInfo := pool [(2, .class_ 4), (1, u "java/lang/Object"), (0, u "<init>"), (0, u "()V"), (3, .class_ 11), (0, u "java/util/ImmutableCollections$List12"), (0, .class_ 13), (0, u "java/util/ImmutableCollections$ListN"), (3, u "Z"), (0, .class_ 19), (0, u "java/util/List"), (0, .interfaceMethodref 21 22), (0, .class_ 23), (0, .nameAndType 24 25), (0, u "java/util/Collection"), (0, u "isEmpty"), (0, u "()Z"), (0, .interfaceMethodref 18 27), (0, .nameAndType 28 29), (0, u "of"), (0, u "()Ljava/util/List;"), (0, .interfaceMethodref 21 31), (0, .nameAndType 32 33), (0, u "toArray"), (0, u "()[Ljava/lang/Object;"), (0, .interfaceMethodref 18 35), (0, .nameAndType 28 36), (0, u "([Ljava/lang/Object;)Ljava/util/List;"), (0, .methodref 38 39), (0, .class_ 40), (0, .nameAndType 41 42), (0, u "java/util/Objects"), (0, u "requireNonNull"), (0, u "(Ljava/lang/Object;)Ljava/lang/Object;"), (0, .methodref 12 44), (0, .nameAndType 5 45), (0, u "([Ljava/lang/Object;Z)V"), (1, .class_ 49), (1, u "java/util/ImmutableCollections"), (0, u "$assertionsDisabled"), (5, u "[Ljava/lang/Object;"), (5, u "EMPTY_LIST"), (0, u "Ljava/util/ImmutableCollections$ListN;"), (8, u "EMPTY_LIST_NULLS"), (22, u "SALT32L"), (0, u "J"), (2, u "REVERSE"), (6, u "archivedObjects"), (2, u "EMPTY"), (0, u "Ljava/lang/Object;"), (0, .class_ 112), (0, u "java/util/ImmutableCollections$SetN"), (5, u "EMPTY_SET"), (0, u "Ljava/util/ImmutableCollections$SetN;"), (0, .class_ 121), (0, u "java/util/ImmutableCollections$MapN"), (3, u "EMPTY_MAP"), (0, u "Ljava/util/ImmutableCollections$MapN;"), (4, u "EXPAND_FACTOR"), (0, u "I"), (9, u "listCopy"), (0, u "(Ljava/util/Collection;)Ljava/util/List;"), (7, u "listFromArray"), (17, .class_ 170), (0, u "java/util/ImmutableCollections$MapN$MapNIterator"), (0, .class_ 172), (0, u "java/util/ImmutableCollections$MapN$1"), (0, .class_ 174), (0, u "java/util/ImmutableCollections$Map1"), (0, .class_ 176), (0, u "java/util/ImmutableCollections$AbstractImmutableMap"), (0, .class_ 178), (0, u "java/util/ImmutableCollections$SetN$SetNIterator"), (0, .class_ 180), (0, u "java/util/ImmutableCollections$Set12"), (0, .class_ 182), (0, u "java/util/ImmutableCollections$Set12$1"), (0, .class_ 184), (0, u "java/util/ImmutableCollections$AbstractImmutableSet"), (0, .class_ 186), (0, u "java/util/ImmutableCollections$SubList"), (0, .class_ 188), (0, u "java/util/ImmutableCollections$ListItr"), (0, .class_ 190), (0, u "java/util/ImmutableCollections$AbstractImmutableList"), (0, .class_ 192), (0, u "java/util/ImmutableCollections$AbstractImmutableCollection"), (0, .class_ 194), (0, u "java/util/ImmutableCollections$Access"), (0, .class_ 196), (0, u "java/util/ImmutableCollections$Access$1")] 16

def k18m0 : Method := { name := "<init>", desc := "()V", sig := { parameters := [], returnType := none }, accessFlags := 2, code := none }
def k18c1 : Code := { maxStack := 1, maxLocals := 2, code := jdk_56_method_3_code, exceptionTable := #[], attributes := #[] }
def k18m1 : Method := { name := "listCopy", desc := "(Ljava/util/Collection;)Ljava/util/List;", sig := { parameters := [(.object "java/util/Collection")], returnType := some (.object "java/util/List") }, accessFlags := 8, code := some k18c1 }
def k18c2 : Code := { maxStack := 4, maxLocals := 3, code := jdk_56_method_4_code, exceptionTable := #[], attributes := #[] }
def k18m2 : Method := { name := "listFromArray", desc := "([Ljava/lang/Object;)Ljava/util/List;", sig := { parameters := [(.array (.object "java/lang/Object"))], returnType := some (.object "java/util/List") }, accessFlags := 136, code := some k18c2 }
/-- java/util/ImmutableCollections -/
def k18 : Class := { plain "java/util/ImmutableCollections" (some 0) with
  accessFlags := 32
  interfaces := #[]
  cf := some (fileOf pool18 47 #[.nestMembers #[120, 169, 171, 173, 175, 111, 177, 179, 181, 183, 12, 10, 185, 187, 189, 191, 193, 195]] #[{ accessFlags := 2, nameIndex := 5, descriptorIndex := 6, attributes := #[] }, { accessFlags := 8, nameIndex := 142, descriptorIndex := 143, attributes := #[] }, { accessFlags := 136, nameIndex := 151, descriptorIndex := 36, attributes := #[] }] 32 2 #[] #[{ accessFlags := 26, nameIndex := 95, descriptorIndex := 96, attributes := #[] }, { accessFlags := 26, nameIndex := 99, descriptorIndex := 17, attributes := #[] }, { accessFlags := 10, nameIndex := 106, descriptorIndex := 56, attributes := #[] }, { accessFlags := 26, nameIndex := 109, descriptorIndex := 110, attributes := #[] }, { accessFlags := 24, nameIndex := 62, descriptorIndex := 63, attributes := #[] }, { accessFlags := 24, nameIndex := 72, descriptorIndex := 63, attributes := #[] }, { accessFlags := 24, nameIndex := 118, descriptorIndex := 119, attributes := #[] }, { accessFlags := 24, nameIndex := 125, descriptorIndex := 126, attributes := #[] }, { accessFlags := 24, nameIndex := 131, descriptorIndex := 132, attributes := #[] }, { accessFlags := 4120, nameIndex := 50, descriptorIndex := 17, attributes := #[] }])
  fields := #[{ name := "SALT32L", type := .long, accessFlags := 26, slot := 0, constantValue := 0 }, { name := "REVERSE", type := .boolean, accessFlags := 26, slot := 1, constantValue := 0 }, { name := "archivedObjects", type := (.array (.object "java/lang/Object")), accessFlags := 10, slot := 2, constantValue := 0 }, { name := "EMPTY", type := (.object "java/lang/Object"), accessFlags := 26, slot := 3, constantValue := 0 }, { name := "EMPTY_LIST", type := (.object "java/util/ImmutableCollections$ListN"), accessFlags := 24, slot := 4, constantValue := 0 }, { name := "EMPTY_LIST_NULLS", type := (.object "java/util/ImmutableCollections$ListN"), accessFlags := 24, slot := 5, constantValue := 0 }, { name := "EMPTY_SET", type := (.object "java/util/ImmutableCollections$SetN"), accessFlags := 24, slot := 6, constantValue := 0 }, { name := "EMPTY_MAP", type := (.object "java/util/ImmutableCollections$MapN"), accessFlags := 24, slot := 7, constantValue := 0 }, { name := "EXPAND_FACTOR", type := .int, accessFlags := 24, slot := 8, constantValue := 0 }, { name := "$assertionsDisabled", type := .boolean, accessFlags := 4120, slot := 9, constantValue := 0 }]
  methods := #[k18m0, k18m1, k18m2]
  instanceTypes := #[]
  staticTypes := #[.long, .boolean, (.array (.object "java/lang/Object")), (.object "java/lang/Object"), (.object "java/util/ImmutableCollections$ListN"), (.object "java/util/ImmutableCollections$ListN"), (.object "java/util/ImmutableCollections$SetN"), (.object "java/util/ImmutableCollections$MapN"), .int, .boolean]
  resolved := Array.replicate 213 none
  statics := some 2 }

def pool19 : Array CpInfo := pool [(1, .methodref 2 3), (0, .class_ 4), (0, .nameAndType 5 6), (0, u "java/util/AbstractCollection"), (0, u "<init>"), (0, u "()V"), (1, .class_ 10), (1, u "java/util/ImmutableCollections"), (2, .class_ 14), (0, u "java/util/ImmutableCollections$AbstractImmutableCollection")] 41

def k19c0 : Code := { maxStack := 1, maxLocals := 1, code := jdk_47_method_1_code, exceptionTable := #[], attributes := #[] }
def k19m0 : Method := { name := "<init>", desc := "()V", sig := { parameters := [], returnType := none }, accessFlags := 0, code := some k19c0 }
/-- java/util/ImmutableCollections$AbstractImmutableCollection -/
def k19 : Class := { plain "java/util/ImmutableCollections$AbstractImmutableCollection" (some 4) with
  accessFlags := 1056
  interfaces := #[]
  cf := some (fileOf pool19 13 #[.nestHost 8] #[{ accessFlags := 0, nameIndex := 5, descriptorIndex := 6, attributes := #[] }] 1056 2 #[] #[])
  fields := #[]
  methods := #[k19m0]
  instanceTypes := #[]
  staticTypes := #[]
  resolved := Array.replicate 56 none
  statics := none }

def pool20 : Array CpInfo := pool [(1, .methodref 2 3), (0, .class_ 4), (0, .nameAndType 5 6), (0, u "java/util/ImmutableCollections$AbstractImmutableCollection"), (0, u "<init>"), (0, u "()V"), (1, .class_ 10), (1, u "java/util/ImmutableCollections"), (3, .class_ 16), (1, u "java/util/ImmutableCollections$AbstractImmutableList"), (60, .class_ 78), (0, u "java/util/List"), (45, .class_ 125), (0, u "java/util/RandomAccess")] 70

def k20c0 : Code := { maxStack := 1, maxLocals := 1, code := jdk_46_method_1_code, exceptionTable := #[], attributes := #[] }
def k20m0 : Method := { name := "<init>", desc := "()V", sig := { parameters := [], returnType := none }, accessFlags := 0, code := some k20c0 }
/-- java/util/ImmutableCollections$AbstractImmutableList -/
def k20 : Class := { plain "java/util/ImmutableCollections$AbstractImmutableList" (some 19) with
  accessFlags := 1056
  interfaces := #[6, 8]
  cf := some (fileOf pool20 14 #[.nestHost 8] #[{ accessFlags := 0, nameIndex := 5, descriptorIndex := 6, attributes := #[] }] 1056 2 #[77, 124] #[])
  fields := #[]
  methods := #[k20m0]
  instanceTypes := #[]
  staticTypes := #[]
  resolved := Array.replicate 196 none
  statics := none }

def pool21 : Array CpInfo := pool [(1, .methodref 2 3), (0, .class_ 4), (0, .nameAndType 5 6), (0, u "java/util/ImmutableCollections$AbstractImmutableList"), (0, u "<init>"), (0, u "()V"), (0, .methodref 8 9), (0, .class_ 10), (0, .nameAndType 11 12), (0, u "java/util/Objects"), (0, u "requireNonNull"), (0, u "(Ljava/lang/Object;)Ljava/lang/Object;"), (0, .fieldref 14 15), (0, .class_ 16), (0, .nameAndType 17 18), (0, u "java/util/ImmutableCollections$List12"), (0, u "e0"), (0, u "Ljava/lang/Object;"), (0, .fieldref 20 21), (0, .class_ 22), (0, .nameAndType 23 18), (0, u "java/util/ImmutableCollections"), (0, u "EMPTY"), (0, .fieldref 14 25), (0, .nameAndType 26 18), (0, u "e1"), (43, .class_ 71), (0, u "java/io/Serializable"), (4, u "(Ljava/lang/Object;)V"), (8, u "(Ljava/lang/Object;Ljava/lang/Object;)V")] 39

def k21c0 : Code := { maxStack := 2, maxLocals := 2, code := jdk_44_method_1_code, exceptionTable := #[], attributes := #[] }
def k21m0 : Method := { name := "<init>", desc := "(Ljava/lang/Object;)V", sig := { parameters := [(.object "java/lang/Object")], returnType := none }, accessFlags := 0, code := some k21c0 }
def k21c1 : Code := { maxStack := 2, maxLocals := 3, code := jdk_44_method_2_code, exceptionTable := #[], attributes := #[] }
def k21m1 : Method := { name := "<init>", desc := "(Ljava/lang/Object;Ljava/lang/Object;)V", sig := { parameters := [(.object "java/lang/Object"), (.object "java/lang/Object")], returnType := none }, accessFlags := 0, code := some k21c1 }
/-- java/util/ImmutableCollections$List12 -/
def k21 : Class := { plain "java/util/ImmutableCollections$List12" (some 20) with
  accessFlags := 48
  interfaces := #[10]
  cf := some (fileOf pool21 14 #[.nestHost 20] #[{ accessFlags := 0, nameIndex := 5, descriptorIndex := 76, attributes := #[] }, { accessFlags := 0, nameIndex := 5, descriptorIndex := 85, attributes := #[] }] 48 2 #[70] #[{ accessFlags := 18, nameIndex := 17, descriptorIndex := 18, attributes := #[] }, { accessFlags := 18, nameIndex := 26, descriptorIndex := 18, attributes := #[] }])
  fields := #[{ name := "e0", type := (.object "java/lang/Object"), accessFlags := 18, slot := 0, constantValue := 0 }, { name := "e1", type := (.object "java/lang/Object"), accessFlags := 18, slot := 1, constantValue := 0 }]
  methods := #[k21m0, k21m1]
  instanceTypes := #[(.object "java/lang/Object"), (.object "java/lang/Object")]
  staticTypes := #[]
  resolved := Array.replicate 125 none
  statics := none }

def pool22 : Array CpInfo := pool [(1, .methodref 2 3), (0, .class_ 4), (0, .nameAndType 5 6), (0, u "java/util/ImmutableCollections$AbstractImmutableList"), (0, u "<init>"), (0, u "()V"), (0, .fieldref 8 9), (0, .class_ 10), (0, .nameAndType 11 12), (0, u "java/util/ImmutableCollections$ListN"), (0, u "elements"), (0, u "[Ljava/lang/Object;"), (0, .fieldref 8 14), (0, .nameAndType 15 16), (0, u "allowNulls"), (0, u "Z"), (42, .class_ 60), (0, u "java/io/Serializable"), (4, u "([Ljava/lang/Object;Z)V"), (48, .class_ 115), (0, u "java/util/ImmutableCollections")] 3

def k22c0 : Code := { maxStack := 2, maxLocals := 3, code := jdk_45_method_1_code, exceptionTable := #[], attributes := #[] }
def k22m0 : Method := { name := "<init>", desc := "([Ljava/lang/Object;Z)V", sig := { parameters := [(.array (.object "java/lang/Object")), .boolean], returnType := none }, accessFlags := 2, code := some k22c0 }
/-- java/util/ImmutableCollections$ListN -/
def k22 : Class := { plain "java/util/ImmutableCollections$ListN" (some 20) with
  accessFlags := 48
  interfaces := #[10]
  cf := some (fileOf pool22 8 #[.nestHost 114] #[{ accessFlags := 2, nameIndex := 5, descriptorIndex := 65, attributes := #[] }] 48 2 #[59] #[{ accessFlags := 18, nameIndex := 11, descriptorIndex := 12, attributes := #[] }, { accessFlags := 18, nameIndex := 15, descriptorIndex := 16, attributes := #[] }])
  fields := #[{ name := "elements", type := (.array (.object "java/lang/Object")), accessFlags := 18, slot := 0, constantValue := 0 }, { name := "allowNulls", type := .boolean, accessFlags := 18, slot := 1, constantValue := 0 }]
  methods := #[k22m0]
  instanceTypes := #[(.array (.object "java/lang/Object")), .boolean]
  staticTypes := #[]
  resolved := Array.replicate 119 none
  statics := none }

def pool23 : Array CpInfo := pool [(6, .class_ 8), (1, u "java/lang/Object"), (0, u "<init>"), (0, u "()V"), (1, .class_ 14), (1, u "java/lang/StringUTF16"), (31, u "$assertionsDisabled"), (0, u "Z"), (13, u "HI_BYTE_SHIFT"), (0, u "I"), (2, u "LO_BYTE_SHIFT"), (49, .methodref 12 116), (0, .nameAndType 117 118), (0, u "compress"), (0, u "([CI[BII)I"), (3, u "([CII)[B"), (138, u "coderFromArrayLen"), (0, u "([BI)B"), (106, .class_ 371), (1, u "java/lang/StringUTF16$LinesSpliterator"), (58, u "MAX_LENGTH"), (196, .class_ 628), (0, u "java/lang/StringUTF16$CodePointsSpliterator"), (0, .class_ 630), (0, u "java/lang/StringUTF16$CharsSpliterator")] 4

def k23m0 : Method := { name := "<init>", desc := "()V", sig := { parameters := [], returnType := none }, accessFlags := 0, code := none }
def k23c1 : Code := { maxStack := 2, maxLocals := 2, code := jdk_52_method_15_code, exceptionTable := #[], attributes := #[] }
def k23m1 : Method := { name := "coderFromArrayLen", desc := "([BI)B", sig := { parameters := [(.array .byte), .int], returnType := some .byte }, accessFlags := 8, code := some k23c1 }
def k23c2 : Code := { maxStack := 5, maxLocals := 6, code := jdk_52_method_16_code, exceptionTable := #[], attributes := #[] }
def k23m2 : Method := { name := "compress", desc := "([CII)[B", sig := { parameters := [(.array .char), .int, .int], returnType := some (.array .byte) }, accessFlags := 9, code := some k23c2 }
def k23c3 : Code := { maxStack := 3, maxLocals := 7, code := jdk_52_method_21_code, exceptionTable := #[], attributes := #[] }
def k23m3 : Method := { name := "compress", desc := "([CI[BII)I", sig := { parameters := [(.array .char), .int, (.array .byte), .int, .int], returnType := some .int }, accessFlags := 9, code := some k23c3 }
/-- java/lang/StringUTF16 -/
def k23 : Class := { plain "java/lang/StringUTF16" (some 0) with
  accessFlags := 48
  interfaces := #[]
  cf := some (fileOf pool23 12 #[.nestMembers #[627, 629, 369]] #[{ accessFlags := 0, nameIndex := 9, descriptorIndex := 10, attributes := #[] }, { accessFlags := 8, nameIndex := 261, descriptorIndex := 262, attributes := #[] }, { accessFlags := 9, nameIndex := 117, descriptorIndex := 122, attributes := #[] }, { accessFlags := 9, nameIndex := 117, descriptorIndex := 118, attributes := #[] }] 48 6 #[] #[{ accessFlags := 26, nameIndex := 61, descriptorIndex := 62, attributes := #[] }, { accessFlags := 26, nameIndex := 65, descriptorIndex := 62, attributes := #[] }, { accessFlags := 24, nameIndex := 430, descriptorIndex := 62, attributes := #[] }, { accessFlags := 4120, nameIndex := 46, descriptorIndex := 47, attributes := #[] }])
  fields := #[{ name := "HI_BYTE_SHIFT", type := .int, accessFlags := 26, slot := 0, constantValue := 0 }, { name := "LO_BYTE_SHIFT", type := .int, accessFlags := 26, slot := 1, constantValue := 0 }, { name := "MAX_LENGTH", type := .int, accessFlags := 24, slot := 2, constantValue := 0 }, { name := "$assertionsDisabled", type := .boolean, accessFlags := 4120, slot := 3, constantValue := 0 }]
  methods := #[k23m0, k23m1, k23m2, k23m3]
  instanceTypes := #[]
  staticTypes := #[.int, .int, .int, .boolean]
  resolved := Array.replicate 635 none
  statics := none }

def pool24 : Array CpInfo := pool [(1, .class_ 2), (0, u "java/lang/Math"), (1, .class_ 6), (1, u "java/lang/Object"), (0, u "<init>"), (0, u "()V"), (89, .class_ 100), (1, u "java/lang/Math$RandomNumberGeneratorHolder"), (71, u "negativeZeroFloatBits"), (0, u "J"), (2, u "negativeZeroDoubleBits"), (21, u "max"), (2, u "min"), (43, u "$assertionsDisabled"), (0, u "Z"), (88, u "(II)I"), (2, u "twoToTheDoubleScaleDown"), (0, u "D"), (4, u "twoToTheDoubleScaleUp"), (9, u "E"), (3, u "PI"), (2, u "TAU"), (2, u "DEGREES_TO_RADIANS"), (0, u "RADIANS_TO_DEGREES")] 94

def k24m0 : Method := { name := "<init>", desc := "()V", sig := { parameters := [], returnType := none }, accessFlags := 2, code := none }
def k24c1 : Code := { maxStack := 2, maxLocals := 2, code := jdk_29_method_65_code, exceptionTable := #[], attributes := #[] }
def k24m1 : Method := { name := "max", desc := "(II)I", sig := { parameters := [.int, .int], returnType := some .int }, accessFlags := 9, code := some k24c1 }
def k24c2 : Code := { maxStack := 2, maxLocals := 2, code := jdk_29_method_69_code, exceptionTable := #[], attributes := #[] }
def k24m2 : Method := { name := "min", desc := "(II)I", sig := { parameters := [.int, .int], returnType := some .int }, accessFlags := 9, code := some k24c2 }
/-- java/lang/Math -/
def k24 : Class := { plain "java/lang/Math" (some 0) with
  accessFlags := 49
  interfaces := #[]
  cf := some (fileOf pool24 1 #[.nestMembers #[98]] #[{ accessFlags := 2, nameIndex := 7, descriptorIndex := 8, attributes := #[] }, { accessFlags := 9, nameIndex := 198, descriptorIndex := 335, attributes := #[] }, { accessFlags := 9, nameIndex := 201, descriptorIndex := 335, attributes := #[] }] 49 4 #[] #[{ accessFlags := 25, nameIndex := 354, descriptorIndex := 339, attributes := #[] }, { accessFlags := 25, nameIndex := 358, descriptorIndex := 339, attributes := #[] }, { accessFlags := 25, nameIndex := 361, descriptorIndex := 339, attributes := #[] }, { accessFlags := 26, nameIndex := 364, descriptorIndex := 339, attributes := #[] }, { accessFlags := 26, nameIndex := 365, descriptorIndex := 339, attributes := #[] }, { accessFlags := 26, nameIndex := 172, descriptorIndex := 173, attributes := #[] }, { accessFlags := 26, nameIndex := 176, descriptorIndex := 173, attributes := #[] }, { accessFlags := 8, nameIndex := 344, descriptorIndex := 339, attributes := #[] }, { accessFlags := 8, nameIndex := 338, descriptorIndex := 339, attributes := #[] }, { accessFlags := 4120, nameIndex := 245, descriptorIndex := 246, attributes := #[] }])
  fields := #[{ name := "E", type := .double, accessFlags := 25, slot := 0, constantValue := 0 }, { name := "PI", type := .double, accessFlags := 25, slot := 1, constantValue := 0 }, { name := "TAU", type := .double, accessFlags := 25, slot := 2, constantValue := 0 }, { name := "DEGREES_TO_RADIANS", type := .double, accessFlags := 26, slot := 3, constantValue := 0 }, { name := "RADIANS_TO_DEGREES", type := .double, accessFlags := 26, slot := 4, constantValue := 0 }, { name := "negativeZeroFloatBits", type := .long, accessFlags := 26, slot := 5, constantValue := 0 }, { name := "negativeZeroDoubleBits", type := .long, accessFlags := 26, slot := 6, constantValue := 0 }, { name := "twoToTheDoubleScaleUp", type := .double, accessFlags := 8, slot := 7, constantValue := 0 }, { name := "twoToTheDoubleScaleDown", type := .double, accessFlags := 8, slot := 8, constantValue := 0 }, { name := "$assertionsDisabled", type := .boolean, accessFlags := 4120, slot := 9, constantValue := 0 }]
  methods := #[k24m0, k24m1, k24m2]
  instanceTypes := #[]
  staticTypes := #[.double, .double, .double, .double, .double, .long, .long, .double, .double, .boolean]
  resolved := Array.replicate 460 none
  statics := none }

def pool25 : Array CpInfo := pool [(2, .class_ 4), (1, u "java/lang/Object"), (0, u "<init>"), (0, u "()V"), (7, .class_ 16), (1, u "java/util/Arrays"), (57, .class_ 76), (1, u "java/util/Arrays$NaturalOrder"), (9, .methodref 2 87), (0, .nameAndType 88 89), (0, u "getClass"), (0, u "()Ljava/lang/Class;"), (20, .class_ 111), (0, u "[Ljava/lang/Object;"), (1, .class_ 115), (1, u "java/util/Arrays$LegacyMergeSort"), (1, u "Z"), (32, .methodref 151 152), (0, .class_ 153), (0, .nameAndType 154 155), (0, u "java/lang/System"), (0, u "arraycopy"), (0, u "(Ljava/lang/Object;ILjava/lang/Object;II)V"), (144, .methodref 14 301), (0, .nameAndType 302 303), (0, u "copyOf"), (0, u "([Ljava/lang/Object;ILjava/lang/Class;)[Ljava/lang/Object;"), (0, .methodref 305 306), (0, .class_ 307), (0, .nameAndType 308 309), (0, u "java/lang/Math"), (0, u "min"), (0, u "(II)I"), (65, .class_ 376), (0, u "java/util/Arrays$ArrayList"), (68, u "$assertionsDisabled"), (269, u "MIN_ARRAY_SORT_GRAN"), (0, u "I"), (2, u "INSERTIONSORT_THRESHOLD"), (140, u "([Ljava/lang/Object;I)[Ljava/lang/Object;"), (114, .class_ 976), (0, u "java/util/Arrays$ArrayItr")] 52

def k25m0 : Method := { name := "<init>", desc := "()V", sig := { parameters := [], returnType := none }, accessFlags := 2, code := none }
def k25c1 : Code := { maxStack := 3, maxLocals := 2, code := jdk_65_method_119_code, exceptionTable := #[], attributes := #[] }
def k25m1 : Method := { name := "copyOf", desc := "([Ljava/lang/Object;I)[Ljava/lang/Object;", sig := { parameters := [(.array (.object "java/lang/Object")), .int], returnType := some (.array (.object "java/lang/Object")) }, accessFlags := 9, code := some k25c1 }
def k25c2 : Code := { maxStack := 6, maxLocals := 4, code := jdk_65_method_120_code, exceptionTable := #[], attributes := #[] }
def k25m2 : Method := { name := "copyOf", desc := "([Ljava/lang/Object;ILjava/lang/Class;)[Ljava/lang/Object;", sig := { parameters := [(.array (.object "java/lang/Object")), .int, (.object "java/lang/Class")], returnType := some (.array (.object "java/lang/Object")) }, accessFlags := 9, code := some k25c2 }
/-- java/util/Arrays -/
def k25 : Class := { plain "java/util/Arrays" (some 0) with
  accessFlags := 49
  interfaces := #[]
  cf := some (fileOf pool25 14 #[.nestMembers #[975, 375, 113, 74]] #[{ accessFlags := 2, nameIndex := 5, descriptorIndex := 6, attributes := #[] }, { accessFlags := 9, nameIndex := 302, descriptorIndex := 860, attributes := #[] }, { accessFlags := 9, nameIndex := 302, descriptorIndex := 303, attributes := #[] }] 49 2 #[] #[{ accessFlags := 26, nameIndex := 715, descriptorIndex := 716, attributes := #[] }, { accessFlags := 26, nameIndex := 719, descriptorIndex := 716, attributes := #[] }, { accessFlags := 4120, nameIndex := 445, descriptorIndex := 117, attributes := #[] }])
  fields := #[{ name := "MIN_ARRAY_SORT_GRAN", type := .int, accessFlags := 26, slot := 0, constantValue := 0 }, { name := "INSERTIONSORT_THRESHOLD", type := .int, accessFlags := 26, slot := 1, constantValue := 0 }, { name := "$assertionsDisabled", type := .boolean, accessFlags := 4120, slot := 2, constantValue := 0 }]
  methods := #[k25m0, k25m1, k25m2]
  instanceTypes := #[]
  staticTypes := #[.int, .int, .boolean]
  resolved := Array.replicate 1029 none
  statics := none }

def pool26 : Array CpInfo := pool [(2, .class_ 4), (1, u "java/lang/Object"), (0, u "<init>"), (0, u "()V"), (1, .class_ 10), (1, u "java/lang/System"), (0, u "allowSecurityManager"), (0, u "I"), (16, u "cons"), (0, u "Ljava/io/Console;"), (77, .class_ 110), (1, u "java/lang/System$CallersHolder"), (43, u "initialErrStream"), (0, u "Ljava/io/PrintStream;"), (19, u "security"), (0, u "Ljava/lang/SecurityManager;"), (31, .class_ 209), (0, u "java/lang/System$1"), (7, u "props"), (0, u "Ljava/util/Properties;"), (2, u "lineSeparator"), (0, u "Ljava/lang/String;"), (96, .class_ 321), (1, u "java/lang/System$LoggerFinder"), (5, .class_ 328), (0, u "java/lang/System$Logger"), (67, u "err"), (2, u "out"), (91, u "notSupportedJnuEncoding"), (15, u "in"), (17, u "initialIn"), (0, u "Ljava/io/InputStream;"), (35, u "bootLayer"), (0, u "Ljava/lang/ModuleLayer;"), (99, .class_ 664), (0, u "java/lang/System$2"), (9, u "NEVER"), (2, u "MAYBE"), (49, u "arraycopy"), (0, u "(Ljava/lang/Object;ILjava/lang/Object;II)V"), (72, .class_ 802), (0, u "java/lang/System$Logger$Level")] 31

def k26m0 : Method := { name := "<init>", desc := "()V", sig := { parameters := [], returnType := none }, accessFlags := 2, code := none }
def k26m1 : Method := { name := "arraycopy", desc := "(Ljava/lang/Object;ILjava/lang/Object;II)V", sig := { parameters := [(.object "java/lang/Object"), .int, (.object "java/lang/Object"), .int, .int], returnType := none }, accessFlags := 265, code := none }
/-- java/lang/System -/
def k26 : Class := { plain "java/lang/System" (some 0) with
  accessFlags := 49
  interfaces := #[]
  cf := some (fileOf pool26 8 #[.nestMembers #[319, 327, 801, 108, 663, 208]] #[{ accessFlags := 2, nameIndex := 5, descriptorIndex := 6, attributes := #[] }, { accessFlags := 265, nameIndex := 727, descriptorIndex := 728, attributes := #[] }] 49 2 #[] #[{ accessFlags := 25, nameIndex := 507, descriptorIndex := 526, attributes := #[] }, { accessFlags := 25, nameIndex := 399, descriptorIndex := 155, attributes := #[] }, { accessFlags := 25, nameIndex := 396, descriptorIndex := 155, attributes := #[] }, { accessFlags := 10, nameIndex := 525, descriptorIndex := 526, attributes := #[] }, { accessFlags := 26, nameIndex := 674, descriptorIndex := 12, attributes := #[] }, { accessFlags := 26, nameIndex := 677, descriptorIndex := 12, attributes := #[] }, { accessFlags := 10, nameIndex := 11, descriptorIndex := 12, attributes := #[] }, { accessFlags := 74, nameIndex := 175, descriptorIndex := 176, attributes := #[] }, { accessFlags := 10, nameIndex := 491, descriptorIndex := 222, attributes := #[] }, { accessFlags := 74, nameIndex := 29, descriptorIndex := 30, attributes := #[] }, { accessFlags := 74, nameIndex := 154, descriptorIndex := 155, attributes := #[] }, { accessFlags := 10, nameIndex := 217, descriptorIndex := 218, attributes := #[] }, { accessFlags := 10, nameIndex := 221, descriptorIndex := 222, attributes := #[] }, { accessFlags := 8, nameIndex := 562, descriptorIndex := 563, attributes := #[] }])
  fields := #[{ name := "in", type := (.object "java/io/InputStream"), accessFlags := 25, slot := 0, constantValue := 0 }, { name := "out", type := (.object "java/io/PrintStream"), accessFlags := 25, slot := 1, constantValue := 0 }, { name := "err", type := (.object "java/io/PrintStream"), accessFlags := 25, slot := 2, constantValue := 0 }, { name := "initialIn", type := (.object "java/io/InputStream"), accessFlags := 10, slot := 3, constantValue := 0 }, { name := "NEVER", type := .int, accessFlags := 26, slot := 4, constantValue := 0 }, { name := "MAYBE", type := .int, accessFlags := 26, slot := 5, constantValue := 0 }, { name := "allowSecurityManager", type := .int, accessFlags := 10, slot := 6, constantValue := 0 }, { name := "security", type := (.object "java/lang/SecurityManager"), accessFlags := 74, slot := 7, constantValue := 0 }, { name := "notSupportedJnuEncoding", type := (.object "java/lang/String"), accessFlags := 10, slot := 8, constantValue := 0 }, { name := "cons", type := (.object "java/io/Console"), accessFlags := 74, slot := 9, constantValue := 0 }, { name := "initialErrStream", type := (.object "java/io/PrintStream"), accessFlags := 74, slot := 10, constantValue := 0 }, { name := "props", type := (.object "java/util/Properties"), accessFlags := 10, slot := 11, constantValue := 0 }, { name := "lineSeparator", type := (.object "java/lang/String"), accessFlags := 10, slot := 12, constantValue := 0 }, { name := "bootLayer", type := (.object "java/lang/ModuleLayer"), accessFlags := 8, slot := 13, constantValue := 0 }]
  methods := #[k26m0, k26m1]
  instanceTypes := #[]
  staticTypes := #[(.object "java/io/InputStream"), (.object "java/io/PrintStream"), (.object "java/io/PrintStream"), (.object "java/io/InputStream"), .int, .int, .int, (.object "java/lang/SecurityManager"), (.object "java/lang/String"), (.object "java/io/Console"), (.object "java/io/PrintStream"), (.object "java/util/Properties"), (.object "java/lang/String"), (.object "java/lang/ModuleLayer")]
  resolved := Array.replicate 834 none
  statics := none }

def pool27 : Array CpInfo := pool [(2, .class_ 4), (1, u "java/lang/Object"), (0, u "<init>"), (0, u "()V"), (35, .class_ 44), (1, u "java/util/Objects"), (0, u "requireNonNull"), (0, u "(Ljava/lang/Object;)Ljava/lang/Object;")] 137

def k27m0 : Method := { name := "<init>", desc := "()V", sig := { parameters := [], returnType := none }, accessFlags := 2, code := none }
def k27c1 : Code := { maxStack := 2, maxLocals := 1, code := jdk_31_method_10_code, exceptionTable := #[], attributes := #[] }
def k27m1 : Method := { name := "requireNonNull", desc := "(Ljava/lang/Object;)Ljava/lang/Object;", sig := { parameters := [(.object "java/lang/Object")], returnType := some (.object "java/lang/Object") }, accessFlags := 9, code := some k27c1 }
/-- java/util/Objects -/
def k27 : Class := { plain "java/util/Objects" (some 0) with
  accessFlags := 49
  interfaces := #[]
  cf := some (fileOf pool27 42 #[] #[{ accessFlags := 2, nameIndex := 5, descriptorIndex := 6, attributes := #[] }, { accessFlags := 9, nameIndex := 45, descriptorIndex := 46, attributes := #[] }] 49 2 #[] #[])
  fields := #[]
  methods := #[k27m0, k27m1]
  instanceTypes := #[]
  staticTypes := #[]
  resolved := Array.replicate 184 none
  statics := none }

def pool28 : Array CpInfo := pool [(4, .class_ 6), (1, u "java/lang/Object"), (0, u "<init>"), (0, u "()V"), (5, .class_ 16), (1, u "java/lang/StringLatin1"), (104, u "$assertionsDisabled"), (0, u "Z"), (98, .class_ 223), (1, u "java/lang/StringLatin1$LinesSpliterator"), (57, u "equals"), (0, u "([B[B)Z"), (107, .class_ 391), (0, u "java/lang/StringLatin1$CharsSpliterator")] 3

def k28m0 : Method := { name := "<init>", desc := "()V", sig := { parameters := [], returnType := none }, accessFlags := 0, code := none }
def k28c1 : Code := { maxStack := 3, maxLocals := 3, code := jdk_43_method_13_code, exceptionTable := #[], attributes := #[] }
def k28m1 : Method := { name := "equals", desc := "([B[B)Z", sig := { parameters := [(.array .byte), (.array .byte)], returnType := some .boolean }, accessFlags := 9, code := some k28c1 }
/-- java/lang/StringLatin1 -/
def k28 : Class := { plain "java/lang/StringLatin1" (some 0) with
  accessFlags := 48
  interfaces := #[]
  cf := some (fileOf pool28 14 #[.nestMembers #[390, 221]] #[{ accessFlags := 0, nameIndex := 7, descriptorIndex := 8, attributes := #[] }, { accessFlags := 9, nameIndex := 281, descriptorIndex := 282, attributes := #[] }] 48 4 #[] #[{ accessFlags := 4120, nameIndex := 121, descriptorIndex := 122, attributes := #[] }])
  fields := #[{ name := "$assertionsDisabled", type := .boolean, accessFlags := 4120, slot := 0, constantValue := 0 }]
  methods := #[k28m0, k28m1]
  instanceTypes := #[]
  staticTypes := #[.boolean]
  resolved := Array.replicate 395 none
  statics := none }

def pool29 : Array CpInfo := pool [(2, .class_ 4), (1, u "java/lang/Object"), (0, u "<init>"), (0, u "()V"), (17, .class_ 26), (1, u "jdk/internal/util/Preconditions"), (28, .class_ 56), (0, u "jdk/internal/util/Preconditions$4"), (57, .class_ 115), (0, u "jdk/internal/util/Preconditions$1"), (7, u "SIOOBE_FORMATTER"), (0, u "Ljava/util/function/BiFunction;"), (0, .class_ 126), (0, u "jdk/internal/util/Preconditions$2"), (3, u "AIOOBE_FORMATTER"), (0, .class_ 132), (0, u "jdk/internal/util/Preconditions$3"), (3, u "IOOBE_FORMATTER")] 57

def k29m0 : Method := { name := "<init>", desc := "()V", sig := { parameters := [], returnType := none }, accessFlags := 1, code := none }
/-- jdk/internal/util/Preconditions -/
def k29 : Class := { plain "jdk/internal/util/Preconditions" (some 0) with
  accessFlags := 33
  interfaces := #[]
  cf := some (fileOf pool29 24 #[.nestMembers #[55, 131, 125, 114]] #[{ accessFlags := 1, nameIndex := 5, descriptorIndex := 6, attributes := #[] }] 33 2 #[] #[{ accessFlags := 25, nameIndex := 123, descriptorIndex := 124, attributes := #[] }, { accessFlags := 25, nameIndex := 130, descriptorIndex := 124, attributes := #[] }, { accessFlags := 25, nameIndex := 136, descriptorIndex := 124, attributes := #[] }])
  fields := #[{ name := "SIOOBE_FORMATTER", type := (.object "java/util/function/BiFunction"), accessFlags := 25, slot := 0, constantValue := 0 }, { name := "AIOOBE_FORMATTER", type := (.object "java/util/function/BiFunction"), accessFlags := 25, slot := 1, constantValue := 0 }, { name := "IOOBE_FORMATTER", type := (.object "java/util/function/BiFunction"), accessFlags := 25, slot := 2, constantValue := 0 }]
  methods := #[k29m0]
  instanceTypes := #[]
  staticTypes := #[(.object "java/util/function/BiFunction"), (.object "java/util/function/BiFunction"), (.object "java/util/function/BiFunction")]
  resolved := Array.replicate 194 none
  statics := some 3 }

def pool30 : Array CpInfo := pool [(9, u "<init>"), (6, .class_ 18), (1, u "java/lang/Object"), (0, u "()V"), (1, .class_ 23), (1, u "jdk/internal/util/ArraysSupport"), (0, u "LOG2_ARRAY_LONG_INDEX_SCALE"), (0, u "I"), (2, u "U"), (0, u "Ljdk/internal/misc/Unsafe;"), (8, u "BIG_ENDIAN"), (0, u "Z"), (8, u "LOG2_BYTE_BIT_SIZE"), (4, u "LOG2_ARRAY_INT_INDEX_SCALE"), (54, u "JLA"), (0, u "Ljdk/internal/access/JavaLangAccess;"), (11, u "LOG2_ARRAY_BOOLEAN_INDEX_SCALE"), (9, u "LOG2_ARRAY_BYTE_INDEX_SCALE"), (5, u "LOG2_ARRAY_CHAR_INDEX_SCALE"), (5, u "LOG2_ARRAY_SHORT_INDEX_SCALE"), (18, u "LOG2_ARRAY_FLOAT_INDEX_SCALE"), (24, u "LOG2_ARRAY_DOUBLE_INDEX_SCALE"), (89, u "T_BOOLEAN"), (2, u "T_CHAR"), (1, u "T_FLOAT"), (1, u "T_DOUBLE"), (1, u "T_BYTE"), (1, u "T_SHORT"), (1, u "T_INT"), (1, u "T_LONG"), (1, u "SOFT_MAX_ARRAY_LENGTH")] 83

def k30m0 : Method := { name := "<init>", desc := "()V", sig := { parameters := [], returnType := none }, accessFlags := 2, code := none }
/-- jdk/internal/util/ArraysSupport -/
def k30 : Class := { plain "jdk/internal/util/ArraysSupport" (some 0) with
  accessFlags := 33
  interfaces := #[]
  cf := some (fileOf pool30 21 #[] #[{ accessFlags := 2, nameIndex := 9, descriptorIndex := 19, attributes := #[] }] 33 16 #[] #[{ accessFlags := 24, nameIndex := 28, descriptorIndex := 29, attributes := #[] }, { accessFlags := 26, nameIndex := 38, descriptorIndex := 39, attributes := #[] }, { accessFlags := 25, nameIndex := 121, descriptorIndex := 25, attributes := #[] }, { accessFlags := 25, nameIndex := 131, descriptorIndex := 25, attributes := #[] }, { accessFlags := 25, nameIndex := 137, descriptorIndex := 25, attributes := #[] }, { accessFlags := 25, nameIndex := 143, descriptorIndex := 25, attributes := #[] }, { accessFlags := 25, nameIndex := 53, descriptorIndex := 25, attributes := #[] }, { accessFlags := 25, nameIndex := 24, descriptorIndex := 25, attributes := #[] }, { accessFlags := 25, nameIndex := 162, descriptorIndex := 25, attributes := #[] }, { accessFlags := 25, nameIndex := 187, descriptorIndex := 25, attributes := #[] }, { accessFlags := 26, nameIndex := 48, descriptorIndex := 25, attributes := #[] }, { accessFlags := 25, nameIndex := 277, descriptorIndex := 25, attributes := #[] }, { accessFlags := 25, nameIndex := 280, descriptorIndex := 25, attributes := #[] }, { accessFlags := 25, nameIndex := 282, descriptorIndex := 25, attributes := #[] }, { accessFlags := 25, nameIndex := 284, descriptorIndex := 25, attributes := #[] }, { accessFlags := 25, nameIndex := 286, descriptorIndex := 25, attributes := #[] }, { accessFlags := 25, nameIndex := 288, descriptorIndex := 25, attributes := #[] }, { accessFlags := 25, nameIndex := 290, descriptorIndex := 25, attributes := #[] }, { accessFlags := 25, nameIndex := 292, descriptorIndex := 25, attributes := #[] }, { accessFlags := 26, nameIndex := 108, descriptorIndex := 109, attributes := #[] }, { accessFlags := 25, nameIndex := 294, descriptorIndex := 25, attributes := #[] }])
  fields := #[{ name := "U", type := (.object "jdk/internal/misc/Unsafe"), accessFlags := 24, slot := 0, constantValue := 0 }, { name := "BIG_ENDIAN", type := .boolean, accessFlags := 26, slot := 1, constantValue := 0 }, { name := "LOG2_ARRAY_BOOLEAN_INDEX_SCALE", type := .int, accessFlags := 25, slot := 2, constantValue := 0 }, { name := "LOG2_ARRAY_BYTE_INDEX_SCALE", type := .int, accessFlags := 25, slot := 3, constantValue := 0 }, { name := "LOG2_ARRAY_CHAR_INDEX_SCALE", type := .int, accessFlags := 25, slot := 4, constantValue := 0 }, { name := "LOG2_ARRAY_SHORT_INDEX_SCALE", type := .int, accessFlags := 25, slot := 5, constantValue := 0 }, { name := "LOG2_ARRAY_INT_INDEX_SCALE", type := .int, accessFlags := 25, slot := 6, constantValue := 0 }, { name := "LOG2_ARRAY_LONG_INDEX_SCALE", type := .int, accessFlags := 25, slot := 7, constantValue := 0 }, { name := "LOG2_ARRAY_FLOAT_INDEX_SCALE", type := .int, accessFlags := 25, slot := 8, constantValue := 0 }, { name := "LOG2_ARRAY_DOUBLE_INDEX_SCALE", type := .int, accessFlags := 25, slot := 9, constantValue := 0 }, { name := "LOG2_BYTE_BIT_SIZE", type := .int, accessFlags := 26, slot := 10, constantValue := 0 }, { name := "T_BOOLEAN", type := .int, accessFlags := 25, slot := 11, constantValue := 0 }, { name := "T_CHAR", type := .int, accessFlags := 25, slot := 12, constantValue := 0 }, { name := "T_FLOAT", type := .int, accessFlags := 25, slot := 13, constantValue := 0 }, { name := "T_DOUBLE", type := .int, accessFlags := 25, slot := 14, constantValue := 0 }, { name := "T_BYTE", type := .int, accessFlags := 25, slot := 15, constantValue := 0 }, { name := "T_SHORT", type := .int, accessFlags := 25, slot := 16, constantValue := 0 }, { name := "T_INT", type := .int, accessFlags := 25, slot := 17, constantValue := 0 }, { name := "T_LONG", type := .int, accessFlags := 25, slot := 18, constantValue := 0 }, { name := "JLA", type := (.object "jdk/internal/access/JavaLangAccess"), accessFlags := 26, slot := 19, constantValue := 0 }, { name := "SOFT_MAX_ARRAY_LENGTH", type := .int, accessFlags := 25, slot := 20, constantValue := 0 }]
  methods := #[k30m0]
  instanceTypes := #[]
  staticTypes := #[(.object "jdk/internal/misc/Unsafe"), .boolean, .int, .int, .int, .int, .int, .int, .int, .int, .int, .int, .int, .int, .int, .int, .int, .int, .int, (.object "jdk/internal/access/JavaLangAccess"), .int]
  resolved := Array.replicate 378 none
  statics := none }

def pool31 : Array CpInfo := pool [(1, u "java/lang/Class"), (0, .class_ 1), (0, u "java/lang/Object"), (0, .class_ 3)] 3

/-- java/lang/Class -/
def k31 : Class := { plain "java/lang/Class" (some 0) with
  accessFlags := 49
  interfaces := #[]
  cf := some (fileOf pool31 2 #[] #[] 49 4 #[] #[])
  fields := #[]
  methods := #[]
  instanceTypes := #[]
  staticTypes := #[]
  resolved := Array.replicate 8 none
  statics := none }

/-- the primitive byte -/
def k32 : Class := { plain "byte" none with kind := .primitive 'B', accessFlags := 0x411 }
/-- [B -/
def k33 : Class := { plain "[B" (some 0) with kind := .array 32 .byte, interfaces := #[9, 10], accessFlags := 1041 }

/-- the primitive char -/
def k34 : Class := { plain "char" none with kind := .primitive 'C', accessFlags := 0x411 }
/-- [C -/
def k35 : Class := { plain "[C" (some 0) with kind := .array 34 .char, interfaces := #[9, 10], accessFlags := 1041 }

/-- the primitive int -/
def k36 : Class := { plain "int" none with kind := .primitive 'I', accessFlags := 0x411 }
/-- [I -/
def k37 : Class := { plain "[I" (some 0) with kind := .array 36 .int, interfaces := #[9, 10], accessFlags := 1041 }

/-- [Ljava/lang/Object; -/
def k38 : Class := { plain "[Ljava/lang/Object;" (some 0) with kind := .array 0 (.object "java/lang/Object"), interfaces := #[9, 10], accessFlags := 1041, mirror := some 4 }

/-- [Ljava/lang/String; -/
def k39 : Class := { plain "[Ljava/lang/String;" (some 0) with kind := .array 16 (.object "java/lang/String"), interfaces := #[9, 10], accessFlags := 1041 }

def heap : Heap := #[{ cls := 11, slots := #[.long 0, .int 0, .ref 5, .ref 6], vm := .statics 11 },
  { cls := 16, slots := #[.long 0, .int 1, .null, .int 0, .null, .int 0, .int 0], vm := .statics 16 },
  { cls := 18, slots := #[.long 0, .int 0, .null, .ref 8, .ref 7, .null, .null, .null, .int 0, .int 1], vm := .statics 18 },
  { cls := 29, slots := #[.null, .null, .null], vm := .statics 29 },
  { cls := 31, slots := #[], vm := .mirror 38 },
  { cls := 38, slots := #[], vm := .none },
  { cls := 38, slots := #[], vm := .none },
  { cls := 22, slots := #[.ref 5, .int 0], vm := .none },
  { cls := 0, slots := #[], vm := .none }]
def classes : Array Class := #[k0, k1, k2, k3, k4, k5, k6, k7, k8, k9, k10, k11, k12, k13, k14, k15, k16, k17, k18, k19, k20, k21, k22, k23, k24, k25, k26, k27, k28, k29, k30, k31, k32, k33, k34, k35, k36, k37, k38, k39]
def interned : List (Array UInt16 × Addr) := []
def slotsUsed : Nat := 26
def theMethod : MethodId := ⟨1, 1⟩
def args0 : Array Value := #[.int 5, .int 7, .int 3, .int 9]
def aboutOver (below : List Frame) : State where
  vm := { classes := classes, interned := interned.toArray }
  heap := heap
  slotsUsed := slotsUsed
  threads := #[{ frames := .invoking theMethod args0 :: below }]
def below0 : List Frame := [.native { method := ⟨0, 0⟩, args := #[] }]
def about1 : State := aboutOver below0
def p0 : Program := .bare "" "" ""
def e0 : Env := launch0.env 0 0 0
theorem w_frames : about1.frames = Frame.invoking theMethod args0 :: below0 := rfl
set_option maxRecDepth 65536 in
theorem w_args : argsFit about1.vm theMethod args0 = true := by decide +kernel
set_option maxRecDepth 65536 in
theorem w_heap : heapFits about1 = true := by decide +kernel
set_option maxRecDepth 65536 in
theorem w_runnable : about1.curStatus? = some .runnable := by decide +kernel
set_option maxRecDepth 65536 in
theorem w_alone : about1.alone = true := by decide +kernel
set_option maxRecDepth 65536 in
theorem w_named : about1.methodNamed? x = some theMethod := by decide +kernel
set_option maxRecDepth 65536 in
theorem w_hears : about1.hears theMethod below0 = true := by decide +kernel
set_option maxRecDepth 65536 in
theorem w_ripe : about1.ripe theMethod args0 below0 = true := by decide +kernel
theorem w_running : about1.status = .running := rfl
set_option maxRecDepth 65536 in
theorem w_room : about1.hasRoom e0.platform room_1 = true :=
  launch0.hasRoom_least _ room_1 (by decide +kernel) (by decide +kernel) (by decide +kernel) (by decide +kernel) (by decide +kernel) (by decide +kernel)
theorem allAtoms_all (ts : List Jvm.Cond) (a : Array Jvm.Value) (st : Jvm.State) : (allAtoms ts).before a st = ts.all (fun c => c.before a st) := by
  induction ts with
  | nil => rfl
  | cons c t ih =>
    show (Jvm.Cond.and c (allAtoms t)).before a st = _
    rw [Jvm.Cond.before_and, ih, List.all_cons]
def words1 : List Jvm.Cond := Jvm.Cond.code x code maxLocals ret :: tables_1
/-- a 'code' word, met by the world's own term for the bytes: nothing is compared byte by byte -/
theorem code_word {y : MethodName} {bytes : ByteArray} {mx : Nat} {rt : Option FieldType} {a : Array Value} {s : State} {m : MethodId} {meth : Method} {c : Code} (h1 : s.methodNamed? y = some m) (h2 : s.vm.method? m = some meth) (h3 : meth.code = some c) (h4 : c.code = bytes)
    (h5 : (c.maxLocals == mx && c.exceptionTable.isEmpty && decide (c.maxStack ≤ mostOperands) && decide (meth.sig.returnType = rt) && !meth.locks && decide (parseMethodDescriptor y.desc = some meth.sig)) = true) : (Jvm.Cond.code y bytes mx rt).before a s = true := by
  simp only [Bool.and_eq_true, beq_iff_eq, Bool.not_eq_true', decide_eq_true_eq] at h5
  obtain ⟨⟨⟨⟨⟨g1, g2⟩, g3⟩, g4⟩, g5⟩, g6⟩ := h5
  simp [Cond.before, Cond.holds, Cond.value, h1, h2, h3, h4, g1, g2, g3, g4, g5, g6]
def isCode : Jvm.Cond → Bool
  | .code _ _ _ _ => true
  | _ => false
theorem all_split {L : List Jvm.Cond} {P : Jvm.Cond → Bool} (h1 : L.all (fun c => isCode c || P c) = true) (h2 : ∀ c ∈ L.filter isCode, P c = true) : L.all P = true := by
  refine List.all_eq_true.mpr fun c hc => ?_
  have h := List.all_eq_true.mp h1 c hc
  rcases Bool.eq_false_or_eq_true (isCode c) with hi | hi
  · exact h2 c (List.mem_filter.mpr ⟨hc, hi⟩)
  · simpa [hi] using h
set_option maxRecDepth 65536 in
theorem w_c0 : (Jvm.Cond.code x code maxLocals ret).before args0 about1 = true := code_word (m := ⟨1, 1⟩) (meth := k1m1) (c := k1c1) (by decide +kernel) rfl rfl rfl (by decide +kernel)
set_option maxRecDepth 65536 in
theorem w_c1 : (Jvm.Cond.code ({ cls := "java/util/ArrayList", name := "<init>", desc := "()V" } : Jvm.MethodName) jdk_38_method_2_code (1 : Nat) (Option.none : Option Jvm.ClassFile.FieldType)).before args0 about1 = true := code_word (m := ⟨11, 0⟩) (meth := k11m0) (c := k11c0) (by decide +kernel) rfl rfl rfl (by decide +kernel)
set_option maxRecDepth 65536 in
theorem w_c2 : (Jvm.Cond.code ({ cls := "java/util/AbstractList", name := "<init>", desc := "()V" } : Jvm.MethodName) jdk_39_method_1_code (1 : Nat) (Option.none : Option Jvm.ClassFile.FieldType)).before args0 about1 = true := code_word (m := ⟨7, 0⟩) (meth := k7m0) (c := k7c0) (by decide +kernel) rfl rfl rfl (by decide +kernel)
set_option maxRecDepth 65536 in
theorem w_c3 : (Jvm.Cond.code ({ cls := "java/util/AbstractCollection", name := "<init>", desc := "()V" } : Jvm.MethodName) jdk_22_method_1_code (1 : Nat) (Option.none : Option Jvm.ClassFile.FieldType)).before args0 about1 = true := code_word (m := ⟨4, 0⟩) (meth := k4m0) (c := k4c0) (by decide +kernel) rfl rfl rfl (by decide +kernel)
set_option maxRecDepth 65536 in
theorem w_c4 : (Jvm.Cond.code ({ cls := "java/lang/Object", name := "<init>", desc := "()V" } : Jvm.MethodName) object_method_1_code (1 : Nat) (Option.none : Option Jvm.ClassFile.FieldType)).before args0 about1 = true := code_word (m := ⟨0, 0⟩) (meth := k0m0) (c := k0c0) (by decide +kernel) rfl rfl rfl (by decide +kernel)
set_option maxRecDepth 65536 in
theorem w_c5 : (Jvm.Cond.code ({ cls := "com/example/raccordo/raccordo/flow/XmlElementSameAttributesPinLaw", name := "mk", desc := "(IC)Ljava/lang/String;" } : Jvm.MethodName) method_3_code (2 : Nat) (Option.some (Jvm.ClassFile.FieldType.object "java/lang/String"))).before args0 about1 = true := code_word (m := ⟨1, 2⟩) (meth := k1m2) (c := k1c2) (by decide +kernel) rfl rfl rfl (by decide +kernel)
set_option maxRecDepth 65536 in
theorem w_c6 : (Jvm.Cond.code ({ cls := "java/lang/String", name := "<init>", desc := "([C)V" } : Jvm.MethodName) jdk_42_method_3_code (2 : Nat) (Option.none : Option Jvm.ClassFile.FieldType)).before args0 about1 = true := code_word (m := ⟨16, 1⟩) (meth := k16m1) (c := k16c1) (by decide +kernel) rfl rfl rfl (by decide +kernel)
set_option maxRecDepth 65536 in
theorem w_c7 : (Jvm.Cond.code ({ cls := "java/lang/String", name := "<init>", desc := "([CIILjava/lang/Void;)V" } : Jvm.MethodName) jdk_42_method_149_code (6 : Nat) (Option.none : Option Jvm.ClassFile.FieldType)).before args0 about1 = true := code_word (m := ⟨16, 3⟩) (meth := k16m3) (c := k16c3) (by decide +kernel) rfl rfl rfl (by decide +kernel)
set_option maxRecDepth 65536 in
theorem w_c8 : (Jvm.Cond.code ({ cls := "com/example/raccordo/raccordo/flow/XmlElement", name := "<init>", desc := "(Ljava/lang/String;Ljava/util/List;[IILjava/util/List;)V" } : Jvm.MethodName) prog_37_method_1_code (6 : Nat) (Option.none : Option Jvm.ClassFile.FieldType)).before args0 about1 = true := code_word (m := ⟨17, 0⟩) (meth := k17m0) (c := k17c0) (by decide +kernel) rfl rfl rfl (by decide +kernel)
set_option maxRecDepth 65536 in
theorem w_c9 : (Jvm.Cond.code ({ cls := "java/util/List", name := "copyOf", desc := "(Ljava/util/Collection;)Ljava/util/List;" } : Jvm.MethodName) jdk_40_method_48_code (1 : Nat) (Option.some (Jvm.ClassFile.FieldType.object "java/util/List"))).before args0 about1 = true := code_word (m := ⟨6, 2⟩) (meth := k6m2) (c := k6c2) (by decide +kernel) rfl rfl rfl (by decide +kernel)
set_option maxRecDepth 65536 in
theorem w_c10 : (Jvm.Cond.code ({ cls := "java/util/ImmutableCollections", name := "listCopy", desc := "(Ljava/util/Collection;)Ljava/util/List;" } : Jvm.MethodName) jdk_56_method_3_code (2 : Nat) (Option.some (Jvm.ClassFile.FieldType.object "java/util/List"))).before args0 about1 = true := code_word (m := ⟨18, 1⟩) (meth := k18m1) (c := k18c1) (by decide +kernel) rfl rfl rfl (by decide +kernel)
set_option maxRecDepth 65536 in
theorem w_c11 : (Jvm.Cond.code ({ cls := "java/util/ArrayList", name := "isEmpty", desc := "()Z" } : Jvm.MethodName) jdk_38_method_9_code (1 : Nat) (Option.some Jvm.ClassFile.FieldType.boolean)).before args0 about1 = true := code_word (m := ⟨11, 3⟩) (meth := k11m3) (c := k11c3) (by decide +kernel) rfl rfl rfl (by decide +kernel)
set_option maxRecDepth 65536 in
theorem w_c12 : (Jvm.Cond.code ({ cls := "java/util/List", name := "of", desc := "()Ljava/util/List;" } : Jvm.MethodName) jdk_40_method_36_code (0 : Nat) (Option.some (Jvm.ClassFile.FieldType.object "java/util/List"))).before args0 about1 = true := code_word (m := ⟨6, 0⟩) (meth := k6m0) (c := k6c0) (by decide +kernel) rfl rfl rfl (by decide +kernel)
set_option maxRecDepth 65536 in
theorem w_c13 : (Jvm.Cond.code ({ cls := "com/example/raccordo/raccordo/flow/XmlElement", name := "sameAttributes", desc := "([Ljava/lang/String;[Ljava/lang/String;)Z" } : Jvm.MethodName) prog_37_method_8_code (7 : Nat) (Option.some Jvm.ClassFile.FieldType.boolean)).before args0 about1 = true := code_word (m := ⟨17, 1⟩) (meth := k17m1) (c := k17c1) (by decide +kernel) rfl rfl rfl (by decide +kernel)
set_option maxRecDepth 65536 in
theorem w_c14 : (Jvm.Cond.code ({ cls := "java/lang/StringUTF16", name := "compress", desc := "([CII)[B" } : Jvm.MethodName) jdk_52_method_16_code (6 : Nat) (Option.some (Jvm.ClassFile.FieldType.array Jvm.ClassFile.FieldType.byte))).before args0 about1 = true := code_word (m := ⟨23, 2⟩) (meth := k23m2) (c := k23c2) (by decide +kernel) rfl rfl rfl (by decide +kernel)
set_option maxRecDepth 65536 in
theorem w_c15 : (Jvm.Cond.code ({ cls := "java/lang/StringUTF16", name := "compress", desc := "([CI[BII)I" } : Jvm.MethodName) jdk_52_method_21_code (7 : Nat) (Option.some Jvm.ClassFile.FieldType.int)).before args0 about1 = true := code_word (m := ⟨23, 3⟩) (meth := k23m3) (c := k23c3) (by decide +kernel) rfl rfl rfl (by decide +kernel)
set_option maxRecDepth 65536 in
theorem w_c16 : (Jvm.Cond.code ({ cls := "java/lang/StringUTF16", name := "coderFromArrayLen", desc := "([BI)B" } : Jvm.MethodName) jdk_52_method_15_code (2 : Nat) (Option.some Jvm.ClassFile.FieldType.byte)).before args0 about1 = true := code_word (m := ⟨23, 1⟩) (meth := k23m1) (c := k23c1) (by decide +kernel) rfl rfl rfl (by decide +kernel)
set_option maxRecDepth 65536 in
theorem w_c17 : (Jvm.Cond.code ({ cls := "java/util/ArrayList", name := "add", desc := "(Ljava/lang/Object;)Z" } : Jvm.MethodName) jdk_38_method_25_code (2 : Nat) (Option.some Jvm.ClassFile.FieldType.boolean)).before args0 about1 = true := code_word (m := ⟨11, 6⟩) (meth := k11m6) (c := k11c6) (by decide +kernel) rfl rfl rfl (by decide +kernel)
set_option maxRecDepth 65536 in
theorem w_c18 : (Jvm.Cond.code ({ cls := "java/util/ArrayList", name := "add", desc := "(Ljava/lang/Object;[Ljava/lang/Object;I)V" } : Jvm.MethodName) jdk_38_method_24_code (4 : Nat) (Option.none : Option Jvm.ClassFile.FieldType)).before args0 about1 = true := code_word (m := ⟨11, 5⟩) (meth := k11m5) (c := k11c5) (by decide +kernel) rfl rfl rfl (by decide +kernel)
set_option maxRecDepth 65536 in
theorem w_c19 : (Jvm.Cond.code ({ cls := "java/util/ArrayList", name := "grow", desc := "()[Ljava/lang/Object;" } : Jvm.MethodName) jdk_38_method_7_code (1 : Nat) (Option.some (Jvm.ClassFile.FieldType.array (Jvm.ClassFile.FieldType.object "java/lang/Object")))).before args0 about1 = true := code_word (m := ⟨11, 2⟩) (meth := k11m2) (c := k11c2) (by decide +kernel) rfl rfl rfl (by decide +kernel)
set_option maxRecDepth 65536 in
theorem w_c20 : (Jvm.Cond.code ({ cls := "java/util/ArrayList", name := "grow", desc := "(I)[Ljava/lang/Object;" } : Jvm.MethodName) jdk_38_method_6_code (4 : Nat) (Option.some (Jvm.ClassFile.FieldType.array (Jvm.ClassFile.FieldType.object "java/lang/Object")))).before args0 about1 = true := code_word (m := ⟨11, 1⟩) (meth := k11m1) (c := k11c1) (by decide +kernel) rfl rfl rfl (by decide +kernel)
set_option maxRecDepth 65536 in
theorem w_c21 : (Jvm.Cond.code ({ cls := "java/lang/Math", name := "max", desc := "(II)I" } : Jvm.MethodName) jdk_29_method_65_code (2 : Nat) (Option.some Jvm.ClassFile.FieldType.int)).before args0 about1 = true := code_word (m := ⟨24, 1⟩) (meth := k24m1) (c := k24c1) (by decide +kernel) rfl rfl rfl (by decide +kernel)
set_option maxRecDepth 65536 in
theorem w_c22 : (Jvm.Cond.code ({ cls := "java/util/ArrayList", name := "toArray", desc := "()[Ljava/lang/Object;" } : Jvm.MethodName) jdk_38_method_16_code (1 : Nat) (Option.some (Jvm.ClassFile.FieldType.array (Jvm.ClassFile.FieldType.object "java/lang/Object")))).before args0 about1 = true := code_word (m := ⟨11, 4⟩) (meth := k11m4) (c := k11c4) (by decide +kernel) rfl rfl rfl (by decide +kernel)
set_option maxRecDepth 65536 in
theorem w_c23 : (Jvm.Cond.code ({ cls := "java/util/Arrays", name := "copyOf", desc := "([Ljava/lang/Object;I)[Ljava/lang/Object;" } : Jvm.MethodName) jdk_65_method_119_code (2 : Nat) (Option.some (Jvm.ClassFile.FieldType.array (Jvm.ClassFile.FieldType.object "java/lang/Object")))).before args0 about1 = true := code_word (m := ⟨25, 1⟩) (meth := k25m1) (c := k25c1) (by decide +kernel) rfl rfl rfl (by decide +kernel)
set_option maxRecDepth 65536 in
theorem w_c24 : (Jvm.Cond.code ({ cls := "java/util/Arrays", name := "copyOf", desc := "([Ljava/lang/Object;ILjava/lang/Class;)[Ljava/lang/Object;" } : Jvm.MethodName) jdk_65_method_120_code (4 : Nat) (Option.some (Jvm.ClassFile.FieldType.array (Jvm.ClassFile.FieldType.object "java/lang/Object")))).before args0 about1 = true := code_word (m := ⟨25, 2⟩) (meth := k25m2) (c := k25c2) (by decide +kernel) rfl rfl rfl (by decide +kernel)
set_option maxRecDepth 65536 in
theorem w_c25 : (Jvm.Cond.code ({ cls := "java/lang/Math", name := "min", desc := "(II)I" } : Jvm.MethodName) jdk_29_method_69_code (2 : Nat) (Option.some Jvm.ClassFile.FieldType.int)).before args0 about1 = true := code_word (m := ⟨24, 2⟩) (meth := k24m2) (c := k24c2) (by decide +kernel) rfl rfl rfl (by decide +kernel)
set_option maxRecDepth 65536 in
theorem w_c26 : (Jvm.Cond.code ({ cls := "java/util/List", name := "of", desc := "([Ljava/lang/Object;)Ljava/util/List;" } : Jvm.MethodName) jdk_40_method_47_code (2 : Nat) (Option.some (Jvm.ClassFile.FieldType.object "java/util/List"))).before args0 about1 = true := code_word (m := ⟨6, 1⟩) (meth := k6m1) (c := k6c1) (by decide +kernel) rfl rfl rfl (by decide +kernel)
set_option maxRecDepth 65536 in
theorem w_c27 : (Jvm.Cond.code ({ cls := "java/util/ImmutableCollections", name := "listFromArray", desc := "([Ljava/lang/Object;)Ljava/util/List;" } : Jvm.MethodName) jdk_56_method_4_code (3 : Nat) (Option.some (Jvm.ClassFile.FieldType.object "java/util/List"))).before args0 about1 = true := code_word (m := ⟨18, 2⟩) (meth := k18m2) (c := k18c2) (by decide +kernel) rfl rfl rfl (by decide +kernel)
set_option maxRecDepth 65536 in
theorem w_c28 : (Jvm.Cond.code ({ cls := "java/util/Objects", name := "requireNonNull", desc := "(Ljava/lang/Object;)Ljava/lang/Object;" } : Jvm.MethodName) jdk_31_method_10_code (1 : Nat) (Option.some (Jvm.ClassFile.FieldType.object "java/lang/Object"))).before args0 about1 = true := code_word (m := ⟨27, 1⟩) (meth := k27m1) (c := k27c1) (by decide +kernel) rfl rfl rfl (by decide +kernel)
set_option maxRecDepth 65536 in
theorem w_c29 : (Jvm.Cond.code ({ cls := "java/util/ImmutableCollections$ListN", name := "<init>", desc := "([Ljava/lang/Object;Z)V" } : Jvm.MethodName) jdk_45_method_1_code (3 : Nat) (Option.none : Option Jvm.ClassFile.FieldType)).before args0 about1 = true := code_word (m := ⟨22, 0⟩) (meth := k22m0) (c := k22c0) (by decide +kernel) rfl rfl rfl (by decide +kernel)
set_option maxRecDepth 65536 in
theorem w_c30 : (Jvm.Cond.code ({ cls := "java/util/ImmutableCollections$AbstractImmutableList", name := "<init>", desc := "()V" } : Jvm.MethodName) jdk_46_method_1_code (1 : Nat) (Option.none : Option Jvm.ClassFile.FieldType)).before args0 about1 = true := code_word (m := ⟨20, 0⟩) (meth := k20m0) (c := k20c0) (by decide +kernel) rfl rfl rfl (by decide +kernel)
set_option maxRecDepth 65536 in
theorem w_c31 : (Jvm.Cond.code ({ cls := "java/util/ImmutableCollections$AbstractImmutableCollection", name := "<init>", desc := "()V" } : Jvm.MethodName) jdk_47_method_1_code (1 : Nat) (Option.none : Option Jvm.ClassFile.FieldType)).before args0 about1 = true := code_word (m := ⟨19, 0⟩) (meth := k19m0) (c := k19c0) (by decide +kernel) rfl rfl rfl (by decide +kernel)
set_option maxRecDepth 65536 in
theorem w_c32 : (Jvm.Cond.code ({ cls := "java/lang/String", name := "equals", desc := "(Ljava/lang/Object;)Z" } : Jvm.MethodName) jdk_42_method_66_code (3 : Nat) (Option.some Jvm.ClassFile.FieldType.boolean)).before args0 about1 = true := code_word (m := ⟨16, 2⟩) (meth := k16m2) (c := k16c2) (by decide +kernel) rfl rfl rfl (by decide +kernel)
set_option maxRecDepth 65536 in
theorem w_c33 : (Jvm.Cond.code ({ cls := "java/lang/StringLatin1", name := "equals", desc := "([B[B)Z" } : Jvm.MethodName) jdk_43_method_13_code (3 : Nat) (Option.some Jvm.ClassFile.FieldType.boolean)).before args0 about1 = true := code_word (m := ⟨28, 1⟩) (meth := k28m1) (c := k28c1) (by decide +kernel) rfl rfl rfl (by decide +kernel)
set_option maxRecDepth 65536 in
theorem w_c34 : (Jvm.Cond.code ({ cls := "com/example/raccordo/raccordo/flow/XmlElementSameAttributesPinLaw", name := "pick", desc := "(IZZZ)Z" } : Jvm.MethodName) method_4_code (4 : Nat) (Option.some Jvm.ClassFile.FieldType.boolean)).before args0 about1 = true := code_word (m := ⟨1, 3⟩) (meth := k1m3) (c := k1c3) (by decide +kernel) rfl rfl rfl (by decide +kernel)
set_option maxRecDepth 65536 in
theorem w_c35 : (Jvm.Cond.code ({ cls := "java/util/ImmutableCollections$List12", name := "<init>", desc := "(Ljava/lang/Object;Ljava/lang/Object;)V" } : Jvm.MethodName) jdk_44_method_2_code (3 : Nat) (Option.none : Option Jvm.ClassFile.FieldType)).before args0 about1 = true := code_word (m := ⟨21, 1⟩) (meth := k21m1) (c := k21c1) (by decide +kernel) rfl rfl rfl (by decide +kernel)
set_option maxRecDepth 65536 in
theorem w_c36 : (Jvm.Cond.code ({ cls := "java/util/ImmutableCollections$List12", name := "<init>", desc := "(Ljava/lang/Object;)V" } : Jvm.MethodName) jdk_44_method_1_code (2 : Nat) (Option.none : Option Jvm.ClassFile.FieldType)).before args0 about1 = true := code_word (m := ⟨21, 0⟩) (meth := k21m0) (c := k21c0) (by decide +kernel) rfl rfl rfl (by decide +kernel)
def codes1 : List Jvm.Cond := [Jvm.Cond.code x code maxLocals ret, Jvm.Cond.code ({ cls := "java/util/ArrayList", name := "<init>", desc := "()V" } : Jvm.MethodName) jdk_38_method_2_code (1 : Nat) (Option.none : Option Jvm.ClassFile.FieldType), Jvm.Cond.code ({ cls := "java/util/AbstractList", name := "<init>", desc := "()V" } : Jvm.MethodName) jdk_39_method_1_code (1 : Nat) (Option.none : Option Jvm.ClassFile.FieldType), Jvm.Cond.code ({ cls := "java/util/AbstractCollection", name := "<init>", desc := "()V" } : Jvm.MethodName) jdk_22_method_1_code (1 : Nat) (Option.none : Option Jvm.ClassFile.FieldType), Jvm.Cond.code ({ cls := "java/lang/Object", name := "<init>", desc := "()V" } : Jvm.MethodName) object_method_1_code (1 : Nat) (Option.none : Option Jvm.ClassFile.FieldType), Jvm.Cond.code ({ cls := "com/example/raccordo/raccordo/flow/XmlElementSameAttributesPinLaw", name := "mk", desc := "(IC)Ljava/lang/String;" } : Jvm.MethodName) method_3_code (2 : Nat) (Option.some (Jvm.ClassFile.FieldType.object "java/lang/String")), Jvm.Cond.code ({ cls := "java/lang/String", name := "<init>", desc := "([C)V" } : Jvm.MethodName) jdk_42_method_3_code (2 : Nat) (Option.none : Option Jvm.ClassFile.FieldType), Jvm.Cond.code ({ cls := "java/lang/String", name := "<init>", desc := "([CIILjava/lang/Void;)V" } : Jvm.MethodName) jdk_42_method_149_code (6 : Nat) (Option.none : Option Jvm.ClassFile.FieldType), Jvm.Cond.code ({ cls := "com/example/raccordo/raccordo/flow/XmlElement", name := "<init>", desc := "(Ljava/lang/String;Ljava/util/List;[IILjava/util/List;)V" } : Jvm.MethodName) prog_37_method_1_code (6 : Nat) (Option.none : Option Jvm.ClassFile.FieldType), Jvm.Cond.code ({ cls := "java/util/List", name := "copyOf", desc := "(Ljava/util/Collection;)Ljava/util/List;" } : Jvm.MethodName) jdk_40_method_48_code (1 : Nat) (Option.some (Jvm.ClassFile.FieldType.object "java/util/List")), Jvm.Cond.code ({ cls := "java/util/ImmutableCollections", name := "listCopy", desc := "(Ljava/util/Collection;)Ljava/util/List;" } : Jvm.MethodName) jdk_56_method_3_code (2 : Nat) (Option.some (Jvm.ClassFile.FieldType.object "java/util/List")), Jvm.Cond.code ({ cls := "java/util/ArrayList", name := "isEmpty", desc := "()Z" } : Jvm.MethodName) jdk_38_method_9_code (1 : Nat) (Option.some Jvm.ClassFile.FieldType.boolean), Jvm.Cond.code ({ cls := "java/util/List", name := "of", desc := "()Ljava/util/List;" } : Jvm.MethodName) jdk_40_method_36_code (0 : Nat) (Option.some (Jvm.ClassFile.FieldType.object "java/util/List")), Jvm.Cond.code ({ cls := "com/example/raccordo/raccordo/flow/XmlElement", name := "sameAttributes", desc := "([Ljava/lang/String;[Ljava/lang/String;)Z" } : Jvm.MethodName) prog_37_method_8_code (7 : Nat) (Option.some Jvm.ClassFile.FieldType.boolean), Jvm.Cond.code ({ cls := "java/lang/StringUTF16", name := "compress", desc := "([CII)[B" } : Jvm.MethodName) jdk_52_method_16_code (6 : Nat) (Option.some (Jvm.ClassFile.FieldType.array Jvm.ClassFile.FieldType.byte)), Jvm.Cond.code ({ cls := "java/lang/StringUTF16", name := "compress", desc := "([CI[BII)I" } : Jvm.MethodName) jdk_52_method_21_code (7 : Nat) (Option.some Jvm.ClassFile.FieldType.int), Jvm.Cond.code ({ cls := "java/lang/StringUTF16", name := "coderFromArrayLen", desc := "([BI)B" } : Jvm.MethodName) jdk_52_method_15_code (2 : Nat) (Option.some Jvm.ClassFile.FieldType.byte), Jvm.Cond.code ({ cls := "java/util/ArrayList", name := "add", desc := "(Ljava/lang/Object;)Z" } : Jvm.MethodName) jdk_38_method_25_code (2 : Nat) (Option.some Jvm.ClassFile.FieldType.boolean), Jvm.Cond.code ({ cls := "java/util/ArrayList", name := "add", desc := "(Ljava/lang/Object;[Ljava/lang/Object;I)V" } : Jvm.MethodName) jdk_38_method_24_code (4 : Nat) (Option.none : Option Jvm.ClassFile.FieldType), Jvm.Cond.code ({ cls := "java/util/ArrayList", name := "grow", desc := "()[Ljava/lang/Object;" } : Jvm.MethodName) jdk_38_method_7_code (1 : Nat) (Option.some (Jvm.ClassFile.FieldType.array (Jvm.ClassFile.FieldType.object "java/lang/Object"))), Jvm.Cond.code ({ cls := "java/util/ArrayList", name := "grow", desc := "(I)[Ljava/lang/Object;" } : Jvm.MethodName) jdk_38_method_6_code (4 : Nat) (Option.some (Jvm.ClassFile.FieldType.array (Jvm.ClassFile.FieldType.object "java/lang/Object"))), Jvm.Cond.code ({ cls := "java/lang/Math", name := "max", desc := "(II)I" } : Jvm.MethodName) jdk_29_method_65_code (2 : Nat) (Option.some Jvm.ClassFile.FieldType.int), Jvm.Cond.code ({ cls := "java/util/ArrayList", name := "toArray", desc := "()[Ljava/lang/Object;" } : Jvm.MethodName) jdk_38_method_16_code (1 : Nat) (Option.some (Jvm.ClassFile.FieldType.array (Jvm.ClassFile.FieldType.object "java/lang/Object"))), Jvm.Cond.code ({ cls := "java/util/Arrays", name := "copyOf", desc := "([Ljava/lang/Object;I)[Ljava/lang/Object;" } : Jvm.MethodName) jdk_65_method_119_code (2 : Nat) (Option.some (Jvm.ClassFile.FieldType.array (Jvm.ClassFile.FieldType.object "java/lang/Object"))), Jvm.Cond.code ({ cls := "java/util/Arrays", name := "copyOf", desc := "([Ljava/lang/Object;ILjava/lang/Class;)[Ljava/lang/Object;" } : Jvm.MethodName) jdk_65_method_120_code (4 : Nat) (Option.some (Jvm.ClassFile.FieldType.array (Jvm.ClassFile.FieldType.object "java/lang/Object"))), Jvm.Cond.code ({ cls := "java/lang/Math", name := "min", desc := "(II)I" } : Jvm.MethodName) jdk_29_method_69_code (2 : Nat) (Option.some Jvm.ClassFile.FieldType.int), Jvm.Cond.code ({ cls := "java/util/List", name := "of", desc := "([Ljava/lang/Object;)Ljava/util/List;" } : Jvm.MethodName) jdk_40_method_47_code (2 : Nat) (Option.some (Jvm.ClassFile.FieldType.object "java/util/List")), Jvm.Cond.code ({ cls := "java/util/ImmutableCollections", name := "listFromArray", desc := "([Ljava/lang/Object;)Ljava/util/List;" } : Jvm.MethodName) jdk_56_method_4_code (3 : Nat) (Option.some (Jvm.ClassFile.FieldType.object "java/util/List")), Jvm.Cond.code ({ cls := "java/util/Objects", name := "requireNonNull", desc := "(Ljava/lang/Object;)Ljava/lang/Object;" } : Jvm.MethodName) jdk_31_method_10_code (1 : Nat) (Option.some (Jvm.ClassFile.FieldType.object "java/lang/Object")), Jvm.Cond.code ({ cls := "java/util/ImmutableCollections$ListN", name := "<init>", desc := "([Ljava/lang/Object;Z)V" } : Jvm.MethodName) jdk_45_method_1_code (3 : Nat) (Option.none : Option Jvm.ClassFile.FieldType), Jvm.Cond.code ({ cls := "java/util/ImmutableCollections$AbstractImmutableList", name := "<init>", desc := "()V" } : Jvm.MethodName) jdk_46_method_1_code (1 : Nat) (Option.none : Option Jvm.ClassFile.FieldType), Jvm.Cond.code ({ cls := "java/util/ImmutableCollections$AbstractImmutableCollection", name := "<init>", desc := "()V" } : Jvm.MethodName) jdk_47_method_1_code (1 : Nat) (Option.none : Option Jvm.ClassFile.FieldType), Jvm.Cond.code ({ cls := "java/lang/String", name := "equals", desc := "(Ljava/lang/Object;)Z" } : Jvm.MethodName) jdk_42_method_66_code (3 : Nat) (Option.some Jvm.ClassFile.FieldType.boolean), Jvm.Cond.code ({ cls := "java/lang/StringLatin1", name := "equals", desc := "([B[B)Z" } : Jvm.MethodName) jdk_43_method_13_code (3 : Nat) (Option.some Jvm.ClassFile.FieldType.boolean), Jvm.Cond.code ({ cls := "com/example/raccordo/raccordo/flow/XmlElementSameAttributesPinLaw", name := "pick", desc := "(IZZZ)Z" } : Jvm.MethodName) method_4_code (4 : Nat) (Option.some Jvm.ClassFile.FieldType.boolean), Jvm.Cond.code ({ cls := "java/util/ImmutableCollections$List12", name := "<init>", desc := "(Ljava/lang/Object;Ljava/lang/Object;)V" } : Jvm.MethodName) jdk_44_method_2_code (3 : Nat) (Option.none : Option Jvm.ClassFile.FieldType), Jvm.Cond.code ({ cls := "java/util/ImmutableCollections$List12", name := "<init>", desc := "(Ljava/lang/Object;)V" } : Jvm.MethodName) jdk_44_method_1_code (2 : Nat) (Option.none : Option Jvm.ClassFile.FieldType)]
set_option maxRecDepth 65536 in
theorem codes_eq : words1.filter isCode = codes1 := rfl
theorem w_codes : ∀ c ∈ words1.filter isCode, c.before args0 about1 = true := by
  rw [codes_eq]
  intro c hc
  simp only [codes1, List.mem_cons, List.not_mem_nil, or_false] at hc
  rcases hc with rfl | rfl | rfl | rfl | rfl | rfl | rfl | rfl | rfl | rfl | rfl | rfl | rfl | rfl | rfl | rfl | rfl | rfl | rfl | rfl | rfl | rfl | rfl | rfl | rfl | rfl | rfl | rfl | rfl | rfl | rfl | rfl | rfl | rfl | rfl | rfl | rfl
  · exact w_c0
  · exact w_c1
  · exact w_c2
  · exact w_c3
  · exact w_c4
  · exact w_c5
  · exact w_c6
  · exact w_c7
  · exact w_c8
  · exact w_c9
  · exact w_c10
  · exact w_c11
  · exact w_c12
  · exact w_c13
  · exact w_c14
  · exact w_c15
  · exact w_c16
  · exact w_c17
  · exact w_c18
  · exact w_c19
  · exact w_c20
  · exact w_c21
  · exact w_c22
  · exact w_c23
  · exact w_c24
  · exact w_c25
  · exact w_c26
  · exact w_c27
  · exact w_c28
  · exact w_c29
  · exact w_c30
  · exact w_c31
  · exact w_c32
  · exact w_c33
  · exact w_c34
  · exact w_c35
  · exact w_c36
set_option maxRecDepth 65536 in
theorem w_t1 : (words1.take 24).all (fun c => isCode c || c.before args0 about1) = true := by decide +kernel
set_option maxRecDepth 65536 in
theorem w_t2 : ((words1.drop 24).take 24).all (fun c => isCode c || c.before args0 about1) = true := by decide +kernel
set_option maxRecDepth 65536 in
theorem w_t3 : (((words1.drop 24).drop 24).take 24).all (fun c => isCode c || c.before args0 about1) = true := by decide +kernel
set_option maxRecDepth 65536 in
theorem w_t4 : ((((words1.drop 24).drop 24).drop 24).take 24).all (fun c => isCode c || c.before args0 about1) = true := by decide +kernel
set_option maxRecDepth 65536 in
theorem w_t5 : (((((words1.drop 24).drop 24).drop 24).drop 24).take 24).all (fun c => isCode c || c.before args0 about1) = true := by decide +kernel
set_option maxRecDepth 65536 in
theorem w_t6 : ((((((words1.drop 24).drop 24).drop 24).drop 24).drop 24).take 24).all (fun c => isCode c || c.before args0 about1) = true := by decide +kernel
set_option maxRecDepth 65536 in
theorem w_t7 : (((((((words1.drop 24).drop 24).drop 24).drop 24).drop 24).drop 24).take 24).all (fun c => isCode c || c.before args0 about1) = true := by decide +kernel
set_option maxRecDepth 65536 in
theorem w_t8 : ((((((((words1.drop 24).drop 24).drop 24).drop 24).drop 24).drop 24).drop 24).take 24).all (fun c => isCode c || c.before args0 about1) = true := by decide +kernel
set_option maxRecDepth 65536 in
theorem w_t9 : (((((((((words1.drop 24).drop 24).drop 24).drop 24).drop 24).drop 24).drop 24).drop 24).take 24).all (fun c => isCode c || c.before args0 about1) = true := by decide +kernel
set_option maxRecDepth 65536 in
theorem w_t10 : ((((((((((words1.drop 24).drop 24).drop 24).drop 24).drop 24).drop 24).drop 24).drop 24).drop 24).take 24).all (fun c => isCode c || c.before args0 about1) = true := by decide +kernel
set_option maxRecDepth 65536 in
theorem w_t11 : ((((((((((words1.drop 24).drop 24).drop 24).drop 24).drop 24).drop 24).drop 24).drop 24).drop 24).drop 24).all (fun c => isCode c || c.before args0 about1) = true := by decide +kernel
theorem w_tables : (allAtoms (Jvm.Cond.code x code maxLocals ret :: tables_1)).before args0 about1 = true := by
  rw [allAtoms_all]
  show words1.all (fun c => c.before args0 about1) = true
  refine all_split ?_ w_codes
  rw [← List.take_append_drop 24 words1, List.all_append, w_t1, ← List.take_append_drop 24 (words1.drop 24), List.all_append, w_t2, ← List.take_append_drop 24 ((words1.drop 24).drop 24), List.all_append, w_t3, ← List.take_append_drop 24 (((words1.drop 24).drop 24).drop 24), List.all_append, w_t4, ← List.take_append_drop 24 ((((words1.drop 24).drop 24).drop 24).drop 24), List.all_append, w_t5, ← List.take_append_drop 24 (((((words1.drop 24).drop 24).drop 24).drop 24).drop 24), List.all_append, w_t6, ← List.take_append_drop 24 ((((((words1.drop 24).drop 24).drop 24).drop 24).drop 24).drop 24), List.all_append, w_t7, ← List.take_append_drop 24 (((((((words1.drop 24).drop 24).drop 24).drop 24).drop 24).drop 24).drop 24), List.all_append, w_t8, ← List.take_append_drop 24 ((((((((words1.drop 24).drop 24).drop 24).drop 24).drop 24).drop 24).drop 24).drop 24), List.all_append, w_t9, ← List.take_append_drop 24 (((((((((words1.drop 24).drop 24).drop 24).drop 24).drop 24).drop 24).drop 24).drop 24).drop 24), List.all_append, w_t10, w_t11]
  rfl
set_option maxRecDepth 65536 in
theorem w_rest : rest_1_c.before args0 about1 = true := by decide +kernel
set_option maxRecDepth 65536 in
theorem w_case : (Jvm.Cond.and given_1 narrow_1).before args0 about1 = true := by decide +kernel
set_option maxRecDepth 65536 in
theorem w_consts : constsHeld consts_1 about1 := Jvm.Lit.constsHeldB_iff.mp (by decide +kernel)
theorem w_applies : (headSpec (Jvm.Cond.code x code maxLocals ret :: tables_1) room_1).applies x e0.platform about1 = true :=
  (Spec.applies_iff w_frames).mpr ⟨w_running, w_runnable, w_alone, w_named, w_hears, w_ripe, w_room, w_tables⟩
theorem atStart : AtStart classFile x code maxLocals ret World_1 tables_1 room_1 Calls_1 rest_1 Pre_1 launch0 p0 e0 about1 theMethod args0 below0 :=
  ⟨lists_1, trivial, launch0.admits_env _ _ _, launch0.least_env, fairChoices_fair.cas, fairChoices_fair.clock, w_frames, w_args, w_heap, w_applies, ⟨⟨38, k38, 4, by decide +kernel, rfl, rfl, _, rfl, rfl⟩, ⟨w_consts, trivial⟩⟩, w_rest, w_case⟩
end start1
theorem witness_1 : WitnessClaimed_1 := ⟨start1.p0, start1.e0, start1.about1, start1.theMethod, start1.args0, start1.below0, start1.atStart⟩
end Jvm.Pilot.@@N@@
