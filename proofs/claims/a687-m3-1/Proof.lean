import JvmDerived
import JvmDerived.Pilot.@@N@@Statement
import JvmDerived.Pilot.@@N@@Code
set_option linter.unusedVariables false
set_option linter.unusedSimpArgs false
set_option maxRecDepth 65536
set_option maxHeartbeats 40000000
@@BLOCK:NumsL.lean.txt@@
namespace Jvm.Pilot.@@N@@
open Jvm Jvm.ClassFile Sem Op Lib Jvm.Free Jvm.Stand Jvm.LawKit Jvm.RoadKit Bundle Jvm.Pilot.@@N@@.Jvm.D
section Own
variable {p : Program} {l : Launch} {e : Env} {R : Room} {s : State} {m : MethodId} {args : Array Value} {below : List Frame} {meth : Method} {c : Code} {T : State} {locs : List Loc} {cells slots : Nat}
/-- the walk from the state t ends as the contract Q says; End: the narrow frame or the wide one -/
def Go (End : State → Outcome → State → List Loc → Nat → Nat → Prop) (p : Program) (e : Env) (below : List Frame) (s : State) (rc rs : Nat) (Q : Option Value → Heap → List Loc → Prop) (t : State) : Prop :=
  ∃ s₂ o, Steps p.tables e below t s₂ ∧ s₂.status = .running ∧ Ended s₂ below o ∧ ∃ v L, o = .returned v ∧ Q v s₂.heap L ∧ End s o s₂ L rc rs
variable {End : State → Outcome → State → List Loc → Nat → Nat → Prop}
theorem go {rc rs : Nat} {Q : Option Value → Heap → List Loc → Prop} {t t' : State} (k : ∀ target, Steps p.tables e below t' target → Steps p.tables e below t target) (h : Go End p e below s rc rs Q t') : Go End p e below s rc rs Q t := by
  obtain ⟨s₂, o, h1, h2⟩ := h
  exact ⟨s₂, o, k _ h1, h2⟩
theorem goT {rc rs : Nat} {Q : Option Value → Heap → List Loc → Prop} {t t' : State} (k : Steps p.tables e below t t') (h : Go End p e below s rc rs Q t') : Go End p e below s rc rs Q t := by
  obtain ⟨s₂, o, h1, h2⟩ := h
  exact ⟨s₂, o, k.trans h1, h2⟩
theorem goRet {rc rs : Nat} {Q : Option Value → Heap → List Loc → Prop} (X : Stand p l e R s m args below meth c T locs cells slots) (hx : p.tables.exec = Jvm.exec) (hlk : meth.locks = false) {pc : Nat} {Ls : Array Slot} {w : Value} {t : FieldType} {i : Instr} {rest : List Value} (hret : meth.sig.returnType = some t) (hn : narrow t w = w)
    (hi : (i = .ireturn ∧ (t = .int ∨ t = .boolean ∨ t = .byte ∨ t = .char ∨ t = .short) ∧ ∃ z, w = .int z) ∨ (i = .lreturn ∧ t = .long ∧ ∃ z, w = .long z) ∨ (i = .dreturn ∧ t = .double ∧ ∃ z, w = .double z) ∨ (i = .freturn ∧ t = .float ∧ ∃ z, w = .float z) ∨ (i = .areturn ∧ t.isReference = true ∧ w.isRef = true))
    (hd : decode c.code pc = .ok (i, 1)) (hc : cells ≤ rc) (hs : slots ≤ rs) (hq : Q (some w) T.heap locs) : Go FrameEnd p e below s rc rs Q (T.setTop (mkF m pc Ls (w :: rest))) := by
  obtain ⟨fs, hr, hrun, hended, hW, hsame⟩ := X.leave (v := some w) (fun h => by rw [hret] at h; cases h) hlk
  refine ⟨_, _, retOut X hx hret hn hi hd hr, hrun, hended, _, _, rfl, ?_, ⟨_, rfl⟩, hW, hsame.mono hc hs⟩
  show Q _ T.heap _
  exact hq
theorem goRetN {rc rs : Nat} {Q : Option Value → Heap → List Loc → Prop} (X : Stand p l e R s m args below meth c T locs cells slots) (hx : p.tables.exec = Jvm.exec) (hlk : meth.locks = false) {pc : Nat} {Ls : Array Slot} {z : Int32} {t : FieldType} {rest : List Value} (hret : meth.sig.returnType = some t) (ht : t = .boolean ∨ t = .byte ∨ t = .char ∨ t = .short)
    (hd : decode c.code pc = .ok (.ireturn, 1)) (hc : cells ≤ rc) (hs : slots ≤ rs) (hq : Q (some (.int (nar t z))) T.heap locs) : Go FrameEnd p e below s rc rs Q (T.setTop (mkF m pc Ls (.int z :: rest))) := by
  obtain ⟨fs, hr, hrun, hended, hW, hsame⟩ := X.leave (v := some (.int (nar t z))) (fun h => by rw [hret] at h; cases h) hlk
  refine ⟨_, _, retN X hx hret ht hd hr, hrun, hended, _, _, rfl, ?_, ⟨_, rfl⟩, hW, hsame.mono hc hs⟩
  show Q _ T.heap _
  exact hq
theorem goRet0 {rc rs : Nat} {Q : Option Value → Heap → List Loc → Prop} (X : Stand p l e R s m args below meth c T locs cells slots) (hx : p.tables.exec = Jvm.exec) (hlk : meth.locks = false) {pc : Nat} {Ls : Array Slot} (hret : meth.sig.returnType = none)
    (hd : decode c.code pc = .ok (.return_, 1)) (hc : cells ≤ rc) (hs : slots ≤ rs) (hq : Q none T.heap locs) : Go FrameEnd p e below s rc rs Q (T.setTop (mkF m pc Ls [])) := by
  obtain ⟨fs, hr, hrun, hended, hW, hsame⟩ := X.leave (v := none) (fun _ => rfl) hlk
  refine ⟨_, _, X.returnOut hx hret hd hr, hrun, hended, _, _, rfl, ?_, ⟨_, rfl⟩, hW, hsame.mono hc hs⟩
  show Q _ T.heap _
  exact hq
end Own
section OwnC
variable {p : Program} {l : Launch} {e : Env} {R : Room} {s s0 : State} {m : MethodId} {args a0 : Array Value} {below : List Frame} {meth : Method} {c : Code} {T Z : State} {locs : List Loc} {cells slots : Nat} {h : Heap} {End : State → Outcome → State → List Loc → Nat → Nat → Prop} {rc rs : Nat} {Q : Option Value → Heap → List Loc → Prop} {pc : Nat} {Ls : Array Slot} {st rest : List Value} {b : ByteArray}
def HW (Z : State) (a0 : Array Value) : Prop := ∀ d ∈ tables_1, d.before a0 Z = true
theorem gw (hw : HW Z a0) (i : Nat) {d : Jvm.Cond} (q : tables_1[i]? = some d) : d.before a0 Z = true := hw _ (List.mem_of_getElem? q)
theorem c_sh (pc' : Nat) (st' : List Value) (hp : pc = pc') (hs : st = st') (hg : Go End p e below s0 rc rs Q (T.setTop (mkF m pc' Ls st'))) : Go End p e below s0 rc rs Q (T.setTop (mkF m pc Ls st)) := by subst hp hs; exact hg
theorem c_shL (l' : Array Slot) (hl : Ls = l') (hg : Go End p e below s0 rc rs Q (T.setTop (mkF m pc l' st))) : Go End p e below s0 rc rs Q (T.setTop (mkF m pc Ls st)) := by subst hl; exact hg
theorem c_iload (X : Stand p l e R s m args below meth c T locs cells slots) (hx : p.tables.exec = Jvm.exec) (hby : c.code = b) {k : Nat} {v : Int32} (hd : decode b pc = .ok (.iload k, 2)) (hl : Ls[k]? = some (.val (.int v))) (hg : Go End p e below s0 rc rs Q (T.setTop (mkF m (pc + 2) Ls ((.int v) :: st)))) : Go End p e below s0 rc rs Q (T.setTop (mkF m pc Ls st)) := go (fun _ => XS.iload X.here hx rfl (hb hby hd) hl) hg
theorem c_iloadN (X : Stand p l e R s m args below meth c T locs cells slots) (hx : p.tables.exec = Jvm.exec) (hby : c.code = b) {k : Fin 4} {v : Int32} (hd : decode b pc = .ok (.iload_n k, 1)) (hl : Ls[k.val]? = some (.val (.int v))) (hg : Go End p e below s0 rc rs Q (T.setTop (mkF m (pc + 1) Ls ((.int v) :: st)))) : Go End p e below s0 rc rs Q (T.setTop (mkF m pc Ls st)) := go (fun _ => XS.iloadN X.here hx rfl (hb hby hd) hl) hg
theorem c_lload (X : Stand p l e R s m args below meth c T locs cells slots) (hx : p.tables.exec = Jvm.exec) (hby : c.code = b) {k : Nat} {v : Int64} (hd : decode b pc = .ok (.lload k, 2)) (hl : Ls[k]? = some (.val (.long v))) (hg : Go End p e below s0 rc rs Q (T.setTop (mkF m (pc + 2) Ls ((.long v) :: st)))) : Go End p e below s0 rc rs Q (T.setTop (mkF m pc Ls st)) := go (fun _ => XS.lload X.here hx rfl (hb hby hd) hl) hg
theorem c_lloadN (X : Stand p l e R s m args below meth c T locs cells slots) (hx : p.tables.exec = Jvm.exec) (hby : c.code = b) {k : Fin 4} {v : Int64} (hd : decode b pc = .ok (.lload_n k, 1)) (hl : Ls[k.val]? = some (.val (.long v))) (hg : Go End p e below s0 rc rs Q (T.setTop (mkF m (pc + 1) Ls ((.long v) :: st)))) : Go End p e below s0 rc rs Q (T.setTop (mkF m pc Ls st)) := go (fun _ => XS.lloadN X.here hx rfl (hb hby hd) hl) hg
theorem c_aload (X : Stand p l e R s m args below meth c T locs cells slots) (hx : p.tables.exec = Jvm.exec) (hby : c.code = b) {k : Nat} {v : Value} (hd : decode b pc = .ok (.aload k, 2)) (hl : Ls[k]? = some (.val v)) (hv : v.isRef = true) (hg : Go End p e below s0 rc rs Q (T.setTop (mkF m (pc + 2) Ls (v :: st)))) : Go End p e below s0 rc rs Q (T.setTop (mkF m pc Ls st)) := go (fun _ => XS.aload X.here hx rfl (hb hby hd) hl hv) hg
theorem c_aloadN (X : Stand p l e R s m args below meth c T locs cells slots) (hx : p.tables.exec = Jvm.exec) (hby : c.code = b) {k : Fin 4} {v : Value} (hd : decode b pc = .ok (.aload_n k, 1)) (hl : Ls[k.val]? = some (.val v)) (hv : v.isRef = true) (hg : Go End p e below s0 rc rs Q (T.setTop (mkF m (pc + 1) Ls (v :: st)))) : Go End p e below s0 rc rs Q (T.setTop (mkF m pc Ls st)) := go (fun _ => XS.aloadN X.here hx rfl (hb hby hd) hl hv) hg
theorem c_istore (X : Stand p l e R s m args below meth c T locs cells slots) (hx : p.tables.exec = Jvm.exec) (hby : c.code = b) {k : Nat} {x : Int32} (l' : Array Slot) (hd : decode b pc = .ok (.istore k, 2)) (hl : storeLocals Ls k (.int x) = some l') (hg : Go End p e below s0 rc rs Q (T.setTop (mkF m (pc + 2) l' st))) : Go End p e below s0 rc rs Q (T.setTop (mkF m pc Ls ((.int x) :: st))) := go (fun _ => XS.istore X.here hx rfl (hb hby hd) rfl hl) hg
theorem c_istoreN (X : Stand p l e R s m args below meth c T locs cells slots) (hx : p.tables.exec = Jvm.exec) (hby : c.code = b) {k : Fin 4} {x : Int32} (l' : Array Slot) (hd : decode b pc = .ok (.istore_n k, 1)) (hl : storeLocals Ls k.val (.int x) = some l') (hg : Go End p e below s0 rc rs Q (T.setTop (mkF m (pc + 1) l' st))) : Go End p e below s0 rc rs Q (T.setTop (mkF m pc Ls ((.int x) :: st))) := go (fun _ => XS.istoreN X.here hx rfl (hb hby hd) rfl hl) hg
theorem c_astore (X : Stand p l e R s m args below meth c T locs cells slots) (hx : p.tables.exec = Jvm.exec) (hby : c.code = b) {k : Nat} {x : Value} (l' : Array Slot) (hd : decode b pc = .ok (.astore k, 2)) (hv : x.isRef = true) (hl : storeLocals Ls k x = some l') (hg : Go End p e below s0 rc rs Q (T.setTop (mkF m (pc + 2) l' st))) : Go End p e below s0 rc rs Q (T.setTop (mkF m pc Ls (x :: st))) := go (fun _ => XS.astore X.here hx rfl (hb hby hd) rfl hv hl) hg
theorem c_astoreN (X : Stand p l e R s m args below meth c T locs cells slots) (hx : p.tables.exec = Jvm.exec) (hby : c.code = b) {k : Fin 4} {x : Value} (l' : Array Slot) (hd : decode b pc = .ok (.astore_n k, 1)) (hv : x.isRef = true) (hl : storeLocals Ls k.val x = some l') (hg : Go End p e below s0 rc rs Q (T.setTop (mkF m (pc + 1) l' st))) : Go End p e below s0 rc rs Q (T.setTop (mkF m pc Ls (x :: st))) := go (fun _ => XS.astoreN X.here hx rfl (hb hby hd) rfl hv hl) hg
theorem c_iconst (X : Stand p l e R s m args below meth c T locs cells slots) (hx : p.tables.exec = Jvm.exec) (hby : c.code = b) {i : Int} (z : Int32) (hd : decode b pc = .ok (.iconst i, 1)) (hz : Int32.ofInt i = z) (hg : Go End p e below s0 rc rs Q (T.setTop (mkF m (pc + 1) Ls (.int z :: st)))) : Go End p e below s0 rc rs Q (T.setTop (mkF m pc Ls st)) := by subst hz; exact go (fun _ => XS.iconst X.here hx rfl (hb hby hd)) hg
theorem c_bipush (X : Stand p l e R s m args below meth c T locs cells slots) (hx : p.tables.exec = Jvm.exec) (hby : c.code = b) {i : Int} (z : Int32) (hd : decode b pc = .ok (.bipush i, 2)) (hz : (Int8.ofInt i).toInt32 = z) (hg : Go End p e below s0 rc rs Q (T.setTop (mkF m (pc + 2) Ls (.int z :: st)))) : Go End p e below s0 rc rs Q (T.setTop (mkF m pc Ls st)) := by subst hz; exact go (fun _ => XS.bipush X.here hx rfl (hb hby hd)) hg
theorem c_sipush (X : Stand p l e R s m args below meth c T locs cells slots) (hx : p.tables.exec = Jvm.exec) (hby : c.code = b) {i : Int} (z : Int32) (hd : decode b pc = .ok (.sipush i, 3)) (hz : (Int16.ofInt i).toInt32 = z) (hg : Go End p e below s0 rc rs Q (T.setTop (mkF m (pc + 3) Ls (.int z :: st)))) : Go End p e below s0 rc rs Q (T.setTop (mkF m pc Ls st)) := by subst hz; exact go (fun _ => XS.sipush X.here hx rfl (hb hby hd)) hg
theorem c_iadd (X : Stand p l e R s m args below meth c T locs cells slots) (hx : p.tables.exec = Jvm.exec) (hby : c.code = b) {x y : Int32} (hd : decode b pc = .ok (.iadd, 1))  (hg : Go End p e below s0 rc rs Q (T.setTop (mkF m (pc + 1) Ls (.int (x + y) :: st)))) : Go End p e below s0 rc rs Q (T.setTop (mkF m pc Ls (.int y :: .int x :: st))) := go (fun _ => XS.iadd X.here hx rfl (hb hby hd) rfl) hg
theorem c_isub (X : Stand p l e R s m args below meth c T locs cells slots) (hx : p.tables.exec = Jvm.exec) (hby : c.code = b) {x y : Int32} (hd : decode b pc = .ok (.isub, 1))  (hg : Go End p e below s0 rc rs Q (T.setTop (mkF m (pc + 1) Ls (.int (x - y) :: st)))) : Go End p e below s0 rc rs Q (T.setTop (mkF m pc Ls (.int y :: .int x :: st))) := go (fun _ => XS.isub X.here hx rfl (hb hby hd) rfl) hg
theorem c_imul (X : Stand p l e R s m args below meth c T locs cells slots) (hx : p.tables.exec = Jvm.exec) (hby : c.code = b) {x y : Int32} (hd : decode b pc = .ok (.imul, 1))  (hg : Go End p e below s0 rc rs Q (T.setTop (mkF m (pc + 1) Ls (.int (x * y) :: st)))) : Go End p e below s0 rc rs Q (T.setTop (mkF m pc Ls (.int y :: .int x :: st))) := go (fun _ => XS.imul X.here hx rfl (hb hby hd) rfl) hg
theorem c_iand (X : Stand p l e R s m args below meth c T locs cells slots) (hx : p.tables.exec = Jvm.exec) (hby : c.code = b) {x y : Int32} (hd : decode b pc = .ok (.iand, 1))  (hg : Go End p e below s0 rc rs Q (T.setTop (mkF m (pc + 1) Ls (.int (x &&& y) :: st)))) : Go End p e below s0 rc rs Q (T.setTop (mkF m pc Ls (.int y :: .int x :: st))) := go (fun _ => XS.iand X.here hx rfl (hb hby hd) rfl) hg
theorem c_ior (X : Stand p l e R s m args below meth c T locs cells slots) (hx : p.tables.exec = Jvm.exec) (hby : c.code = b) {x y : Int32} (hd : decode b pc = .ok (.ior, 1))  (hg : Go End p e below s0 rc rs Q (T.setTop (mkF m (pc + 1) Ls (.int (x ||| y) :: st)))) : Go End p e below s0 rc rs Q (T.setTop (mkF m pc Ls (.int y :: .int x :: st))) := go (fun _ => XS.ior X.here hx rfl (hb hby hd) rfl) hg
theorem c_ixor (X : Stand p l e R s m args below meth c T locs cells slots) (hx : p.tables.exec = Jvm.exec) (hby : c.code = b) {x y : Int32} (hd : decode b pc = .ok (.ixor, 1))  (hg : Go End p e below s0 rc rs Q (T.setTop (mkF m (pc + 1) Ls (.int (x ^^^ y) :: st)))) : Go End p e below s0 rc rs Q (T.setTop (mkF m pc Ls (.int y :: .int x :: st))) := go (fun _ => XS.ixor X.here hx rfl (hb hby hd) rfl) hg
theorem c_ishl (X : Stand p l e R s m args below meth c T locs cells slots) (hx : p.tables.exec = Jvm.exec) (hby : c.code = b) {x y : Int32} (hd : decode b pc = .ok (.ishl, 1))  (hg : Go End p e below s0 rc rs Q (T.setTop (mkF m (pc + 1) Ls (.int (x <<< (y &&& 31)) :: st)))) : Go End p e below s0 rc rs Q (T.setTop (mkF m pc Ls (.int y :: .int x :: st))) := go (fun _ => XS.ishl X.here hx rfl (hb hby hd) rfl) hg
theorem c_ishr (X : Stand p l e R s m args below meth c T locs cells slots) (hx : p.tables.exec = Jvm.exec) (hby : c.code = b) {x y : Int32} (hd : decode b pc = .ok (.ishr, 1))  (hg : Go End p e below s0 rc rs Q (T.setTop (mkF m (pc + 1) Ls (.int (x >>> (y &&& 31)) :: st)))) : Go End p e below s0 rc rs Q (T.setTop (mkF m pc Ls (.int y :: .int x :: st))) := go (fun _ => XS.ishr X.here hx rfl (hb hby hd) rfl) hg
theorem c_iushr (X : Stand p l e R s m args below meth c T locs cells slots) (hx : p.tables.exec = Jvm.exec) (hby : c.code = b) {x y : Int32} (hd : decode b pc = .ok (.iushr, 1))  (hg : Go End p e below s0 rc rs Q (T.setTop (mkF m (pc + 1) Ls (.int ((x.toUInt32 >>> (y &&& 31).toUInt32).toInt32) :: st)))) : Go End p e below s0 rc rs Q (T.setTop (mkF m pc Ls (.int y :: .int x :: st))) := go (fun _ => XS.iushr X.here hx rfl (hb hby hd) rfl) hg
theorem c_i2b (X : Stand p l e R s m args below meth c T locs cells slots) (hx : p.tables.exec = Jvm.exec) (hby : c.code = b) {x : Int32} (hd : decode b pc = .ok (.i2b, 1))  (hg : Go End p e below s0 rc rs Q (T.setTop (mkF m (pc + 1) Ls (.int (x.toInt8.toInt32) :: st)))) : Go End p e below s0 rc rs Q (T.setTop (mkF m pc Ls (.int x :: st))) := go (fun _ => XS.i2b X.here hx rfl (hb hby hd) rfl) hg
theorem c_i2c (X : Stand p l e R s m args below meth c T locs cells slots) (hx : p.tables.exec = Jvm.exec) (hby : c.code = b) {x : Int32} (hd : decode b pc = .ok (.i2c, 1))  (hg : Go End p e below s0 rc rs Q (T.setTop (mkF m (pc + 1) Ls (.int (x.toUInt32.toUInt16.toUInt32.toInt32) :: st)))) : Go End p e below s0 rc rs Q (T.setTop (mkF m pc Ls (.int x :: st))) := go (fun _ => XS.i2c X.here hx rfl (hb hby hd) rfl) hg
theorem c_dup (X : Stand p l e R s m args below meth c T locs cells slots) (hx : p.tables.exec = Jvm.exec) (hby : c.code = b) {x : Value} (hd : decode b pc = .ok (.dup, 1)) (hc : x.category = 1) (hg : Go End p e below s0 rc rs Q (T.setTop (mkF m (pc + 1) Ls (x :: x :: st)))) : Go End p e below s0 rc rs Q (T.setTop (mkF m pc Ls (x :: st))) := go (fun _ => XS.dup X.here hx rfl (hb hby hd) rfl hc) hg
theorem c_pop (X : Stand p l e R s m args below meth c T locs cells slots) (hx : p.tables.exec = Jvm.exec) (hby : c.code = b) {x : Value} (hd : decode b pc = .ok (.pop, 1)) (hc : x.category = 1) (hg : Go End p e below s0 rc rs Q (T.setTop (mkF m (pc + 1) Ls st))) : Go End p e below s0 rc rs Q (T.setTop (mkF m pc Ls (x :: st))) := go (fun _ => XS.pop X.here hx rfl (hb hby hd) rfl hc) hg
theorem c_aconstNull (X : Stand p l e R s m args below meth c T locs cells slots) (hx : p.tables.exec = Jvm.exec) (hby : c.code = b)  (hd : decode b pc = .ok (.aconst_null, 1))  (hg : Go End p e below s0 rc rs Q (T.setTop (mkF m (pc + 1) Ls (.null :: st)))) : Go End p e below s0 rc rs Q (T.setTop (mkF m pc Ls st)) := go (fun _ => XS.aconstNull X.here hx rfl (hb hby hd)) hg
theorem c_irem (X : Stand p l e R s m args below meth c T locs cells slots) (hx : p.tables.exec = Jvm.exec) (hby : c.code = b) {x y : Int32} (hd : decode b pc = .ok (.irem, 1)) (hy : y ≠ 0) (hg : Go End p e below s0 rc rs Q (T.setTop (mkF m (pc + 1) Ls (.int (x % y) :: st)))) : Go End p e below s0 rc rs Q (T.setTop (mkF m pc Ls (.int y :: .int x :: st))) := go (fun _ => iremM X hx rfl (hb hby hd) rfl hy) hg
theorem c_goto (X : Stand p l e R s m args below meth c T locs cells slots) (hx : p.tables.exec = Jvm.exec) (hby : c.code = b) {o : Int} (pc' : Nat) (hd : decode b pc = .ok (.goto o, 3)) (ho : 0 ≤ (pc : Int) + o ∧ ((pc : Int) + o).toNat = pc') (hg : Go End p e below s0 rc rs Q (T.setTop (mkF m pc' Ls st))) : Go End p e below s0 rc rs Q (T.setTop (mkF m pc Ls st)) := go (fun _ => XS.goto X.here hx rfl (pc0 := pc) (pc' := pc') rfl (hb hby hd) ho.1 ho.2) hg
theorem c_ifYes (X : Stand p l e R s m args below meth c T locs cells slots) (hx : p.tables.exec = Jvm.exec) (hby : c.code = b) {cd : ClassFile.Cond} {x : Int32} {o : Int} (pc' : Nat) (hd : decode b pc = .ok (.ifCond cd o, 3)) (hc : ifCond.holds cd x = true) (ho : 0 ≤ (pc : Int) + o ∧ ((pc : Int) + o).toNat = pc') (hg : Go End p e below s0 rc rs Q (T.setTop (mkF m pc' Ls st))) : Go End p e below s0 rc rs Q (T.setTop (mkF m pc Ls (.int x :: st))) := go (fun _ => XS.ifYes X.here hx rfl (pc0 := pc) (pc' := pc') rfl (hb hby hd) rfl hc ho.1 ho.2) hg
theorem c_ifNo (X : Stand p l e R s m args below meth c T locs cells slots) (hx : p.tables.exec = Jvm.exec) (hby : c.code = b) {cd : ClassFile.Cond} {x : Int32} {o : Int} (hd : decode b pc = .ok (.ifCond cd o, 3)) (hc : ifCond.holds cd x = false) (hg : Go End p e below s0 rc rs Q (T.setTop (mkF m (pc + 3) Ls st))) : Go End p e below s0 rc rs Q (T.setTop (mkF m pc Ls (.int x :: st))) := go (fun _ => XS.ifNo X.here hx rfl (hb hby hd) rfl hc) hg
theorem c_icmpYes (X : Stand p l e R s m args below meth c T locs cells slots) (hx : p.tables.exec = Jvm.exec) (hby : c.code = b) {cd : ClassFile.Cond} {x y : Int32} {o : Int} (pc' : Nat) (hd : decode b pc = .ok (.if_icmp cd o, 3)) (hc : if_icmp.holds cd x y = true) (ho : 0 ≤ (pc : Int) + o ∧ ((pc : Int) + o).toNat = pc') (hg : Go End p e below s0 rc rs Q (T.setTop (mkF m pc' Ls st))) : Go End p e below s0 rc rs Q (T.setTop (mkF m pc Ls (.int y :: .int x :: st))) := go (fun _ => XS.icmpYes X.here hx rfl (pc0 := pc) (pc' := pc') rfl (hb hby hd) rfl hc ho.1 ho.2) hg
theorem c_icmpNo (X : Stand p l e R s m args below meth c T locs cells slots) (hx : p.tables.exec = Jvm.exec) (hby : c.code = b) {cd : ClassFile.Cond} {x y : Int32} {o : Int} (hd : decode b pc = .ok (.if_icmp cd o, 3)) (hc : if_icmp.holds cd x y = false) (hg : Go End p e below s0 rc rs Q (T.setTop (mkF m (pc + 3) Ls st))) : Go End p e below s0 rc rs Q (T.setTop (mkF m pc Ls (.int y :: .int x :: st))) := go (fun _ => XS.icmpNo X.here hx rfl (hb hby hd) rfl hc) hg
theorem c_ifnullYes (X : Stand p l e R s m args below meth c T locs cells slots) (hx : p.tables.exec = Jvm.exec) (hby : c.code = b) {o : Int} (pc' : Nat) (hd : decode b pc = .ok (.ifnull o, 3)) (ho : 0 ≤ (pc : Int) + o ∧ ((pc : Int) + o).toNat = pc') (hg : Go End p e below s0 rc rs Q (T.setTop (mkF m pc' Ls st))) : Go End p e below s0 rc rs Q (T.setTop (mkF m pc Ls (.null :: st))) := go (fun _ => XS.ifnullYes X.here hx rfl (pc0 := pc) (pc' := pc') rfl (hb hby hd) rfl ho.1 ho.2) hg
theorem c_ifnullNo (X : Stand p l e R s m args below meth c T locs cells slots) (hx : p.tables.exec = Jvm.exec) (hby : c.code = b) {a : Addr} {o : Int} (hd : decode b pc = .ok (.ifnull o, 3))  (hg : Go End p e below s0 rc rs Q (T.setTop (mkF m (pc + 3) Ls st))) : Go End p e below s0 rc rs Q (T.setTop (mkF m pc Ls (.ref a :: st))) := go (fun _ => XS.ifnullNo X.here hx rfl (hb hby hd) rfl) hg
theorem c_ifnonnullYes (X : Stand p l e R s m args below meth c T locs cells slots) (hx : p.tables.exec = Jvm.exec) (hby : c.code = b) {a : Addr} {o : Int} (pc' : Nat) (hd : decode b pc = .ok (.ifnonnull o, 3)) (ho : 0 ≤ (pc : Int) + o ∧ ((pc : Int) + o).toNat = pc') (hg : Go End p e below s0 rc rs Q (T.setTop (mkF m pc' Ls st))) : Go End p e below s0 rc rs Q (T.setTop (mkF m pc Ls (.ref a :: st))) := go (fun _ => XT.ifnonnullYes X.here hx rfl (pc0 := pc) (pc' := pc') rfl (hb hby hd) rfl ho.1 ho.2) hg
theorem c_ifnonnullNo (X : Stand p l e R s m args below meth c T locs cells slots) (hx : p.tables.exec = Jvm.exec) (hby : c.code = b) {o : Int} (hd : decode b pc = .ok (.ifnonnull o, 3))  (hg : Go End p e below s0 rc rs Q (T.setTop (mkF m (pc + 3) Ls st))) : Go End p e below s0 rc rs Q (T.setTop (mkF m pc Ls (.null :: st))) := go (fun _ => XT.ifnonnullNo X.here hx rfl (hb hby hd) rfl) hg
theorem c_iinc (X : Stand p l e R s m args below meth c T locs cells slots) (hx : p.tables.exec = Jvm.exec) (hby : c.code = b) {k : Nat} {cst : Int} {x : Int32} (l' : Array Slot) (hd : decode b pc = .ok (.iinc k cst, 3)) (hl : Ls[k]? = some (.val (.int x))) (hl' : storeLocals Ls k (.int (x + Int32.ofInt cst)) = some l') (hg : Go End p e below s0 rc rs Q (T.setTop (mkF m (pc + 3) l' st))) : Go End p e below s0 rc rs Q (T.setTop (mkF m pc Ls st)) := go (fun _ => XS.iinc X.here hx rfl (hb hby hd) hl hl') hg
theorem c_ldcI (X : Stand p l e R s m args below meth c T locs cells slots) (hx : p.tables.exec = Jvm.exec) (hby : c.code = b) (hZ : Z.Warmed39 s.vm) {own : String} {index : Nat} (hown : s.vm.findClass own = some m.cls) {v : Int32} (w : (Jvm.Cond.constant own index v).before a0 Z = true) (hd : decode b pc = .ok (.ldc index, 2)) (hg : Go End p e below s0 rc rs Q (T.setTop (mkF m (pc + 2) Ls (.int v :: st)))) : Go End p e below s0 rc rs Q (T.setTop (mkF m pc Ls st)) := by
  exact go (X.ldcInt hx hown (mvT hZ w) (g := mkF m pc Ls st) rfl (hb hby hd)) hg
theorem c_getf (X : Stand p l e R s m args below meth c T locs cells slots) (hx : p.tables.exec = Jvm.exec) (hby : c.code = b) (hZ : Z.Warmed39 s.vm) {own : String} {index : Nat} (hown : s.vm.findClass own = some m.cls) {R0 O n d : String} (w : (Jvm.Cond.fieldLink own index R0 n d).before a0 Z = true) (via : Via Z R0 O n d) (eT : T.heap = h) {a : Addr} {v : Value} (F : Fld Z h a O n d v) (hd : decode b pc = .ok (.getfield index, 3)) (k : ∀ T', Stand p l e R s m args below meth c T' locs cells slots → T'.heap = h → Go End p e below s0 rc rs Q (T'.setTop (mkF m (pc + 3) Ls (v :: st)))) : Go End p e below s0 rc rs Q (T.setTop (mkF m pc Ls (.ref a :: st))) := by
  obtain ⟨T', X', e', q⟩ := getF X hx hZ hown (host := "") (Or.inl w) via eT F (g := mkF m pc Ls (.ref a :: st)) rfl rfl (hb hby hd); exact go q (k T' X' e')
theorem c_gets (X : Stand p l e R s m args below meth c T locs cells slots) (hx : p.tables.exec = Jvm.exec) (hby : c.code = b) (hZ : Z.Warmed39 s.vm) {own : String} {index : Nat} (hown : s.vm.findClass own = some m.cls) {R0 O n d : String} (w : (Jvm.Cond.fieldLink own index R0 n d).before a0 Z = true) (via : Via Z R0 O n d) (eT : T.heap = h) {v : Value} (F : Sta Z h O n d v) (hd : decode b pc = .ok (.getstatic index, 3)) (k : ∀ T', Stand p l e R s m args below meth c T' locs cells slots → T'.heap = h → Go End p e below s0 rc rs Q (T'.setTop (mkF m (pc + 3) Ls (v :: st)))) : Go End p e below s0 rc rs Q (T.setTop (mkF m pc Ls st)) := by
  obtain ⟨T', X', e', q⟩ := getS2 X hx hZ hown (host := "") (Or.inl w) via eT F (g := mkF m pc Ls st) rfl (hb hby hd); exact go q (k T' X' e')
theorem c_putf (X : Stand p l e R s m args below meth c T locs cells slots) (hx : p.tables.exec = Jvm.exec) (hby : c.code = b) (hZ : Z.Warmed39 s.vm) {own : String} {index : Nat} (hown : s.vm.findClass own = some m.cls) {R0 O n d : String} (w : (Jvm.Cond.fieldLink own index R0 n d).before a0 Z = true) (via : Via Z R0 O n d) (eT : T.heap = h) {a : Addr} {v old : Value} (F : Fld Z h a O n d old) {C : String} {kk : Nat} (E : Exa Z h a C) (Y : (Jvm.Cond.lays C O n d).before a0 Z = true ∨ ((Jvm.Cond.laysFinal C O n d).before a0 Z = true ∧ own = O ∧ meth.name = "<init>")) (wi : (Jvm.Cond.instantiable C kk).before a0 Z = true) (ty : FieldType) (hty : parseFieldDescriptor d = some ty) (hn : narrow ty v = v) (hf : fits ty v = true) (hd : decode b pc = .ok (.putfield index, 3)) (k : ∀ T' h', Stand p l e R s m args below meth c T' (locs ++ [⟨a, Jvm.RoadKit.slotOf Z O n d⟩]) cells slots → T'.heap = h' → Wr h h' a (Jvm.RoadKit.slotOf Z O n d) v → Go End p e below s0 rc rs Q (T'.setTop (mkF m (pc + 3) Ls st))) : Go End p e below s0 rc rs Q (T.setTop (mkF m pc Ls (v :: .ref a :: st))) := by
  obtain ⟨T', h', X', e', W, q⟩ := putF X hx hZ hown (host := "") (Or.inl w) via eT F E Y wi hty hn hf (g := mkF m pc Ls (v :: .ref a :: st)) rfl rfl (hb hby hd); exact go q (k T' h' X' e' W)
theorem c_putn (X : Stand p l e R s m args below meth c T locs cells slots) (hx : p.tables.exec = Jvm.exec) (hby : c.code = b) (hZ : Z.Warmed39 s.vm) {own : String} {index : Nat} (hown : s.vm.findClass own = some m.cls) {R0 O n d : String} (w : (Jvm.Cond.fieldLink own index R0 n d).before a0 Z = true) (via : Via Z R0 O n d) (eT : T.heap = h) {a : Addr} {v old : Value} (v' : Value) (F : Fld Z h a O n d old) {C : String} {kk : Nat} (E : Exa Z h a C) (Y : (Jvm.Cond.lays C O n d).before a0 Z = true ∨ ((Jvm.Cond.laysFinal C O n d).before a0 Z = true ∧ own = O ∧ meth.name = "<init>")) (wi : (Jvm.Cond.instantiable C kk).before a0 Z = true) (ty : FieldType) (hty : parseFieldDescriptor d = some ty) (hn : narrow ty v = v') (hf : fits ty v' = true) (hd : decode b pc = .ok (.putfield index, 3)) (k : ∀ T' h', Stand p l e R s m args below meth c T' (locs ++ [⟨a, Jvm.RoadKit.slotOf Z O n d⟩]) cells slots → T'.heap = h' → Wr h h' a (Jvm.RoadKit.slotOf Z O n d) v' → Go End p e below s0 rc rs Q (T'.setTop (mkF m (pc + 3) Ls st))) : Go End p e below s0 rc rs Q (T.setTop (mkF m pc Ls (v :: .ref a :: st))) := by
  obtain ⟨T', h', X', e', W, q⟩ := putFN X hx hZ hown w via eT F E Y wi hty hn hf (g := mkF m pc Ls (v :: .ref a :: st)) rfl rfl (hb hby hd); exact go q (k T' h' X' e' W)
theorem c_new (X : Stand p l e R s m args below meth c T locs cells slots) (hx : p.tables.exec = Jvm.exec) (hby : c.code = b) (hZ : Z.Warmed39 s.vm) {own : String} {index : Nat} (hown : s.vm.findClass own = some m.cls) {C : String} {n : Nat} (w : (Jvm.Cond.classLink own index C).before a0 Z = true) (wi : (Jvm.Cond.instantiable C n).before a0 Z = true) (wz : (Jvm.Cond.initialized C).before a0 Z = true) (eT : T.heap = h) (hd : decode b pc = .ok (.new index, 3)) (hc : cells + 1 ≤ R.cells ∧ slots + n ≤ R.slots) (k : ∀ T' h' x, x = h.size → Stand p l e R s m args below meth c T' locs (cells + 1) (slots + n) → T'.heap = h' → Ext h h' → Exa Z h' x C → (∀ {O nm d : String} {ty : FieldType}, Laid Z a0 C O nm d → parseFieldDescriptor d = some ty → Fld Z h' x O nm d (defaultValue ty)) → Go End p e below s0 rc rs Q (T'.setTop (mkF m (pc + 3) Ls (.ref x :: st)))) : Go End p e below s0 rc rs Q (T.setTop (mkF m pc Ls st)) := by
  obtain ⟨T', h', X', e', E, A, D, -, q⟩ := newO X hx hZ hown w wi wz eT (g := mkF m pc Ls st) rfl (hb hby hd) hc.1 hc.2; exact go q (k T' h' _ rfl X' e' E A D)
theorem c_newP (X : Stand p l e R s m args below meth c T locs cells slots) (hx : p.tables.exec = Jvm.exec) (hby : c.code = b) (hZ : Z.Warmed39 s.vm) {aty : ArrayType} (w : (Jvm.Cond.arrayClass (newarray.typeOf aty)).before a0 Z = true) (eT : T.heap = h) (hd : decode b pc = .ok (.newarray aty, 2)) {n : Int32} (hn : ¬ n < 0) (cap : Nat) (hcap : n.toNatClampNeg ≤ cap) (hc : cap * 8 ≤ 536870912 ∧ cells + 1 ≤ R.cells ∧ slots + cap ≤ R.slots) (ad : String) (had : "[" ++ (newarray.typeOf aty).toString = ad) (k : ∀ T' h' cA x, x = h.size → Stand p l e R s m args below meth c T' locs (cells + 1) (slots + cap) → T'.heap = h' → Ext h h' → Arr Z h' x (newA cA (newarray.typeOf aty) n) (newarray.typeOf aty) → Exa Z h' x ad → Go End p e below s0 rc rs Q (T'.setTop (mkF m (pc + 2) Ls (.ref x :: st)))) : Go End p e below s0 rc rs Q (T.setTop (mkF m pc Ls (.int n :: st))) := by
  obtain ⟨T', h', cA, X', e', E, A, AE, q⟩ := newPE X hx hZ w eT (g := mkF m pc Ls (.int n :: st)) rfl (hb hby hd) rfl hn hcap hc.1 hc.2.1 hc.2.2 had; exact go q (k T' h' cA _ rfl X' e' E A AE)
theorem c_bal (X : Stand p l e R s m args below meth c T locs cells slots) (hx : p.tables.exec = Jvm.exec) (hby : c.code = b) (hZ : Z.Warmed39 s.vm) (eT : T.heap = h) {a : Addr} {k : ClassId} {z j : Int32} {vs : List Value} {d : Value} (A : Arv Z h a k .byte z vs d) (hj : ¬ j < 0 ∧ j < z) (v : Value) (hv : vs.getD j.toNatClampNeg d = v) (hd : decode b pc = .ok (.baload, 1)) (hg : Go End p e below s0 rc rs Q (T.setTop (mkF m (pc + 1) Ls (v :: st)))) : Go End p e below s0 rc rs Q (T.setTop (mkF m pc Ls (.int j :: .ref a :: st))) := by
  obtain ⟨cl, Ar, q, Sz, Nz, Hs, Gs⟩ := A; have hin := inb_of Sz hj; exact go (X.baloadBytes hx (j := j) (v := v) (by rw [eT]; exact Ar.1) (State.isArrayOf_alike hZ.alike Ar.2.1) Ar.2.2 hin (Hs.at hin hv) (g := mkF m pc Ls (.int j :: .ref a :: st)) rfl rfl (hb hby hd)) hg
theorem c_cal (X : Stand p l e R s m args below meth c T locs cells slots) (hx : p.tables.exec = Jvm.exec) (hby : c.code = b) (hZ : Z.Warmed39 s.vm) (eT : T.heap = h) {a : Addr} {k : ClassId} {z j : Int32} {vs : List Value} {d : Value} (A : Arv Z h a k .char z vs d) (hj : ¬ j < 0 ∧ j < z) (v : Value) (hv : vs.getD j.toNatClampNeg d = v) (hd : decode b pc = .ok (.caload, 1)) (hg : Go End p e below s0 rc rs Q (T.setTop (mkF m (pc + 1) Ls (v :: st)))) : Go End p e below s0 rc rs Q (T.setTop (mkF m pc Ls (.int j :: .ref a :: st))) := by
  obtain ⟨cl, Ar, q, Sz, Nz, Hs, Gs⟩ := A; have hin := inb_of Sz hj; exact go (X.caload hx (j := j) (v := v) (by rw [eT]; exact Ar.1) (State.isArrayOf_alike hZ.alike Ar.2.1) Ar.2.2 hin (Hs.at hin hv) (g := mkF m pc Ls (.int j :: .ref a :: st)) rfl rfl (hb hby hd)) hg
theorem c_ial (X : Stand p l e R s m args below meth c T locs cells slots) (hx : p.tables.exec = Jvm.exec) (hby : c.code = b) (hZ : Z.Warmed39 s.vm) (eT : T.heap = h) {a : Addr} {k : ClassId} {z j : Int32} {vs : List Value} {d : Value} (A : Arv Z h a k .int z vs d) (hj : ¬ j < 0 ∧ j < z) (v : Value) (hv : vs.getD j.toNatClampNeg d = v) (hd : decode b pc = .ok (.iaload, 1)) (hg : Go End p e below s0 rc rs Q (T.setTop (mkF m (pc + 1) Ls (v :: st)))) : Go End p e below s0 rc rs Q (T.setTop (mkF m pc Ls (.int j :: .ref a :: st))) := by
  obtain ⟨cl, Ar, q, Sz, Nz, Hs, Gs⟩ := A; have hin := inb_of Sz hj; exact go (X.iaload hx (j := j) (v := v) (by rw [eT]; exact Ar.1) (State.isArrayOf_alike hZ.alike Ar.2.1) Ar.2.2 hin (Hs.at hin hv) (g := mkF m pc Ls (.int j :: .ref a :: st)) rfl rfl (hb hby hd)) hg
theorem c_aal (X : Stand p l e R s m args below meth c T locs cells slots) (hx : p.tables.exec = Jvm.exec) (hby : c.code = b) (hZ : Z.Warmed39 s.vm) {ty : FieldType} (eT : T.heap = h) {a : Addr} {k : ClassId} {z j : Int32} {vs : List Value} {d : Value} (A : Arv Z h a k ty z vs d) (hj : ¬ j < 0 ∧ j < z) (v : Value) (hv : vs.getD j.toNatClampNeg d = v) (ht : ty.isReference = true) (hd : decode b pc = .ok (.aaload, 1)) (hg : Go End p e below s0 rc rs Q (T.setTop (mkF m (pc + 1) Ls (v :: st)))) : Go End p e below s0 rc rs Q (T.setTop (mkF m pc Ls (.int j :: .ref a :: st))) := by
  obtain ⟨cl, Ar, q, Sz, Nz, Hs, Gs⟩ := A; have hin := inb_of Sz hj; exact go (X.aaload hx (j := j) (v := v) (by rw [eT]; exact Ar.1) (State.isArrayOf_alike hZ.alike Ar.2.1) ht Ar.2.2 hin (Hs.at hin hv) (g := mkF m pc Ls (.int j :: .ref a :: st)) rfl rfl (hb hby hd)) hg
theorem c_bst (X : Stand p l e R s m args below meth c T locs cells slots) (hx : p.tables.exec = Jvm.exec) (hby : c.code = b) (hZ : Z.Warmed39 s.vm) (eT : T.heap = h) {a : Addr} {k : ClassId} {z j : Int32} {vs : List Value} {d : Value} (A : Arv Z h a k .byte z vs d) (hj : ¬ j < 0 ∧ j < z) {x : Int32} (n : Nat) (hn : j.toNatClampNeg = n) (hl : n < vs.length) (hd : decode b pc = .ok (.bastore, 1)) (K : ∀ T' h', Stand p l e R s m args below meth c T' (locs ++ [⟨a, j.toNatClampNeg⟩]) cells slots → T'.heap = h' → Wr h h' a j.toNatClampNeg (.int (nar .byte x)) → Arv Z h' a k .byte z (vs.set n (.int (nar .byte x))) d → Go End p e below s0 rc rs Q (T'.setTop (mkF m (pc + 1) Ls st))) : Go End p e below s0 rc rs Q (T.setTop (mkF m pc Ls (.int x :: .int j :: .ref a :: st))) := by
  obtain ⟨cl, Ar, q, Sz, Nz, Hs, Gs⟩ := A; obtain ⟨T', h', X', e', W, r⟩ := stB X hx hZ eT Ar (j := j) (inb_of Sz hj) (g := mkF m pc Ls (.int x :: .int j :: .ref a :: st)) rfl rfl (hb hby hd); exact go r (K T' h' X' e' W (Arv.set Ar q Sz Nz Hs Gs (fits_nar_byte _) W n hn hl))
theorem c_cst (X : Stand p l e R s m args below meth c T locs cells slots) (hx : p.tables.exec = Jvm.exec) (hby : c.code = b) (hZ : Z.Warmed39 s.vm) (eT : T.heap = h) {a : Addr} {k : ClassId} {z j : Int32} {vs : List Value} {d : Value} (A : Arv Z h a k .char z vs d) (hj : ¬ j < 0 ∧ j < z) {x : Int32} (n : Nat) (hn : j.toNatClampNeg = n) (hl : n < vs.length) (hd : decode b pc = .ok (.castore, 1)) (K : ∀ T' h', Stand p l e R s m args below meth c T' (locs ++ [⟨a, j.toNatClampNeg⟩]) cells slots → T'.heap = h' → Wr h h' a j.toNatClampNeg (.int (nar .char x)) → Arv Z h' a k .char z (vs.set n (.int (nar .char x))) d → Go End p e below s0 rc rs Q (T'.setTop (mkF m (pc + 1) Ls st))) : Go End p e below s0 rc rs Q (T.setTop (mkF m pc Ls (.int x :: .int j :: .ref a :: st))) := by
  obtain ⟨cl, Ar, q, Sz, Nz, Hs, Gs⟩ := A; obtain ⟨T', h', X', e', W, r⟩ := stC X hx hZ eT Ar (j := j) (inb_of Sz hj) (g := mkF m pc Ls (.int x :: .int j :: .ref a :: st)) rfl rfl (hb hby hd); exact go r (K T' h' X' e' W (Arv.set Ar q Sz Nz Hs Gs (fits_nar_char _) W n hn hl))
theorem c_ist (X : Stand p l e R s m args below meth c T locs cells slots) (hx : p.tables.exec = Jvm.exec) (hby : c.code = b) (hZ : Z.Warmed39 s.vm) (eT : T.heap = h) {a : Addr} {k : ClassId} {z j : Int32} {vs : List Value} {d : Value} (A : Arv Z h a k .int z vs d) (hj : ¬ j < 0 ∧ j < z) {x : Int32} (n : Nat) (hn : j.toNatClampNeg = n) (hl : n < vs.length) (hd : decode b pc = .ok (.iastore, 1)) (K : ∀ T' h', Stand p l e R s m args below meth c T' (locs ++ [⟨a, j.toNatClampNeg⟩]) cells slots → T'.heap = h' → Wr h h' a j.toNatClampNeg (.int x) → Arv Z h' a k .int z (vs.set n (.int x)) d → Go End p e below s0 rc rs Q (T'.setTop (mkF m (pc + 1) Ls st))) : Go End p e below s0 rc rs Q (T.setTop (mkF m pc Ls (.int x :: .int j :: .ref a :: st))) := by
  obtain ⟨cl, Ar, q, Sz, Nz, Hs, Gs⟩ := A; obtain ⟨T', h', X', e', W, r⟩ := stI X hx hZ eT Ar (j := j) (inb_of Sz hj) (g := mkF m pc Ls (.int x :: .int j :: .ref a :: st)) rfl rfl (hb hby hd); exact go r (K T' h' X' e' W (Arv.set Ar q Sz Nz Hs Gs rfl W n hn hl))
theorem c_alen (X : Stand p l e R s m args below meth c T locs cells slots) (hx : p.tables.exec = Jvm.exec) (hby : c.code = b) (hZ : Z.Warmed39 s.vm) (eT : T.heap = h) {a : Addr} {k : ClassId} {ty : FieldType} {z : Int32} {vs : List Value} {d : Value} (A : Arv Z h a k ty z vs d) (hd : decode b pc = .ok (.arraylength, 1)) (hg : Go End p e below s0 rc rs Q (T.setTop (mkF m (pc + 1) Ls (.int z :: st)))) : Go End p e below s0 rc rs Q (T.setTop (mkF m pc Ls (.ref a :: st))) := by
  obtain ⟨cl, Ar, -, Sz, Nz, -, -⟩ := A; exact go (X.arraylength hx (by rw [eT]; exact Ar.1) (State.isArrayOf_alike hZ.alike Ar.2.1) (g := mkF m pc Ls (.ref a :: st)) rfl rfl (hb hby hd)) (by rw [len_of Sz Nz]; exact hg)
abbrev rmk (f c s l : Nat) : Room := { frames := f, cells := c, slots := s, locals := l }
def own_M (l : Launch) (Z : State) (y : MethodName) (code : ByteArray) (ml : Nat) (ret : Option FieldType) (rm : Room) (as : Array Value) (h0 : Heap) (Q : Option Value → Heap → List Loc → Prop) : Prop :=
  MetFree l y (head1 [Jvm.Cond.code y code ml ret] rm) (fun a U => a = as ∧ Z.Warmed39 U.vm ∧ U.heap = h0) (fun _ _ _ _ _ => True) (fun _ U o U' => ∃ v L, o = .returned v ∧ Q v U'.heap L ∧ FrameEnd U o U' L rm.cells rm.slots)
theorem own_body {y : MethodName} {code : ByteArray} {ml : Nat} {ret : Option FieldType} {rm : Room} {as : Array Value} {own nme dsc : String} (hy : y = ⟨own, nme, dsc⟩) (hp : plainFor y = true)
    (k : ∀ p e s m below meth c s₁, p.tables.exec = Jvm.exec → c.code = code → c.maxLocals = ml → s.vm.findClass own = some m.cls → meth.name = nme → meth.locks = false → meth.sig.returnType = ret → Stand p l e rm s m as below meth c s₁ [] 0 0 → s₁.heap = h → Z.Warmed39 s.vm → Go FrameEnd p e below s rm.cells rm.slots Q (s₁.setTop (entryFrame m as ml))) : own_M l Z y code ml ret rm as h Q := by
  subst hy
  refine MetFree.of_bodySF hp hisR ?_
  intro p e s m args below meth c s₁ Bd hml hP hK
  obtain ⟨rfl, hZ, hh⟩ := hP
  exact k p e s m below meth c s₁ Bd.exec Bd.bytes hml (findClass_of_methodNamed Bd.named) (name_of_methodNamed Bd.named Bd.method).1 Bd.notSynchronized Bd.returns (Stand.of_body Bd) (by rw [← hh, Bd.state]; rfl) hZ
theorem c_callS (X : Stand p l e R s m args below meth c T locs cells slots) (hx : p.tables.exec = Jvm.exec) (hby : c.code = b) (hZ : Z.Warmed39 s.vm) {own : String} {index : Nat} (hown : s.vm.findClass own = some m.cls) {y : MethodName} {code : ByteArray} {ml ml0 : Nat} {ret : Option FieldType} {rm : Room} {Qc : Option Value → Heap → List Loc → Prop} {ps : List FieldType} {rt : Option FieldType} (hml : c.maxLocals = ml0) (w1 : (Jvm.Cond.methodLink own index y).before a0 Z = true) (w2 : (Jvm.Cond.static y).before a0 Z = true) (w3 : (Jvm.Cond.initialized y.cls).before a0 Z = true) (w4 : (Jvm.Cond.code y code ml ret).before a0 Z = true) {argsL : List Value} (eT : T.heap = h) (hM : own_M l Z y code ml ret rm argsL.toArray h Qc) (hpd : parseMethodDescriptor y.desc = some ⟨ps, rt⟩) (hln : argsL.length = ps.length) (hd : decode b pc = .ok (.invokestatic index, 3)) (rest : List Value) (hs : st = (argsL.reverse ++ rest)) (W : Nat) (hd5 : (y.cls ≠ "java/lang/invoke/MethodHandle" ∧ y.cls ≠ "java/lang/invoke/VarHandle") ∧ rm.frames + 1 ≤ R.frames ∧ W + (ml + 11) + rm.locals ≤ R.locals ∧ cells + rm.cells ≤ R.cells ∧ slots + rm.slots ≤ R.slots) (hW : (rest.map fun v => v.category).sum = W) (hsz : Ls.size = ml0) (k : ∀ v T' L, Stand p l e R s m args below meth c T' (locs ++ L) (cells + rm.cells) (slots + rm.slots) → Qc v T'.heap L → Go End p e below s0 rc rs Q (T'.setTop (mkF m (pc + 3) Ls (v.toList ++ rest)))) : Go End p e below s0 rc rs Q (T.setTop (mkF m pc Ls st)) := by
  subst hs; obtain ⟨v, _, ⟨T', L', k', n'⟩, -, X', ⟨Lc, hQ, e1, e2, e3⟩, q⟩ := Jvm.LawKit.callS X hx hown (mvT hZ w1) (mvT hZ w2) (mvT hZ w3) (mvT hZ w4) hd5.1 (backOf (W := W) hM hZ w4 w3 hd5.2.1 hd5.2.2.1) (g := mkF m pc Ls (argsL.reverse ++ rest)) rfl (by rw [hml]; exact hsz) (argsL := argsL) (rest := rest) (lenOf hpd hln) rfl (by show 2 * 0 + _ ≤ _; rw [hW]; omega) (hb hby hd) (fun _ _ => ⟨rfl, eT, hd5.2.2.2.1, hd5.2.2.2.2⟩); dsimp only [Pt.U, Pt.locs, Pt.cells, Pt.slots] at X' e1 e2 e3 q hQ; subst e1 e2 e3; exact go q (k _ _ _ X' hQ)
theorem c_callV (X : Stand p l e R s m args below meth c T locs cells slots) (hx : p.tables.exec = Jvm.exec) (hby : c.code = b) (hZ : Z.Warmed39 s.vm) {own : String} {index : Nat} (hown : s.vm.findClass own = some m.cls) {y : MethodName} {code : ByteArray} {ml ml0 : Nat} {ret : Option FieldType} {rm : Room} {Qc : Option Value → Heap → List Loc → Prop} {ps : List FieldType} {rt : Option FieldType} (hml : c.maxLocals = ml0) (w1 : (Jvm.Cond.methodLink own index y).before a0 Z = true) (w2 : (Jvm.Cond.declares y).before a0 Z = true) {C : String} (w3 : (Jvm.Cond.selects C y y).before a0 Z = true) (w4 : (Jvm.Cond.instanceMethod y).before a0 Z = true) (w5 : (Jvm.Cond.code y code ml ret).before a0 Z = true) (w6 : (Jvm.Cond.initialized y.cls).before a0 Z = true) {a : Addr} (EX : Exa Z h a C) {argsL : List Value} (eT : T.heap = h) (hM : own_M l Z y code ml ret rm (.ref a :: argsL).toArray h Qc) (hpd : parseMethodDescriptor y.desc = some ⟨ps, rt⟩) (hln : argsL.length = ps.length) (hd : decode b pc = .ok (.invokevirtual index, 3)) (rest : List Value) (hs : st = (argsL.reverse ++ .ref a :: rest)) (W : Nat) (hd5 : (y.cls ≠ "java/lang/invoke/MethodHandle" ∧ y.cls ≠ "java/lang/invoke/VarHandle") ∧ rm.frames + 1 ≤ R.frames ∧ W + (ml + 11) + rm.locals ≤ R.locals ∧ cells + rm.cells ≤ R.cells ∧ slots + rm.slots ≤ R.slots) (hW : (rest.map fun v => v.category).sum = W) (hsz : Ls.size = ml0) (k : ∀ v T' L, Stand p l e R s m args below meth c T' (locs ++ L) (cells + rm.cells) (slots + rm.slots) → Qc v T'.heap L → Go End p e below s0 rc rs Q (T'.setTop (mkF m (pc + 3) Ls (v.toList ++ rest)))) : Go End p e below s0 rc rs Q (T.setTop (mkF m pc Ls st)) := by
  subst hs; obtain ⟨cB, kB, qa, qb, qc⟩ := isOf hZ eT EX; obtain ⟨v, _, ⟨T', L', k', n'⟩, -, X', ⟨Lc, hQ, e1, e2, e3⟩, q⟩ := X.virtualBack hx hown (mvT hZ w1) (mvT hZ w2) (notFace_of_selects (args := #[]) (mvT hZ w3)) (mvT hZ w3) (mvT hZ w4) hd5.1 (backOf (W := W) hM hZ w5 w6 hd5.2.1 hd5.2.2.1) qa qc (g := mkF m pc Ls (argsL.reverse ++ .ref a :: rest)) rfl (by rw [hml]; exact hsz) (Steps.refl _) (argsL := argsL) (rest := rest) (lenOf hpd hln) rfl (by show 2 * 0 + _ ≤ _; rw [hW]; omega) (hb hby hd) (fun _ _ => ⟨rfl, eT, hd5.2.2.2.1, hd5.2.2.2.2⟩); dsimp only [Pt.U, Pt.locs, Pt.cells, Pt.slots] at X' e1 e2 e3 q hQ; subst e1 e2 e3; exact goT q (k _ _ _ X' hQ)
theorem c_init (X : Stand p l e R s m args below meth c T locs cells slots) (hx : p.tables.exec = Jvm.exec) (hby : c.code = b) (hZ : Z.Warmed39 s.vm) {own : String} {index : Nat} (hown : s.vm.findClass own = some m.cls) {y : MethodName} {code : ByteArray} {ml ml0 : Nat} {rm : Room} {Qc : Option Value → Heap → List Loc → Prop} {ps : List FieldType} {rt : Option FieldType} (hml : c.maxLocals = ml0) (w1 : (Jvm.Cond.methodLink own index y).before a0 Z = true) (w2 : (Jvm.Cond.instanceMethod y).before a0 Z = true) (w3 : (Jvm.Cond.code y code ml none).before a0 Z = true) (w4 : (Jvm.Cond.initialized y.cls).before a0 Z = true) (hn : y.name = "<init>") {argsL : List Value} {a : Addr} (eT : T.heap = h) (hM : own_M l Z y code ml none rm (.ref a :: argsL).toArray h Qc) (hpd : parseMethodDescriptor y.desc = some ⟨ps, rt⟩) (hln : argsL.length = ps.length) (hd : decode b pc = .ok (.invokespecial index, 3)) (rest : List Value) (hs : st = (argsL.reverse ++ .ref a :: rest)) (W : Nat) (hd5 : (y.cls ≠ "java/lang/invoke/MethodHandle" ∧ y.cls ≠ "java/lang/invoke/VarHandle") ∧ rm.frames + 1 ≤ R.frames ∧ W + (ml + 11) + rm.locals ≤ R.locals ∧ cells + rm.cells ≤ R.cells ∧ slots + rm.slots ≤ R.slots) (hW : (rest.map fun v => v.category).sum = W) (hsz : Ls.size = ml0) (k : ∀ v T' L, Stand p l e R s m args below meth c T' (locs ++ L) (cells + rm.cells) (slots + rm.slots) → Qc v T'.heap L → Go End p e below s0 rc rs Q (T'.setTop (mkF m (pc + 3) Ls (v.toList ++ rest)))) : Go End p e below s0 rc rs Q (T.setTop (mkF m pc Ls st)) := by
  subst hs; obtain ⟨v, _, ⟨T', L', k', n'⟩, -, X', ⟨Lc, hQ, e1, e2, e3⟩, q⟩ := X.specialBack hx hn hown (mvT hZ w1) (mvT hZ w2) (mvT hZ w3) hd5.1 (backOf (W := W) hM hZ w3 w4 hd5.2.1 hd5.2.2.1) (g := mkF m pc Ls (argsL.reverse ++ .ref a :: rest)) rfl (by rw [hml]; exact hsz) (Steps.refl _) (a := a) (argsL := argsL) (rest := rest) (lenOf hpd hln) rfl (by show 2 * 0 + _ ≤ _; rw [hW]; omega) (hb hby hd) (fun _ _ => ⟨rfl, eT, hd5.2.2.2.1, hd5.2.2.2.2⟩); dsimp only [Pt.U, Pt.locs, Pt.cells, Pt.slots] at X' e1 e2 e3 q hQ; subst e1 e2 e3; exact goT q (k _ _ _ X' hQ)
theorem c_retI (X : Stand p l e R s m args below meth c T locs cells slots) (hx : p.tables.exec = Jvm.exec) (hby : c.code = b) (hlk : meth.locks = false) {t : FieldType} (hret : meth.sig.returnType = some t) {z : Int32} (hd : decode b pc = .ok (.ireturn, 1)) (hn : narrow t (.int z) = .int z) (ht : t = .int ∨ t = .boolean ∨ t = .byte ∨ t = .char ∨ t = .short) (hc : cells ≤ rc ∧ slots ≤ rs) (eT : T.heap = h) (hq : Q (some (.int z)) h locs) : Go FrameEnd p e below s rc rs Q (T.setTop (mkF m pc Ls (.int z :: st))) :=
  goRet X hx hlk hret hn (Or.inl ⟨rfl, ht, _, rfl⟩) (hb hby hd) hc.1 hc.2 (by rw [eT]; exact hq)
theorem c_retA (X : Stand p l e R s m args below meth c T locs cells slots) (hx : p.tables.exec = Jvm.exec) (hby : c.code = b) (hlk : meth.locks = false) {t : FieldType} (hret : meth.sig.returnType = some t) {v : Value} (hd : decode b pc = .ok (.areturn, 1)) (hn : narrow t v = v) (ht : t.isReference = true ∧ v.isRef = true) (hc : cells ≤ rc ∧ slots ≤ rs) (eT : T.heap = h) (hq : Q (some v) h locs) : Go FrameEnd p e below s rc rs Q (T.setTop (mkF m pc Ls (v :: st))) :=
  goRet X hx hlk hret hn (Or.inr (Or.inr (Or.inr (Or.inr ⟨rfl, ht.1, ht.2⟩)))) (hb hby hd) hc.1 hc.2 (by rw [eT]; exact hq)
theorem c_ret0 (X : Stand p l e R s m args below meth c T locs cells slots) (hx : p.tables.exec = Jvm.exec) (hby : c.code = b) (hlk : meth.locks = false) (hret : meth.sig.returnType = none) (hd : decode b pc = .ok (.return_, 1)) (hc : cells ≤ rc ∧ slots ≤ rs) (eT : T.heap = h) (hq : Q none h locs) : Go FrameEnd p e below s rc rs Q (T.setTop (mkF m pc Ls [])) :=
  goRet0 X hx hlk hret (hb hby hd) hc.1 hc.2 (by rw [eT]; exact hq)
end OwnC
theorem own_tyne {Z : State} {h : Heap} {a a' : Addr} {k k' : ClassId} {ty ty' : FieldType} {z z' : Int32} {vs vs' : List Value} {d d' : Value} (A : Arv Z h a k ty z vs d) (B : Arv Z h a' k' ty' z' vs' d') (hn : ty ≠ ty') : a ≠ a' := fun q => by
  subst q
  obtain ⟨c, ⟨A1, ⟨-, k1, A2, m1, A3⟩, -⟩, -⟩ := A
  obtain ⟨c', ⟨B1, ⟨-, k2, B2, m2, B3⟩, -⟩, -⟩ := B
  cases A1.symm.trans B1
  cases A2.symm.trans B2
  have e := A3.symm.trans B3
  injection e with _ e2
  exact hn e2
abbrev eS (Z : State) (h : Heap) (a : Addr) : Prop := Exa Z h a "java/lang/String"
abbrev fC (Z : State) (h : Heap) (a : Addr) : Prop := Fld Z h a "java/lang/String" "coder" "B" (.int (0 : Int32))
abbrev fV (Z : State) (h : Heap) (a v : Addr) : Prop := Fld Z h a "java/lang/String" "value" "[B" (.ref v)
abbrev vB (Z : State) (h : Heap) (a : Addr) (k : ClassId) (z : Int32) (vs : List Value) : Prop := Arv Z h a k .byte z vs (.int (0 : Int32))
abbrev sCS (Z : State) (w : Int32) : Prop := Sta Z Z.heap "java/lang/String" "COMPACT_STRINGS" "Z" (.int w)
abbrev sPF (Z : State) (f : Value) : Prop := Sta Z Z.heap "jdk/internal/util/Preconditions" "SIOOBE_FORMATTER" "Ljava/util/function/BiFunction;" f
def own_EL : List (String × Nat) := [("com/example/fuller_query/fullerquery/knowledge/ApiTypeSimpleNamePinLaw", 19), ("java/lang/String", 7), ("java/lang/StringLatin1", 151)]
section OwnH
variable {p : Program} {l : Launch} {e : Env} {R : Room} {s : State} {m : MethodId} {args : Array Value} {below : List Frame} {meth : Method} {c : Code} {T : State} {locs : List Loc} {cells slots : Nat} {vm₁ : Vm} {k : Nat} {Z : State} {a0 : Array Value}
def own_EndH (Z : State) (s : State) (o : Outcome) (t : State) (L : List Loc) (k n : Nat) : Prop := CHr Z own_EL s.vm s.heap t.vm t.heap ∧ ReturnedEndW s o t L k n
theorem goRetH {rc rs : Nat} {Q : Option Value → Heap → List Loc → Prop} {h0 h : Heap} (X : Stand p l e R (s.setVm vm₁) m args below meth c T locs cells slots) (hZ : Z.Warmed39 vm₁) (hE : EW Z a0 own_EL) (hch : CHr Z own_EL s.vm h0 vm₁ h) (hh0 : s.heap = h0) (eT : T.heap = h) (hS : s.Since vm₁ k) (hk : k ≤ h.size) (hx : p.tables.exec = Jvm.exec) (hlk : meth.locks = false) {pc : Nat} {Ls : Array Slot} {w : Value} {t : FieldType} {i : Instr} {rest : List Value} (hret : meth.sig.returnType = some t) (hn : narrow t w = w)
    (hi : (i = .ireturn ∧ (t = .int ∨ t = .boolean ∨ t = .byte ∨ t = .char ∨ t = .short) ∧ ∃ z, w = .int z) ∨ (i = .lreturn ∧ t = .long ∧ ∃ z, w = .long z) ∨ (i = .dreturn ∧ t = .double ∧ ∃ z, w = .double z) ∨ (i = .freturn ∧ t = .float ∧ ∃ z, w = .float z) ∨ (i = .areturn ∧ t.isReference = true ∧ w.isRef = true))
    (hd : decode c.code pc = .ok (i, 1)) (hc : cells ≤ rc) (hs : slots ≤ rs) (hq : Q (some w) h locs) : Go (own_EndH Z) p e below s rc rs Q (T.setTop (mkF m pc Ls (w :: rest))) := by
  subst eT hh0
  obtain ⟨fs, hr, hrun, hended, h1, h2, h3, h4⟩ := X.leaveW hS hk (v := some w) (fun h => by rw [hret] at h; cases h) hlk
  have hA := hch.trans (CHv.at X hZ hE hch.1)
  refine ⟨_, _, retOut X hx hret hn hi hd hr, hrun, hended, _, _, rfl, ?_, ?_, h1, h2, h3, h4.mono hc hs⟩
  · show Q _ T.heap _
    exact hq
  · exact hA
theorem goRet0H {rc rs : Nat} {Q : Option Value → Heap → List Loc → Prop} {h0 h : Heap} (X : Stand p l e R (s.setVm vm₁) m args below meth c T locs cells slots) (hZ : Z.Warmed39 vm₁) (hE : EW Z a0 own_EL) (hch : CHr Z own_EL s.vm h0 vm₁ h) (hh0 : s.heap = h0) (eT : T.heap = h) (hS : s.Since vm₁ k) (hk : k ≤ h.size) (hx : p.tables.exec = Jvm.exec) (hlk : meth.locks = false) {pc : Nat} {Ls : Array Slot} (hret : meth.sig.returnType = none)
    (hd : decode c.code pc = .ok (.return_, 1)) (hc : cells ≤ rc) (hs : slots ≤ rs) (hq : Q none h locs) : Go (own_EndH Z) p e below s rc rs Q (T.setTop (mkF m pc Ls [])) := by
  subst eT hh0
  obtain ⟨fs, hr, hrun, hended, h1, h2, h3, h4⟩ := X.leaveW hS hk (v := none) (fun _ => rfl) hlk
  have hA := hch.trans (CHv.at X hZ hE hch.1)
  refine ⟨_, _, X.returnOut hx hret hd hr, hrun, hended, _, _, rfl, ?_, ?_, h1, h2, h3, h4.mono hc hs⟩
  · show Q _ T.heap _
    exact hq
  · exact hA
/-- a String whose value is null is no booked constant -/
theorem own_safeN {Z : State} {EL : List (String × Nat)} {vm : Vm} {h : Heap} {x : Addr} (hal : Z.vm.Alike vm) (E : Exa Z h x "java/lang/String") (F : Fld Z h x "java/lang/String" "value" "[B" .null) : Safe Z EL vm h x := fun B => by
  obtain ⟨pp, -, u, a, -, q, -, G, rfl | rfl⟩ := B
  · obtain ⟨cl, c1, k1, i1, f1, r1, r2, -, -, -, -, r3⟩ := F
    cases (show h[q.sa]? = some q.sC from G.ha).symm.trans r1
    obtain ⟨cS, ⟨⟨-, -, -, ⟨c2, k2, i2, g1, -⟩, -, -, -, g2, -⟩, -⟩, -⟩ := G
    obtain ⟨k3, g3⟩ := ff_back (U := Wst Z vm h) hal g1
    have e4 := r2.symm.trans g3
    simp only [Option.some.injEq, Prod.mk.injEq] at e4
    rw [e4.2.2.2, g2] at r3
    cases r3
  · obtain ⟨cl, k1, r1, r2, -⟩ := E
    cases (show h[q.sd]? = some q.SA from G.hd).symm.trans r1
    obtain ⟨cS, -, -, f, -⟩ := G
    have f' : vm.findClass "[B" = some q.SA.cls := f
    rw [hal.findClass] at f'
    obtain ⟨k2, q1, q2⟩ := Vm.findClass_spec f'
    obtain ⟨k3, q3, q4⟩ := Vm.findClass_spec r2
    cases q1.symm.trans q3
    exact absurd (q2.symm.trans q4) (by decide)
end OwnH
section OwnCH
variable {p : Program} {l : Launch} {e : Env} {R : Room} {s s0 : State} {vm : Vm} {m : MethodId} {args a0 : Array Value} {below : List Frame} {meth : Method} {c : Code} {T Z : State} {locs : List Loc} {cells slots k0 : Nat} {h h0 : Heap} {rc rs : Nat} {Q : Option Value → Heap → List Loc → Prop} {pc : Nat} {Ls : Array Slot} {st rest : List Value} {b : ByteArray}
def own_MH (l : Launch) (Z : State) (y : MethodName) (code : ByteArray) (ml : Nat) (ret : Option FieldType) (rm : Room) (as : Array Value) (h0 : Heap) (Q : Option Value → Heap → List Loc → Prop) : Prop :=
  MetFree l y (head1 [Jvm.Cond.code y code ml ret] rm) (fun a U => a = as ∧ Z.Warmed39 U.vm ∧ U.heap = h0 ∧ CHv Z own_EL U.vm h0) (fun _ _ _ _ _ => True) (fun _ U o U' => ∃ v L, o = .returned v ∧ Q v U'.heap L ∧ CHr Z own_EL U.vm U.heap U'.vm U'.heap ∧ ReturnedEndW U o U' L rm.cells rm.slots)
theorem own_bodyH {y : MethodName} {code : ByteArray} {ml : Nat} {ret : Option FieldType} {rm : Room} {as : Array Value} {own nme dsc : String} (hy : y = ⟨own, nme, dsc⟩) (hp : plainFor y = true)
    (k : ∀ p e s m below meth c s₁, p.tables.exec = Jvm.exec → c.code = code → c.maxLocals = ml → s.vm.findClass own = some m.cls → meth.name = nme → meth.locks = false → meth.sig.returnType = ret → Stand p l e rm (s.setVm s.vm) m as below meth c s₁ [] 0 0 → s₁.heap = h → Z.Warmed39 s.vm → s.heap = h → CHr Z own_EL s.vm h s.vm h → s.Since s.vm 0 → Go (own_EndH Z) p e below s rm.cells rm.slots Q (s₁.setTop (entryFrame m as ml))) : own_MH l Z y code ml ret rm as h Q := by
  subst hy
  refine MetFree.of_bodySF hp hisR ?_
  intro p e s m args below meth c s₁ Bd hml hP hK
  obtain ⟨rfl, hZ, hh, hCH⟩ := hP
  obtain ⟨s₂, o, q1, q2, q3, v, L, q4, q5, q6, q7⟩ := k p e s m below meth c s₁ Bd.exec Bd.bytes hml (findClass_of_methodNamed Bd.named) (name_of_methodNamed Bd.named Bd.method).1 Bd.notSynchronized Bd.returns (Stand.of_body Bd) (by rw [← hh, Bd.state]; rfl) hZ hh (CHr.refl hCH) ((State.WarmedH.refl s).since 0)
  exact ⟨s₂, o, q1, q2, q3, v, L, q4, q5, q6, q7⟩
theorem c_callSH (X : Stand p l e R (s.setVm vm) m args below meth c T locs cells slots) (hx : p.tables.exec = Jvm.exec) (hby : c.code = b) (hZ : Z.Warmed39 vm) {own : String} {index : Nat} (hown : vm.findClass own = some m.cls) {y : MethodName} {code : ByteArray} {ml ml0 : Nat} {ret : Option FieldType} {rm : Room} {Qc : Option Value → Heap → List Loc → Prop} {ps : List FieldType} {rt : Option FieldType} (hml : c.maxLocals = ml0) (w1 : (Jvm.Cond.methodLink own index y).before a0 Z = true) (w2 : (Jvm.Cond.static y).before a0 Z = true) (w3 : (Jvm.Cond.initialized y.cls).before a0 Z = true) (w4 : (Jvm.Cond.code y code ml ret).before a0 Z = true) {argsL : List Value} (eT : T.heap = h) (hE : EW Z a0 own_EL) (hch : CHr Z own_EL s.vm h0 vm h) (hS : s.Since vm k0) (hk : k0 ≤ h.size) (hM : own_MH l Z y code ml ret rm argsL.toArray h Qc) (hpd : parseMethodDescriptor y.desc = some ⟨ps, rt⟩) (hln : argsL.length = ps.length) (hd : decode b pc = .ok (.invokestatic index, 3)) (rest : List Value) (hs : st = (argsL.reverse ++ rest)) (W : Nat) (hd5 : (y.cls ≠ "java/lang/invoke/MethodHandle" ∧ y.cls ≠ "java/lang/invoke/VarHandle") ∧ rm.frames + 1 ≤ R.frames ∧ W + (ml + 11) + rm.locals ≤ R.locals ∧ cells + rm.cells ≤ R.cells ∧ slots + rm.slots ≤ R.slots) (hW : (rest.map fun v => v.category).sum = W) (hsz : Ls.size = ml0) (k : ∀ v T' L, Stand p l e R (s.setVm T'.vm) m args below meth c T' (locs ++ L) (cells + rm.cells) (slots + rm.slots) → s.Since T'.vm T'.heap.size → Z.Warmed39 T'.vm → T'.vm.findClass own = some m.cls → CHr Z own_EL vm h T'.vm T'.heap → CHr Z own_EL s.vm h0 T'.vm T'.heap → Qc v T'.heap L → Go (own_EndH Z) p e below s rc rs Q (T'.setTop (mkF m (pc + 3) Ls (v.toList ++ rest)))) : Go (own_EndH Z) p e below s rc rs Q (T.setTop (mkF m pc Ls st)) := by
  subst hs; obtain ⟨v, _, ⟨T', L', k', n'⟩, -, X', sc, gc, ⟨Lc, hQ, e1, e2, e3, hR⟩, q⟩ := callSS X hx hown (mvT hZ w1) (mvT hZ w2) (mvT hZ w3) (mvT hZ w4) hd5.1 (backOfSH (W := W) hM hZ w4 w3 hd5.2.1 hd5.2.2.1 hE hch.1) (g := mkF m pc Ls (argsL.reverse ++ rest)) rfl (by rw [hml]; exact hsz) (argsL := argsL) (rest := rest) (lenOf hpd hln) rfl (by show 2 * 0 + _ ≤ _; rw [hW]; omega) (hb hby hd) (fun _ _ => ⟨rfl, eT, hd5.2.2.2.1, hd5.2.2.2.2⟩); dsimp only [Pt.U, Pt.locs, Pt.cells, Pt.slots] at X' e1 e2 e3 q hQ sc gc hR; subst e1 e2 e3; exact goT q (k _ _ _ X' (foldS (T := T) hS (by rw [eT]; exact hk) sc gc) (State.Warmed39.trans hZ sc.1) (by rw [sc.1.alike.findClass]; exact hown) hR (hch.trans hR) hQ)
theorem c_callVH (X : Stand p l e R (s.setVm vm) m args below meth c T locs cells slots) (hx : p.tables.exec = Jvm.exec) (hby : c.code = b) (hZ : Z.Warmed39 vm) {own : String} {index : Nat} (hown : vm.findClass own = some m.cls) {y : MethodName} {code : ByteArray} {ml ml0 : Nat} {ret : Option FieldType} {rm : Room} {Qc : Option Value → Heap → List Loc → Prop} {ps : List FieldType} {rt : Option FieldType} (hml : c.maxLocals = ml0) (w1 : (Jvm.Cond.methodLink own index y).before a0 Z = true) (w2 : (Jvm.Cond.declares y).before a0 Z = true) {C : String} (w3 : (Jvm.Cond.selects C y y).before a0 Z = true) (w4 : (Jvm.Cond.instanceMethod y).before a0 Z = true) (w5 : (Jvm.Cond.code y code ml ret).before a0 Z = true) (w6 : (Jvm.Cond.initialized y.cls).before a0 Z = true) {a : Addr} (EX : Exa Z h a C) {argsL : List Value} (eT : T.heap = h) (hE : EW Z a0 own_EL) (hch : CHr Z own_EL s.vm h0 vm h) (hS : s.Since vm k0) (hk : k0 ≤ h.size) (hM : own_MH l Z y code ml ret rm (.ref a :: argsL).toArray h Qc) (hpd : parseMethodDescriptor y.desc = some ⟨ps, rt⟩) (hln : argsL.length = ps.length) (hd : decode b pc = .ok (.invokevirtual index, 3)) (rest : List Value) (hs : st = (argsL.reverse ++ .ref a :: rest)) (W : Nat) (hd5 : (y.cls ≠ "java/lang/invoke/MethodHandle" ∧ y.cls ≠ "java/lang/invoke/VarHandle") ∧ rm.frames + 1 ≤ R.frames ∧ W + (ml + 11) + rm.locals ≤ R.locals ∧ cells + rm.cells ≤ R.cells ∧ slots + rm.slots ≤ R.slots) (hW : (rest.map fun v => v.category).sum = W) (hsz : Ls.size = ml0) (k : ∀ v T' L, Stand p l e R (s.setVm T'.vm) m args below meth c T' (locs ++ L) (cells + rm.cells) (slots + rm.slots) → s.Since T'.vm T'.heap.size → Z.Warmed39 T'.vm → T'.vm.findClass own = some m.cls → CHr Z own_EL vm h T'.vm T'.heap → CHr Z own_EL s.vm h0 T'.vm T'.heap → Qc v T'.heap L → Go (own_EndH Z) p e below s rc rs Q (T'.setTop (mkF m (pc + 3) Ls (v.toList ++ rest)))) : Go (own_EndH Z) p e below s rc rs Q (T.setTop (mkF m pc Ls st)) := by
  subst hs; obtain ⟨cB, kB, qa, qb, qc⟩ := isOf (s := s.setVm vm) hZ eT EX; obtain ⟨v, _, ⟨T', L', k', n'⟩, -, X', sc, gc, ⟨Lc, hQ, e1, e2, e3, hR⟩, q⟩ := X.virtualBackS hx hown (mvT hZ w1) (mvT hZ w2) (notFace_of_selects (args := #[]) (mvT hZ w3)) (mvT hZ w3) (mvT hZ w4) hd5.1 (backOfSH (W := W) hM hZ w5 w6 hd5.2.1 hd5.2.2.1 hE hch.1) qa qc (g := mkF m pc Ls (argsL.reverse ++ .ref a :: rest)) rfl (by rw [hml]; exact hsz) (Steps.refl _) (argsL := argsL) (rest := rest) (lenOf hpd hln) rfl (by show 2 * 0 + _ ≤ _; rw [hW]; omega) (hb hby hd) (fun _ _ => ⟨rfl, eT, hd5.2.2.2.1, hd5.2.2.2.2⟩); dsimp only [Pt.U, Pt.locs, Pt.cells, Pt.slots] at X' e1 e2 e3 q hQ sc gc hR; subst e1 e2 e3; exact goT q (k _ _ _ X' (foldS (T := T) hS (by rw [eT]; exact hk) sc gc) (State.Warmed39.trans hZ sc.1) (by rw [sc.1.alike.findClass]; exact hown) hR (hch.trans hR) hQ)
theorem c_initH (X : Stand p l e R (s.setVm vm) m args below meth c T locs cells slots) (hx : p.tables.exec = Jvm.exec) (hby : c.code = b) (hZ : Z.Warmed39 vm) {own : String} {index : Nat} (hown : vm.findClass own = some m.cls) {y : MethodName} {code : ByteArray} {ml ml0 : Nat} {rm : Room} {Qc : Option Value → Heap → List Loc → Prop} {ps : List FieldType} {rt : Option FieldType} (hml : c.maxLocals = ml0) (w1 : (Jvm.Cond.methodLink own index y).before a0 Z = true) (w2 : (Jvm.Cond.instanceMethod y).before a0 Z = true) (w3 : (Jvm.Cond.code y code ml none).before a0 Z = true) (w4 : (Jvm.Cond.initialized y.cls).before a0 Z = true) (hn : y.name = "<init>") {argsL : List Value} {a : Addr} (eT : T.heap = h) (hE : EW Z a0 own_EL) (hch : CHr Z own_EL s.vm h0 vm h) (hS : s.Since vm k0) (hk : k0 ≤ h.size) (hM : own_MH l Z y code ml none rm (.ref a :: argsL).toArray h Qc) (hpd : parseMethodDescriptor y.desc = some ⟨ps, rt⟩) (hln : argsL.length = ps.length) (hd : decode b pc = .ok (.invokespecial index, 3)) (rest : List Value) (hs : st = (argsL.reverse ++ .ref a :: rest)) (W : Nat) (hd5 : (y.cls ≠ "java/lang/invoke/MethodHandle" ∧ y.cls ≠ "java/lang/invoke/VarHandle") ∧ rm.frames + 1 ≤ R.frames ∧ W + (ml + 11) + rm.locals ≤ R.locals ∧ cells + rm.cells ≤ R.cells ∧ slots + rm.slots ≤ R.slots) (hW : (rest.map fun v => v.category).sum = W) (hsz : Ls.size = ml0) (k : ∀ v T' L, Stand p l e R (s.setVm T'.vm) m args below meth c T' (locs ++ L) (cells + rm.cells) (slots + rm.slots) → s.Since T'.vm T'.heap.size → Z.Warmed39 T'.vm → T'.vm.findClass own = some m.cls → CHr Z own_EL vm h T'.vm T'.heap → CHr Z own_EL s.vm h0 T'.vm T'.heap → Qc v T'.heap L → Go (own_EndH Z) p e below s rc rs Q (T'.setTop (mkF m (pc + 3) Ls (v.toList ++ rest)))) : Go (own_EndH Z) p e below s rc rs Q (T.setTop (mkF m pc Ls st)) := by
  subst hs; obtain ⟨v, _, ⟨T', L', k', n'⟩, -, X', sc, gc, ⟨Lc, hQ, e1, e2, e3, hR⟩, q⟩ := X.specialBackS hx hn hown (mvT hZ w1) (mvT hZ w2) (mvT hZ w3) hd5.1 (backOfSH (W := W) hM hZ w3 w4 hd5.2.1 hd5.2.2.1 hE hch.1) (g := mkF m pc Ls (argsL.reverse ++ .ref a :: rest)) rfl (by rw [hml]; exact hsz) (Steps.refl _) (a := a) (argsL := argsL) (rest := rest) (lenOf hpd hln) rfl (by show 2 * 0 + _ ≤ _; rw [hW]; omega) (hb hby hd) (fun _ _ => ⟨rfl, eT, hd5.2.2.2.1, hd5.2.2.2.2⟩); dsimp only [Pt.U, Pt.locs, Pt.cells, Pt.slots] at X' e1 e2 e3 q hQ sc gc hR; subst e1 e2 e3; exact goT q (k _ _ _ X' (foldS (T := T) hS (by rw [eT]; exact hk) sc gc) (State.Warmed39.trans hZ sc.1) (by rw [sc.1.alike.findClass]; exact hown) hR (hch.trans hR) hQ)
theorem c_retIH (X : Stand p l e R (s.setVm vm) m args below meth c T locs cells slots) (hx : p.tables.exec = Jvm.exec) (hby : c.code = b) (hZ : Z.Warmed39 vm) (hlk : meth.locks = false) {t : FieldType} (hret : meth.sig.returnType = some t) {z : Int32} (hd : decode b pc = .ok (.ireturn, 1)) (hn : narrow t (.int z) = (.int z)) (ht : t = .int ∨ t = .boolean ∨ t = .byte ∨ t = .char ∨ t = .short) (hc : cells ≤ rc ∧ slots ≤ rs) (eT : T.heap = h) (hh0 : s.heap = h0) (hE : EW Z a0 own_EL) (hch : CHr Z own_EL s.vm h0 vm h) (hS : s.Since vm k0) (hk : k0 ≤ h.size) (hq : Q (some (.int z)) h locs) : Go (own_EndH Z) p e below s rc rs Q (T.setTop (mkF m pc Ls ((.int z) :: st))) :=
  goRetH X hZ hE hch hh0 eT hS hk hx hlk hret hn (Or.inl ⟨rfl, ht, _, rfl⟩) (hb hby hd) hc.1 hc.2 hq
theorem c_retAH (X : Stand p l e R (s.setVm vm) m args below meth c T locs cells slots) (hx : p.tables.exec = Jvm.exec) (hby : c.code = b) (hZ : Z.Warmed39 vm) (hlk : meth.locks = false) {t : FieldType} (hret : meth.sig.returnType = some t) {v : Value} (hd : decode b pc = .ok (.areturn, 1)) (hn : narrow t v = v) (ht : t.isReference = true ∧ v.isRef = true) (hc : cells ≤ rc ∧ slots ≤ rs) (eT : T.heap = h) (hh0 : s.heap = h0) (hE : EW Z a0 own_EL) (hch : CHr Z own_EL s.vm h0 vm h) (hS : s.Since vm k0) (hk : k0 ≤ h.size) (hq : Q (some v) h locs) : Go (own_EndH Z) p e below s rc rs Q (T.setTop (mkF m pc Ls (v :: st))) :=
  goRetH X hZ hE hch hh0 eT hS hk hx hlk hret hn (Or.inr (Or.inr (Or.inr (Or.inr ⟨rfl, ht.1, ht.2⟩)))) (hb hby hd) hc.1 hc.2 hq
theorem c_ret0H (X : Stand p l e R (s.setVm vm) m args below meth c T locs cells slots) (hx : p.tables.exec = Jvm.exec) (hby : c.code = b) (hZ : Z.Warmed39 vm) (hlk : meth.locks = false) (hret : meth.sig.returnType = none) (hd : decode b pc = .ok (.return_, 1)) (hc : cells ≤ rc ∧ slots ≤ rs) (eT : T.heap = h) (hh0 : s.heap = h0) (hE : EW Z a0 own_EL) (hch : CHr Z own_EL s.vm h0 vm h) (hS : s.Since vm k0) (hk : k0 ≤ h.size) (hq : Q none h locs) : Go (own_EndH Z) p e below s rc rs Q (T.setTop (mkF m pc Ls [])) :=
  goRet0H X hZ hE hch hh0 eT hS hk hx hlk hret (hb hby hd) hc.1 hc.2 hq
end OwnCH
section OwnStart
variable {args : Array Value} {s : State} {a : Addr} {t : Term} {C n d : String} {k : Int32}
theorem own_eqI (h : (Cond.eq t (.int k)).value args s none s [] = some true) : t.eval args s none [] s = some (.int k) := by
  cases ht : t.eval args s none [] s with
  | none => simp [Cond.value, ht] at h
  | some x => cases x <;> simp [Cond.value, ht, Term.int_eval] at h ⊢; exact h
theorem own_neI (h : (Cond.not (Cond.eq t (.int k))).value args s none s [] = some true) {x : Int32} (e : t.eval args s none [] s = some (.int x)) : ¬ x = k := fun q => by
  subst q; simp [Cond.value, e, Term.int_eval] at h
theorem own_fI (ev : t.eval args s none [] s = some (.ref a)) (h : (Cond.eq (.field t C n d) (.int k)).value args s none s [] = some true) : Fld s s.heap a C n d (.int k) :=
  Fld.start ((fld_at ev).symm.trans (own_eqI h))
theorem own_fR {b : Addr} (ev : t.eval args s none [] s = some (.ref a)) (h : (Term.field t C n d).eval args s none [] s = some (.ref b)) : Fld s s.heap a C n d (.ref b) :=
  Fld.start ((fld_at ev).symm.trans h)
theorem own_len {c : Cell} {ty : FieldType} (ev : t.eval args s none [] s = some (.ref a)) (A : Arr s s.heap a c ty) (h : (Cond.eq (.length t) (.int k)).value args s none s [] = some true) : c.slots.size < 2 ^ 31 ∧ c.slots.size.toInt32 = k := by
  have e := own_eqI h
  have ha : s.arrayAt? a = some c := IntBox.arrayAt_of A.1 A.2.1 A.2.2
  by_cases hl : c.slots.size < 2 ^ 31
  · rw [len_f ev ha hl] at e; exact ⟨hl, by injection e with e; injection e⟩
  · simp [Term.eval, ev, ha, hl] at e
theorem own_el {c : Cell} {ty : FieldType} {j : Int32} {v : Int32} (ev : t.eval args s none [] s = some (.ref a)) (A : Arr s s.heap a c ty) (h : (Cond.eq (.elem t (.int j)) (.int v)).value args s none s [] = some true) : c.slots[j.toNatClampNeg]? = some (.int v) :=
  (elem_in (own_eqI h) ev (Term.int_eval j) A.1).2
end OwnStart
theorem own_wS {Z : State} {a0 : Array Value} (hw : ∀ d ∈ tables_1, d.before a0 Z = true) : ∀ a ∈ Bundle.stringAtoms, a.before a0 Z = true := by
  intro d hd
  simp only [Bundle.stringAtoms, List.mem_cons, List.not_mem_nil, or_false] at hd
  rcases hd with rfl | rfl | rfl | rfl | rfl | rfl | rfl
  · exact hw _ (List.mem_of_getElem? (i := 4) rfl)
  · exact hw _ (List.mem_of_getElem? (i := 3) rfl)
  · exact hw _ (List.mem_of_getElem? (i := 16) rfl)
  · exact hw _ (List.mem_of_getElem? (i := 17) rfl)
  · exact hw _ (List.mem_of_getElem? (i := 18) rfl)
  · exact hw _ (List.mem_of_getElem? (i := 19) rfl)
  · exact hw _ (List.mem_of_getElem? (i := 20) rfl)
theorem own_sh0 (z : Int32) : z >>> ((0 : Int32) &&& 31) = z := by
  apply Int32.toBitVec_inj.mp; simp
/-- a sign of 0 to 255 -/
def own_ch (c : Int32) : Prop := ∃ k : Fin 256, c = Int32.ofNat k.val
theorem own_all {P : Int32 → Prop} (h : ∀ k : Fin 256, P (Int32.ofNat k.val)) {c : Int32} (hc : own_ch c) : P c := by obtain ⟨k, rfl⟩ := hc; exact h k
theorem own_nc {c : Int32} (hc : own_ch c) : nar .char c = c := own_all (P := fun c => nar .char c = c) (by decide +kernel) hc
theorem own_nb {c : Int32} (hc : own_ch c) : nar .byte (c.toInt8.toInt32) = c.toInt8.toInt32 := own_all (P := fun c => nar .byte (c.toInt8.toInt32) = c.toInt8.toInt32) (by decide +kernel) hc
theorem own_le {c : Int32} (hc : own_ch c) : ¬ (255 : Int32) < c := own_all (P := fun c => ¬ (255 : Int32) < c) (by decide +kernel) hc
theorem own_46 {c : Int32} (hc : own_ch c) : c.toInt8.toInt32 = 46 ↔ c = 46 := own_all (P := fun c => c.toInt8.toInt32 = 46 ↔ c = 46) (by decide +kernel) hc
theorem own_bk {c : Int32} (hc : own_ch c) : ((c.toInt8.toInt32) &&& (255 : Int32)).toUInt32.toUInt16.toUInt32.toInt32 = c := own_all (P := fun c => ((c.toInt8.toInt32) &&& (255 : Int32)).toUInt32.toUInt16.toUInt32.toInt32 = c) (by decide +kernel) hc
theorem own_chm (x : Int32) : own_ch (x &&& 255) := by
  have h := Jvm.Kit.i32_mask x 255 (k := 8) (by decide) (by decide)
  refine ⟨⟨(x.toInt % 256).toNat, by omega⟩, ?_⟩
  rw [← Int32.toInt_inj, h, Int32.toInt_ofNat_of_lt (by show (x.toInt % 256).toNat < _; omega)]
  show x.toInt % 2 ^ 8 = (((x.toInt % 256).toNat : Nat) : Int)
  omega
theorem own_ch46 : own_ch 46 := ⟨46, by decide⟩
theorem own_EW {Z : State} {a0 : Array Value} (hw : ∀ d ∈ tables_1, d.before a0 Z = true) : EW Z a0 own_EL := EW.cons (text := "") (hw _ (List.mem_of_getElem? (i := 23) rfl)) (by decide) (EW.cons (text := "") (hw _ (List.mem_of_getElem? (i := 15) rfl)) (by decide) (EW.cons (text := "") (hw _ (List.mem_of_getElem? (i := 162) rfl)) (by decide) (EW.nil)))
theorem own_nar_c (z : Int32) : narrow .char (.int (z.toUInt32.toUInt16.toUInt32.toInt32)) = .int (z.toUInt32.toUInt16.toUInt32.toInt32) := by
  simp only [narrow]; congr 2; simp; apply UInt32.toNat_inj.mp; simp
theorem own_narC {c : Int32} (hc : own_ch c) : narrow .char (.int c) = .int c := own_all (P := fun c => narrow .char (.int c) = .int c) (by decide +kernel) hc
theorem own_five (x : Int32) : (x &&& 2147483647) % 5 = 0 ∨ (x &&& 2147483647) % 5 = 1 ∨ (x &&& 2147483647) % 5 = 2 ∨ (x &&& 2147483647) % 5 = 3 ∨ (x &&& 2147483647) % 5 = 4 := by
  have h := Jvm.Kit.i32_mask x 2147483647 (k := 31) (by decide) (by decide)
  have e5 : (5 : Int32).toInt = 5 := by decide
  have e : ((x &&& 2147483647) % 5).toInt = (x &&& 2147483647).toInt % 5 := by rw [Jvm.Kit.i32_rem_nonneg (by omega), e5]
  simp only [← Int32.toInt_inj, e, show (0 : Int32).toInt = 0 from by decide, show (1 : Int32).toInt = 1 from by decide, show (2 : Int32).toInt = 2 from by decide, show (3 : Int32).toInt = 3 from by decide, show (4 : Int32).toInt = 4 from by decide]
  omega
theorem d2_0 : decode jdk_42_method_149_code 0 = .ok (.aload_n 0, 1) := by decide +kernel
theorem d2_1 : decode jdk_42_method_149_code 1 = .ok (.invokespecial 1, 3) := by decide +kernel
theorem d2_4 : decode jdk_42_method_149_code 4 = .ok (.iload_n 3, 1) := by decide +kernel
theorem d2_5 : decode jdk_42_method_149_code 5 = .ok (.ifCond .ne 22, 3) := by decide +kernel
theorem d2_8 : decode jdk_42_method_149_code 8 = .ok (.aload_n 0, 1) := by decide +kernel
theorem d2_9 : decode jdk_42_method_149_code 9 = .ok (.ldc 7, 2) := by decide +kernel
theorem d2_11 : decode jdk_42_method_149_code 11 = .ok (.getfield 9, 3) := by decide +kernel
theorem d2_14 : decode jdk_42_method_149_code 14 = .ok (.putfield 9, 3) := by decide +kernel
theorem d2_17 : decode jdk_42_method_149_code 17 = .ok (.aload_n 0, 1) := by decide +kernel
theorem d2_18 : decode jdk_42_method_149_code 18 = .ok (.ldc 7, 2) := by decide +kernel
theorem d2_20 : decode jdk_42_method_149_code 20 = .ok (.getfield 15, 3) := by decide +kernel
theorem d2_23 : decode jdk_42_method_149_code 23 = .ok (.putfield 15, 3) := by decide +kernel
theorem d2_26 : decode jdk_42_method_149_code 26 = .ok (.return_, 1) := by decide +kernel
theorem pn_2 : plainName "java/lang/String" = true := by first | (simp [plainName, overriddenIn]; done) | decide +kernel
def QSI0 (Z : State) (a1 a2 : Addr) (u2 : Value) (h0 : Heap) (n0 : Nat) (v : Option Value) (h : Heap) (L : List Loc) : Prop := ∃ (b : Addr), ∃ (kb : ClassId), v = none ∧ Fr n0 L ∧ Keep h0 h [a1] ∧ fV Z h a1 b ∧ fC Z h a1 ∧ vB Z h b kb 0 []
theorem rmSI0 {l : Launch} {Z : State} {a0 : Array Value} (hw : HW Z a0) (a1 a2 : Addr) (u2 : Value) (h0 : Heap) (n0 : Nat) (Z0 : n0 ≤ h0.size) (P0 : eS Z h0 a1) (P1 : Fld Z h0 a1 "java/lang/String" "value" "[B" .null) (P2 : Fld Z h0 a1 "java/lang/String" "coder" "B" u2) (P3 : n0 ≤ a1) : own_MH l Z ⟨"java/lang/String", "<init>", "([CIILjava/lang/Void;)V"⟩ jdk_42_method_149_code 6 none (rmk 1 4 8 12) #[.ref a1, .ref a2, .int 0, .int 0, .null] h0 (QSI0 Z a1 a2 u2 h0 n0) := by
 refine own_bodyH rfl (plainFor_of_name pn_2) ?_
 intro p e s m below meth c s₁ hx hby hml hown hnm hlk hret X0 e0 hZ hh ch0 hS0
 have N0 := Fr.nil n0
 show Go _ p e below s _ _ _ (s₁.setTop (mkF m 0 #[rv a1, rv a2, iv 0, iv 0, .val .null, .unset] []))
 have sf_a1 := own_safeN (EL := own_EL) hZ.alike P0 P1
 refine c_aloadN X0 hx hby d2_0 rfl rfl ?_
 obtain ⟨T14, X14, e14, st14⟩ := initO X0 hx hZ hown (gw hw 12 rfl) (gw hw 13 rfl) (gw hw 14 rfl) e0 (g := (mkF m 1 #[rv a1, rv a2, iv 0, iv 0, .val .null, .unset] [.ref a1])) rfl (by rw [hml]; rfl) rfl (hb hby d2_1) (by decide) (W := 0) (by show 2 * 0 + _ ≤ _; exact Nat.le_of_eq rfl) (by decide)
 refine go st14 ?_
 show Go _ p e below s _ _ _ (T14.setTop (mkF m 4 #[rv a1, rv a2, iv 0, iv 0, .val .null, .unset] []))
 refine c_iloadN X14 hx hby d2_4 rfl <| c_ifNo X14 hx hby d2_5 ((if0 _ _).trans (teq (rfl : (0 : Int32) = (0 : Int32))).2) <| c_aloadN X14 hx hby d2_8 rfl rfl ?_
 obtain ⟨t15, T15, h15, k15, bs15, ks15, X15, e15, E15, hS15, hk15, hZ, hown, LE15, LC15, LV15, LA15, -, -, cr15, -, sn15, st15⟩ := ldcCH X14 hx hZ hown (gw hw 15 rfl) (own_wS hw) e14 hS0 (Nat.zero_le _) (own_EW hw) (List.mem_of_getElem? (i := 1) rfl) ch0.1 (vs := []) (z := (0 : Int32)) ⟨by decide, by decide⟩ (by decide) (by decide) (g := (mkF m 9 #[rv a1, rv a2, iv 0, iv 0, .val .null, .unset] [.ref a1])) rfl (hb hby d2_9) (n := 0) (by decide) (by decide) (by decide) (by decide)
 have sf15_a1 := CHr.safe cr15 P0.lt sf_a1
 have ch15 := ch0.trans cr15
 have KK15 := (Keep.refl h0 [a1]).ext E15
 have ZN15 := Nat.le_trans Z0 E15.1
 refine go st15 ?_
 show Go _ p e below s _ _ _ (T15.setTop (mkF m 11 #[rv a1, rv a2, iv 0, iv 0, .val .null, .unset] [.ref t15, .ref a1]))
 refine c_getf X15 hx hby hZ hown (gw hw 21 rfl) Via.refl e15 LV15 d2_11 fun T16 X16 e16 => ?_
 refine c_sh 14 [.ref bs15, .ref a1] rfl rfl ?_
 have cc17 := P1.ext E15
 have cc18 := P0.ext E15
 refine c_putf X16 hx hby hZ hown (gw hw 21 rfl) Via.refl e16 cc17 cc18 (Or.inr ⟨(gw hw 17 rfl), rfl, hnm⟩) (gw hw 3 rfl) (.array .byte) (by decide) rfl rfl d2_14 fun T19 h19 X19 e19 W19 => ?_
 have Fw19 := cc17.same W19
 have KK19 := KK15.wr W19 (Or.inl (List.mem_of_getElem? (i := 0) rfl))
 have ZN19 := Nat.le_trans ZN15 (Keep.of_wr W19).1
 have HK19 : k15 ≤ h19.size := Nat.le_trans hk15 (Keep.of_wr W19).1
 have NN19 := Fr.snoc X19 N0 P3
 have sf19_a1 := Safe.wr W19 sf15_a1 ch15.1 sf15_a1
 have ch19 := ch15.trans (CHr.wr W19 sf15_a1 ch15.1)
 refine c_sh 17 [] rfl rfl <| c_aloadN X19 hx hby d2_17 rfl rfl ?_
 obtain ⟨t20, T20, h20, k20, bs20, ks20, X20, e20, E20, hS20, hk20, hZ, hown, LE20, LC20, LV20, LA20, -, -, cr20, -, sn20, st20⟩ := ldcCH X19 hx hZ hown (gw hw 15 rfl) (own_wS hw) e19 hS15 HK19 (own_EW hw) (List.mem_of_getElem? (i := 1) rfl) ch19.1 (vs := []) (z := (0 : Int32)) ⟨by decide, by decide⟩ (by decide) (by decide) (g := (mkF m 18 #[rv a1, rv a2, iv 0, iv 0, .val .null, .unset] [.ref a1])) rfl (hb hby d2_18) (n := 0) (by decide) (by decide) (by decide) (by decide)
 have sf20_a1 := CHr.safe cr20 (cc18.wr W19).lt sf19_a1
 have ch20 := ch19.trans cr20
 have KK20 := KK19.ext E20
 have ZN20 := Nat.le_trans ZN19 E20.1
 refine go st20 ?_
 show Go _ p e below s _ _ _ (T20.setTop (mkF m 20 #[rv a1, rv a2, iv 0, iv 0, .val .null, .unset] [.ref t20, .ref a1]))
 refine c_getf X20 hx hby hZ hown (gw hw 22 rfl) Via.refl e20 LC20 d2_20 fun T21 X21 e21 => ?_
 refine c_sh 23 [.int 0, .ref a1] rfl rfl ?_
 have cc22 := ((P2.ext E15).other W19 (Or.inr (slot_ne (Or.inr (gw hw 18 rfl)) (Or.inr (gw hw 17 rfl)) (by decide) (t := .byte) (t' := (.array .byte)) (by decide) (by decide)))).ext E20
 have cc23 := (cc18.wr W19).ext E20
 refine c_putn X21 hx hby hZ hown (gw hw 22 rfl) Via.refl e21 (.int 0) cc22 cc23 (Or.inr ⟨(gw hw 18 rfl), rfl, hnm⟩) (gw hw 3 rfl) .byte (by decide) rfl rfl d2_23 fun T24 h24 X24 e24 W24 => ?_
 have Fw24 := cc22.same W24
 have KK24 := KK20.wr W24 (Or.inl (List.mem_of_getElem? (i := 0) rfl))
 have ZN24 := Nat.le_trans ZN20 (Keep.of_wr W24).1
 have HK24 : k20 ≤ h24.size := Nat.le_trans hk20 (Keep.of_wr W24).1
 have NN24 := Fr.snoc X24 NN19 P3
 have sf24_a1 := Safe.wr W24 sf20_a1 ch20.1 sf20_a1
 have ch24 := ch20.trans (CHr.wr W24 sf20_a1 ch20.1)
 refine c_sh 26 [] rfl rfl ?_
 have cc25 := (Fw19.ext E20).other W24 (Or.inr (slot_ne (Or.inr (gw hw 17 rfl)) (Or.inr (gw hw 18 rfl)) (by decide) (t := (.array .byte)) (t' := .byte) (by decide) (by decide)))
 have cc26 := ((LA15.other W19 (Ne.symm (sn15 _ sf15_a1).2)).ext E20).other W24 (Ne.symm (sn15 _ sf15_a1).2)
 exact c_ret0H X24 hx hby hZ hlk hret d2_26 (by decide) e24 hh (own_EW hw) ch24 hS20 HK24 ⟨bs15, ks15, rfl, NN24, KK24, cc25, Fw24, cc26⟩
theorem d1_0 : decode jdk_42_method_3_code 0 = .ok (.aload_n 0, 1) := by decide +kernel
theorem d1_1 : decode jdk_42_method_3_code 1 = .ok (.aload_n 1, 1) := by decide +kernel
theorem d1_2 : decode jdk_42_method_3_code 2 = .ok (.iconst 0, 1) := by decide +kernel
theorem d1_3 : decode jdk_42_method_3_code 3 = .ok (.aload_n 1, 1) := by decide +kernel
theorem d1_4 : decode jdk_42_method_3_code 4 = .ok (.arraylength, 1) := by decide +kernel
theorem d1_5 : decode jdk_42_method_3_code 5 = .ok (.aconst_null, 1) := by decide +kernel
theorem d1_6 : decode jdk_42_method_3_code 6 = .ok (.invokespecial 27, 3) := by decide +kernel
theorem d1_9 : decode jdk_42_method_3_code 9 = .ok (.return_, 1) := by decide +kernel
theorem pn_1 : plainName "java/lang/String" = true := by first | (simp [plainName, overriddenIn]; done) | decide +kernel
theorem pd_0 : parseMethodDescriptor "([CIILjava/lang/Void;)V" = some ⟨[(.array .char), .int, .int, (.object "java/lang/Void")], none⟩ := by decide +kernel
def QSJ0 (Z : State) (a1 a2 : Addr) (u2 : Value) (ka : ClassId) (h0 : Heap) (n0 : Nat) (v : Option Value) (h : Heap) (L : List Loc) : Prop := ∃ (b : Addr), ∃ (kb : ClassId), v = none ∧ Fr n0 L ∧ Keep h0 h [a1] ∧ fV Z h a1 b ∧ fC Z h a1 ∧ vB Z h b kb 0 []
theorem rmSJ0 {l : Launch} {Z : State} {a0 : Array Value} (hw : HW Z a0) (a1 a2 : Addr) (u2 : Value) (ka : ClassId) (h0 : Heap) (n0 : Nat) (Z0 : n0 ≤ h0.size) (P0 : eS Z h0 a1) (P1 : Fld Z h0 a1 "java/lang/String" "value" "[B" .null) (P2 : Fld Z h0 a1 "java/lang/String" "coder" "B" u2) (P3 : n0 ≤ a1) (P4 : Arv Z h0 a2 ka .char (0 : Int32) [] (.int (0 : Int32))) (P5 : a1 ≠ a2) : own_MH l Z ⟨"java/lang/String", "<init>", "([C)V"⟩ jdk_42_method_3_code 2 none (rmk 2 4 8 29) #[.ref a1, .ref a2] h0 (QSJ0 Z a1 a2 u2 ka h0 n0) := by
 refine own_bodyH rfl (plainFor_of_name pn_1) ?_
 intro p e s m below meth c s₁ hx hby hml hown hnm hlk hret X0 e0 hZ hh ch0 hS0
 have N0 := Fr.nil n0
 show Go _ p e below s _ _ _ (s₁.setTop (mkF m 0 #[rv a1, rv a2] []))
 have sf_a1 := own_safeN (EL := own_EL) hZ.alike P0 P1
 refine c_aloadN X0 hx hby d1_0 rfl rfl <| c_aloadN X0 hx hby d1_1 rfl rfl <| c_iconst X0 hx hby 0 d1_2 rfl <| c_aloadN X0 hx hby d1_3 rfl rfl <| c_alen X0 hx hby hZ e0 P4 d1_4 <| c_aconstNull X0 hx hby d1_5 <| c_initH X0 hx hby hZ hown hml (gw hw 8 rfl) (gw hw 9 rfl) (gw hw 11 rfl) (gw hw 4 rfl) rfl e0 (own_EW hw) ch0 hS0 (Nat.zero_le _) (rmSI0 hw a1 a2 u2 h0 n0 Z0 P0 P1 P2 P3) pd_0 rfl d1_6 [] rfl 0 (by decide) rfl rfl fun o28 T28 L28 X28 hS28 hZ hown hR28 ch28 hQ28 => ?_
 have sf28_a1 := CHr.safe hR28 P0.lt sf_a1
 obtain ⟨b28, kb28, rfl, N28q, K28, u28_1, u28_2, u28_3⟩ := hQ28
 have N28 := Fr.app N0 N28q
 have KK28 := (Keep.refl h0 [a1]).trans K28 (allS (P := fun x => x ∈ [a1] ∨ h0.size ≤ x) (Or.inl (List.mem_of_getElem? (i := 0) rfl)) all0)
 have ZN28 := Nat.le_trans Z0 K28.1
 refine c_sh 9 [] rfl rfl ?_
 exact c_ret0H X28 hx hby hZ hlk hret d1_9 (by decide) rfl hh (own_EW hw) ch28 hS28 (Nat.le_refl _) ⟨b28, kb28, rfl, N28, KK28, u28_1, u28_2, u28_3⟩
theorem d9_0 : decode jdk_42_method_152_code 0 = .ok (.getstatic 38, 3) := by decide +kernel
theorem d9_3 : decode jdk_42_method_152_code 3 = .ok (.ifCond .eq 10, 3) := by decide +kernel
theorem d9_6 : decode jdk_42_method_152_code 6 = .ok (.aload_n 0, 1) := by decide +kernel
theorem d9_7 : decode jdk_42_method_152_code 7 = .ok (.getfield 15, 3) := by decide +kernel
theorem d9_10 : decode jdk_42_method_152_code 10 = .ok (.goto 4, 3) := by decide +kernel
theorem d9_14 : decode jdk_42_method_152_code 14 = .ok (.ireturn, 1) := by decide +kernel
theorem pn_9 : plainName "java/lang/String" = true := by first | (simp [plainName, overriddenIn]; done) | decide +kernel
def Q9 (Z : State) (a1 : Addr) (w0 : Int32) (h0 : Heap) (n0 : Nat) (v : Option Value) (h : Heap) (L : List Loc) : Prop := v = some (.int (0 : Int32)) ∧ Fr n0 L ∧ h = h0
theorem rm9 {l : Launch} {Z : State} {a0 : Array Value} (hw : HW Z a0) (a1 : Addr) (w0 : Int32) (h0 : Heap) (n0 : Nat) (Z0 : n0 ≤ h0.size) (P0 : sCS Z w0) (P1 : Old Z n0 h0) (P2 : fC Z h0 a1) (hw0 : ¬ w0 = 0) : own_M l Z ⟨"java/lang/String", "coder", "()B"⟩ jdk_42_method_152_code 1 (some .byte) (rmk 0 0 0 0) #[.ref a1] h0 (Q9 Z a1 w0 h0 n0) := by
 refine own_body rfl (plainFor_of_name pn_9) ?_
 intro p e s m below meth c s₁ hx hby hml hown hnm hlk hret X0 e0 hZ
 have N0 := Fr.nil n0
 show Go _ p e below s _ _ _ (s₁.setTop (mkF m 0 #[rv a1] []))
 refine c_gets X0 hx hby hZ hown (gw hw 60 rfl) Via.refl e0 (P0.ext P1.2) d9_0 fun T31 X31 e31 => ?_
 refine c_sh 3 [.int w0] rfl rfl <| c_ifNo X31 hx hby d9_3 ((if0 _ _).trans (feq hw0).1) <| c_aloadN X31 hx hby d9_6 rfl rfl <| c_getf X31 hx hby hZ hown (gw hw 22 rfl) Via.refl e31 P2 d9_7 fun T32 X32 e32 => ?_
 refine c_sh 10 [.int 0] rfl rfl <| c_goto X32 hx hby 14 d9_10 (by decide) ?_
 refine c_retI X32 hx hby hlk hret d9_14 rfl (by simp) (by decide) e32 ⟨rfl, N0, rfl⟩
theorem d8_0 : decode jdk_42_method_54_code 0 = .ok (.aload_n 0, 1) := by decide +kernel
theorem d8_1 : decode jdk_42_method_54_code 1 = .ok (.getfield 9, 3) := by decide +kernel
theorem d8_4 : decode jdk_42_method_54_code 4 = .ok (.arraylength, 1) := by decide +kernel
theorem d8_5 : decode jdk_42_method_54_code 5 = .ok (.aload_n 0, 1) := by decide +kernel
theorem d8_6 : decode jdk_42_method_54_code 6 = .ok (.invokevirtual 335, 3) := by decide +kernel
theorem d8_9 : decode jdk_42_method_54_code 9 = .ok (.ishr, 1) := by decide +kernel
theorem d8_10 : decode jdk_42_method_54_code 10 = .ok (.ireturn, 1) := by decide +kernel
theorem pn_8 : plainName "java/lang/String" = true := by first | (simp [plainName, overriddenIn]; done) | decide +kernel
theorem pd_1 : parseMethodDescriptor "()B" = some ⟨[], some .byte⟩ := by decide +kernel
def Q8 (Z : State) (a1 : Addr) (w0 : Int32) (v1 : Addr) (k1 : ClassId) (z1 : Int32) (vs1 : List Value) (h0 : Heap) (n0 : Nat) (v : Option Value) (h : Heap) (L : List Loc) : Prop := v = some (.int z1) ∧ Fr n0 L ∧ h = h0
theorem rm8 {l : Launch} {Z : State} {a0 : Array Value} (hw : HW Z a0) (a1 : Addr) (w0 : Int32) (v1 : Addr) (k1 : ClassId) (z1 : Int32) (vs1 : List Value) (h0 : Heap) (n0 : Nat) (Z0 : n0 ≤ h0.size) (P0 : sCS Z w0) (P1 : Old Z n0 h0) (P2 : eS Z h0 a1) (P3 : fC Z h0 a1) (P4 : fV Z h0 a1 v1) (P5 : vB Z h0 v1 k1 z1 vs1) (hw0 : ¬ w0 = 0) : own_M l Z ⟨"java/lang/String", "length", "()I"⟩ jdk_42_method_54_code 1 (some .int) (rmk 1 0 0 13) #[.ref a1] h0 (Q8 Z a1 w0 v1 k1 z1 vs1 h0 n0) := by
 refine own_body rfl (plainFor_of_name pn_8) ?_
 intro p e s m below meth c s₁ hx hby hml hown hnm hlk hret X0 e0 hZ
 have N0 := Fr.nil n0
 show Go _ p e below s _ _ _ (s₁.setTop (mkF m 0 #[rv a1] []))
 refine c_aloadN X0 hx hby d8_0 rfl rfl <| c_getf X0 hx hby hZ hown (gw hw 21 rfl) Via.refl e0 P4 d8_1 fun T35 X35 e35 => ?_
 refine c_sh 4 [.ref v1] rfl rfl <| c_alen X35 hx hby hZ e35 P5 d8_4 <| c_aloadN X35 hx hby d8_5 rfl rfl <| c_callV X35 hx hby hZ hown hml (gw hw 55 rfl) (gw hw 56 rfl) (gw hw 58 rfl) (gw hw 57 rfl) (gw hw 59 rfl) (gw hw 4 rfl) P2 e35 (rm9 hw a1 w0 h0 n0 Z0 P0 P1 P3 hw0) pd_1 rfl d8_6 [.int z1] rfl 1 (by decide) rfl rfl fun o36 T36 L36 X36 hQ36 => ?_
 obtain ⟨rfl, N36q, e36⟩ := hQ36
 have N36 := Fr.app N0 N36q
 refine c_sh 9 [.int 0, .int z1] rfl rfl <| c_ishr X36 hx hby d8_9 ?_
 rw [own_sh0]
 refine c_sh 10 [.int z1] rfl rfl ?_
 refine c_retI X36 hx hby hlk hret d8_10 rfl (by simp) (by decide) e36 ⟨rfl, N36, rfl⟩
theorem d11_0 : decode jdk_42_method_154_code 0 = .ok (.getstatic 38, 3) := by decide +kernel
theorem d11_3 : decode jdk_42_method_154_code 3 = .ok (.ifCond .eq 14, 3) := by decide +kernel
theorem d11_6 : decode jdk_42_method_154_code 6 = .ok (.aload_n 0, 1) := by decide +kernel
theorem d11_7 : decode jdk_42_method_154_code 7 = .ok (.getfield 15, 3) := by decide +kernel
theorem d11_10 : decode jdk_42_method_154_code 10 = .ok (.ifCond .ne 7, 3) := by decide +kernel
theorem d11_13 : decode jdk_42_method_154_code 13 = .ok (.iconst 1, 1) := by decide +kernel
theorem d11_14 : decode jdk_42_method_154_code 14 = .ok (.goto 4, 3) := by decide +kernel
theorem d11_18 : decode jdk_42_method_154_code 18 = .ok (.ireturn, 1) := by decide +kernel
theorem pn_11 : plainName "java/lang/String" = true := by first | (simp [plainName, overriddenIn]; done) | decide +kernel
def Q11 (Z : State) (a1 : Addr) (w0 : Int32) (h0 : Heap) (n0 : Nat) (v : Option Value) (h : Heap) (L : List Loc) : Prop := v = some (.int (1 : Int32)) ∧ Fr n0 L ∧ h = h0
theorem rm11 {l : Launch} {Z : State} {a0 : Array Value} (hw : HW Z a0) (a1 : Addr) (w0 : Int32) (h0 : Heap) (n0 : Nat) (Z0 : n0 ≤ h0.size) (P0 : sCS Z w0) (P1 : Old Z n0 h0) (P2 : fC Z h0 a1) (hw0 : ¬ w0 = 0) : own_M l Z ⟨"java/lang/String", "isLatin1", "()Z"⟩ jdk_42_method_154_code 1 (some .boolean) (rmk 0 0 0 0) #[.ref a1] h0 (Q11 Z a1 w0 h0 n0) := by
 refine own_body rfl (plainFor_of_name pn_11) ?_
 intro p e s m below meth c s₁ hx hby hml hown hnm hlk hret X0 e0 hZ
 have N0 := Fr.nil n0
 show Go _ p e below s _ _ _ (s₁.setTop (mkF m 0 #[rv a1] []))
 refine c_gets X0 hx hby hZ hown (gw hw 60 rfl) Via.refl e0 (P0.ext P1.2) d11_0 fun T39 X39 e39 => ?_
 refine c_sh 3 [.int w0] rfl rfl <| c_ifNo X39 hx hby d11_3 ((if0 _ _).trans (feq hw0).1) <| c_aloadN X39 hx hby d11_6 rfl rfl <| c_getf X39 hx hby hZ hown (gw hw 22 rfl) Via.refl e39 P2 d11_7 fun T40 X40 e40 => ?_
 refine c_sh 10 [.int 0] rfl rfl <| c_ifNo X40 hx hby d11_10 ((if0 _ _).trans (teq (rfl : (0 : Int32) = (0 : Int32))).2) <| c_iconst X40 hx hby 1 d11_13 rfl <| c_goto X40 hx hby 18 d11_14 (by decide) ?_
 refine c_retI X40 hx hby hlk hret d11_18 rfl (by simp) (by decide) e40 ⟨rfl, N0, rfl⟩
theorem d18_0 : decode jdk_41_method_12_code 0 = .ok (.iload_n 0, 1) := by decide +kernel
theorem d18_1 : decode jdk_41_method_12_code 1 = .ok (.ifCond .lt 13, 3) := by decide +kernel
theorem d18_4 : decode jdk_41_method_12_code 4 = .ok (.iload_n 0, 1) := by decide +kernel
theorem d18_5 : decode jdk_41_method_12_code 5 = .ok (.iload_n 1, 1) := by decide +kernel
theorem d18_6 : decode jdk_41_method_12_code 6 = .ok (.if_icmp .gt 8, 3) := by decide +kernel
theorem d18_9 : decode jdk_41_method_12_code 9 = .ok (.iload_n 1, 1) := by decide +kernel
theorem d18_10 : decode jdk_41_method_12_code 10 = .ok (.iload_n 2, 1) := by decide +kernel
theorem d18_11 : decode jdk_41_method_12_code 11 = .ok (.if_icmp .le 11, 3) := by decide +kernel
theorem d18_22 : decode jdk_41_method_12_code 22 = .ok (.iload_n 0, 1) := by decide +kernel
theorem d18_23 : decode jdk_41_method_12_code 23 = .ok (.ireturn, 1) := by decide +kernel
theorem pn_18 : plainName "jdk/internal/util/Preconditions" = true := by first | (simp [plainName, overriddenIn]; done) | decide +kernel
theorem ef_18 (m : MethodId) (p1 : Int32) (p2 : Int32) (p3 : Int32) (f0 : Value) (hf_f0 : f0.isRef = true) : entryFrame m #[.int p1, .int p2, .int p3, f0] 4 = mkF m 0 #[.val (.int p1), .val (.int p2), .val (.int p3), .val f0] [] := by rcases ref_cases hf_f0 with rfl | ⟨z, rfl⟩ <;> first | (simp [entryFrame, mkF, argsToLocals, Value.category]; done) | rfl
def Q18 (Z : State) (p1 p2 p3 : Int32) (f0 : Value) (h0 : Heap) (n0 : Nat) (v : Option Value) (h : Heap) (L : List Loc) : Prop := v = some (.int p1) ∧ Fr n0 L ∧ h = h0
theorem rm18 {l : Launch} {Z : State} {a0 : Array Value} (hw : HW Z a0) (p1 p2 p3 : Int32) (f0 : Value) (h0 : Heap) (n0 : Nat) (Z0 : n0 ≤ h0.size) (h1 : ¬ p1 < 0) (h2 : ¬ p2 < p1) (h3 : ¬ p3 < p2) (hf_f0 : f0.isRef = true) : own_M l Z ⟨"jdk/internal/util/Preconditions", "checkFromToIndex", "(IIILjava/util/function/BiFunction;)I"⟩ jdk_41_method_12_code 4 (some .int) (rmk 0 0 0 0) #[.int p1, .int p2, .int p3, f0] h0 (Q18 Z p1 p2 p3 f0 h0 n0) := by
 refine own_body rfl (plainFor_of_name pn_18) ?_
 intro p e s m below meth c s₁ hx hby hml hown hnm hlk hret X0 e0 hZ
 have N0 := Fr.nil n0
 refine go (fun _ k => castTop (ef_18 m p1 p2 p3 f0 hf_f0) k) ?_
 show Go _ p e below s _ _ _ (s₁.setTop (mkF m 0 #[iv p1, iv p2, iv p3, .val f0] []))
 refine c_iloadN X0 hx hby d18_0 rfl <| c_ifNo X0 hx hby d18_1 ((if0 _ _).trans (flt h1).1) <| c_iloadN X0 hx hby d18_4 rfl <| c_iloadN X0 hx hby d18_5 rfl <| c_icmpNo X0 hx hby d18_6 (flt h2).2.2.1 <| c_iloadN X0 hx hby d18_9 rfl <| c_iloadN X0 hx hby d18_10 rfl <| c_icmpYes X0 hx hby 22 d18_11 (flt h3).2.2.2 (by decide) <| c_iloadN X0 hx hby d18_22 rfl ?_
 refine c_retI X0 hx hby hlk hret d18_23 rfl (by simp) (by decide) e0 ⟨rfl, N0, rfl⟩
theorem d17_0 : decode jdk_42_method_158_code 0 = .ok (.iload_n 0, 1) := by decide +kernel
theorem d17_1 : decode jdk_42_method_158_code 1 = .ok (.iload_n 1, 1) := by decide +kernel
theorem d17_2 : decode jdk_42_method_158_code 2 = .ok (.iload_n 2, 1) := by decide +kernel
theorem d17_3 : decode jdk_42_method_158_code 3 = .ok (.getstatic 1053, 3) := by decide +kernel
theorem d17_6 : decode jdk_42_method_158_code 6 = .ok (.invokestatic 1062, 3) := by decide +kernel
theorem d17_9 : decode jdk_42_method_158_code 9 = .ok (.pop, 1) := by decide +kernel
theorem d17_10 : decode jdk_42_method_158_code 10 = .ok (.return_, 1) := by decide +kernel
theorem pn_17 : plainName "java/lang/String" = true := by first | (simp [plainName, overriddenIn]; done) | decide +kernel
theorem pd_2 : parseMethodDescriptor "(IIILjava/util/function/BiFunction;)I" = some ⟨[.int, .int, .int, (.object "java/util/function/BiFunction")], some .int⟩ := by decide +kernel
def Q17 (Z : State) (p1 p2 p3 : Int32) (f0 : Value) (h0 : Heap) (n0 : Nat) (v : Option Value) (h : Heap) (L : List Loc) : Prop := v = none ∧ Fr n0 L ∧ h = h0
theorem rm17 {l : Launch} {Z : State} {a0 : Array Value} (hw : HW Z a0) (p1 p2 p3 : Int32) (f0 : Value) (h0 : Heap) (n0 : Nat) (Z0 : n0 ≤ h0.size) (P0 : sPF Z f0) (P1 : Old Z n0 h0) (h1 : ¬ p1 < 0) (h2 : ¬ p2 < p1) (h3 : ¬ p3 < p2) (hf : f0.isRef = true) : own_M l Z ⟨"java/lang/String", "checkBoundsBeginEnd", "(III)V"⟩ jdk_42_method_158_code 3 none (rmk 1 0 0 15) #[.int p1, .int p2, .int p3] h0 (Q17 Z p1 p2 p3 f0 h0 n0) := by
 refine own_body rfl (plainFor_of_name pn_17) ?_
 intro p e s m below meth c s₁ hx hby hml hown hnm hlk hret X0 e0 hZ
 have N0 := Fr.nil n0
 show Go _ p e below s _ _ _ (s₁.setTop (mkF m 0 #[iv p1, iv p2, iv p3] []))
 refine c_iloadN X0 hx hby d17_0 rfl <| c_iloadN X0 hx hby d17_1 rfl <| c_iloadN X0 hx hby d17_2 rfl <| c_gets X0 hx hby hZ hown (gw hw 95 rfl) Via.refl e0 (P0.ext P1.2) d17_3 fun T43 X43 e43 => ?_
 refine c_sh 6 [f0, .int p3, .int p2, .int p1] rfl rfl <| c_callS X43 hx hby hZ hown hml (gw hw 97 rfl) (gw hw 98 rfl) (gw hw 96 rfl) (gw hw 99 rfl) e43 (rm18 hw p1 p2 p3 f0 h0 n0 Z0 h1 h2 h3 hf) pd_2 rfl d17_6 [] rfl 0 (by decide) rfl rfl fun o44 T44 L44 X44 hQ44 => ?_
 obtain ⟨rfl, N44q, e44⟩ := hQ44
 have N44 := Fr.app N0 N44q
 refine c_sh 9 [.int p1] rfl rfl <| c_pop X44 hx hby d17_9 rfl ?_
 exact c_ret0 X44 hx hby hlk hret d17_10 (by decide) e44 ⟨rfl, N44, rfl⟩
theorem d27_0 : decode jdk_43_method_47_code 0 = .ok (.iload_n 2, 1) := by decide +kernel
theorem d27_1 : decode jdk_43_method_47_code 1 = .ok (.ifCond .ne 6, 3) := by decide +kernel
theorem d27_4 : decode jdk_43_method_47_code 4 = .ok (.ldc 151, 2) := by decide +kernel
theorem d27_6 : decode jdk_43_method_47_code 6 = .ok (.areturn, 1) := by decide +kernel
theorem pn_27 : plainName "java/lang/StringLatin1" = true := by first | (simp [plainName, overriddenIn]; done) | decide +kernel
def QNZ1 (Z : State) (v1 : Addr) (h0 : Heap) (n0 : Nat) (v : Option Value) (h : Heap) (L : List Loc) : Prop := ∃ (b : Addr), ∃ (bb : Addr), ∃ (kb : ClassId), v = some (.ref b) ∧ Fr n0 L ∧ Keep h0 h [] ∧ eS Z h b ∧ fC Z h b ∧ fV Z h b bb ∧ vB Z h bb kb 0 []
theorem rmNZ1 {l : Launch} {Z : State} {a0 : Array Value} (hw : HW Z a0) (v1 : Addr) (h0 : Heap) (n0 : Nat) (Z0 : n0 ≤ h0.size)  : own_MH l Z ⟨"java/lang/StringLatin1", "newString", "([BII)Ljava/lang/String;"⟩ jdk_43_method_47_code 3 (some (.object "java/lang/String")) (rmk 0 2 4 0) #[.ref v1, .int 1, .int 0] h0 (QNZ1 Z v1 h0 n0) := by
 refine own_bodyH rfl (plainFor_of_name pn_27) ?_
 intro p e s m below meth c s₁ hx hby hml hown hnm hlk hret X0 e0 hZ hh ch0 hS0
 have N0 := Fr.nil n0
 show Go _ p e below s _ _ _ (s₁.setTop (mkF m 0 #[rv v1, iv 1, iv 0] []))
 refine c_iloadN X0 hx hby d27_0 rfl <| c_ifNo X0 hx hby d27_1 ((if0 _ _).trans (teq (rfl : (0 : Int32) = (0 : Int32))).2) ?_
 obtain ⟨t46, T46, h46, k46, bs46, ks46, X46, e46, E46, hS46, hk46, hZ, hown, LE46, LC46, LV46, LA46, -, -, cr46, -, sn46, st46⟩ := ldcCH X0 hx hZ hown (gw hw 162 rfl) (own_wS hw) e0 hS0 (Nat.zero_le _) (own_EW hw) (List.mem_of_getElem? (i := 2) rfl) ch0.1 (vs := []) (z := (0 : Int32)) ⟨by decide, by decide⟩ (by decide) (by decide) (g := (mkF m 4 #[rv v1, iv 1, iv 0] [])) rfl (hb hby d27_4) (n := 0) (by decide) (by decide) (by decide) (by decide)
 have ch46 := ch0.trans cr46
 have KK46 := (Keep.refl h0 []).ext E46
 have ZN46 := Nat.le_trans Z0 E46.1
 refine go st46 ?_
 show Go _ p e below s _ _ _ (T46.setTop (mkF m 6 #[rv v1, iv 1, iv 0] [.ref t46]))
 exact c_retAH X46 hx hby hZ hlk hret d27_6 rfl ⟨rfl, rfl⟩ (by decide) e46 hh (own_EW hw) ch46 hS46 hk46 ⟨t46, bs46, ks46, rfl, N0, KK46, LE46, LC46, LV46, LA46⟩
theorem d16_0 : decode jdk_42_method_92_code 0 = .ok (.aload_n 0, 1) := by decide +kernel
theorem d16_1 : decode jdk_42_method_92_code 1 = .ok (.invokevirtual 505, 3) := by decide +kernel
theorem d16_4 : decode jdk_42_method_92_code 4 = .ok (.istore_n 3, 1) := by decide +kernel
theorem d16_5 : decode jdk_42_method_92_code 5 = .ok (.iload_n 1, 1) := by decide +kernel
theorem d16_6 : decode jdk_42_method_92_code 6 = .ok (.iload_n 2, 1) := by decide +kernel
theorem d16_7 : decode jdk_42_method_92_code 7 = .ok (.iload_n 3, 1) := by decide +kernel
theorem d16_8 : decode jdk_42_method_92_code 8 = .ok (.invokestatic 521, 3) := by decide +kernel
theorem d16_11 : decode jdk_42_method_92_code 11 = .ok (.iload_n 1, 1) := by decide +kernel
theorem d16_12 : decode jdk_42_method_92_code 12 = .ok (.ifCond .ne 10, 3) := by decide +kernel
theorem d16_22 : decode jdk_42_method_92_code 22 = .ok (.iload_n 2, 1) := by decide +kernel
theorem d16_23 : decode jdk_42_method_92_code 23 = .ok (.iload_n 1, 1) := by decide +kernel
theorem d16_24 : decode jdk_42_method_92_code 24 = .ok (.isub, 1) := by decide +kernel
theorem d16_25 : decode jdk_42_method_92_code 25 = .ok (.istore 4, 2) := by decide +kernel
theorem d16_27 : decode jdk_42_method_92_code 27 = .ok (.aload_n 0, 1) := by decide +kernel
theorem d16_28 : decode jdk_42_method_92_code 28 = .ok (.invokevirtual 492, 3) := by decide +kernel
theorem d16_31 : decode jdk_42_method_92_code 31 = .ok (.ifCond .eq 16, 3) := by decide +kernel
theorem d16_34 : decode jdk_42_method_92_code 34 = .ok (.aload_n 0, 1) := by decide +kernel
theorem d16_35 : decode jdk_42_method_92_code 35 = .ok (.getfield 9, 3) := by decide +kernel
theorem d16_38 : decode jdk_42_method_92_code 38 = .ok (.iload_n 1, 1) := by decide +kernel
theorem d16_39 : decode jdk_42_method_92_code 39 = .ok (.iload 4, 2) := by decide +kernel
theorem d16_41 : decode jdk_42_method_92_code 41 = .ok (.invokestatic 685, 3) := by decide +kernel
theorem d16_44 : decode jdk_42_method_92_code 44 = .ok (.goto 13, 3) := by decide +kernel
theorem d16_57 : decode jdk_42_method_92_code 57 = .ok (.areturn, 1) := by decide +kernel
theorem pn_16 : plainName "java/lang/String" = true := by first | (simp [plainName, overriddenIn]; done) | decide +kernel
theorem pd_3 : parseMethodDescriptor "()I" = some ⟨[], some .int⟩ := by decide +kernel
theorem pd_4 : parseMethodDescriptor "(III)V" = some ⟨[.int, .int, .int], none⟩ := by decide +kernel
theorem pd_5 : parseMethodDescriptor "()Z" = some ⟨[], some .boolean⟩ := by decide +kernel
theorem pd_6 : parseMethodDescriptor "([BII)Ljava/lang/String;" = some ⟨[(.array .byte), .int, .int], some (.object "java/lang/String")⟩ := by decide +kernel
def QSZ1 (Z : State) (a1 : Addr) (w0 : Int32) (f0 : Value) (v1 : Addr) (k1 : ClassId) (y0 : Int32) (h0 : Heap) (n0 : Nat) (v : Option Value) (h : Heap) (L : List Loc) : Prop := ∃ (b : Addr), ∃ (bb : Addr), ∃ (kb : ClassId), v = some (.ref b) ∧ Fr n0 L ∧ Keep h0 h [] ∧ eS Z h b ∧ fC Z h b ∧ fV Z h b bb ∧ vB Z h bb kb 0 []
theorem rmSZ1 {l : Launch} {Z : State} {a0 : Array Value} (hw : HW Z a0) (a1 : Addr) (w0 : Int32) (f0 : Value) (v1 : Addr) (k1 : ClassId) (y0 : Int32) (h0 : Heap) (n0 : Nat) (Z0 : n0 ≤ h0.size) (P0 : sCS Z w0) (P1 : sPF Z f0) (P2 : Old Z n0 h0) (P3 : eS Z h0 a1) (P4 : fC Z h0 a1) (P5 : fV Z h0 a1 v1) (P6 : vB Z h0 v1 k1 1 [.int y0]) (hw0 : ¬ w0 = 0) (hf : f0.isRef = true) : own_MH l Z ⟨"java/lang/String", "substring", "(II)Ljava/lang/String;"⟩ jdk_42_method_92_code 5 (some (.object "java/lang/String")) (rmk 2 2 4 29) #[.ref a1, .int 1, .int 1] h0 (QSZ1 Z a1 w0 f0 v1 k1 y0 h0 n0) := by
 refine own_bodyH rfl (plainFor_of_name pn_16) ?_
 intro p e s m below meth c s₁ hx hby hml hown hnm hlk hret X0 e0 hZ hh ch0 hS0
 have N0 := Fr.nil n0
 show Go _ p e below s _ _ _ (s₁.setTop (mkF m 0 #[rv a1, iv 1, iv 1, .unset, .unset] []))
 refine c_aloadN X0 hx hby d16_0 rfl rfl <| c_callV X0 hx hby hZ hown hml (gw hw 50 rfl) (gw hw 51 rfl) (gw hw 53 rfl) (gw hw 52 rfl) (gw hw 54 rfl) (gw hw 4 rfl) P3 e0 (rm8 hw a1 w0 v1 k1 (1 : Int32) [(.int y0)] h0 n0 Z0 P0 P2 P3 P4 P5 P6 hw0) pd_3 rfl d16_1 [] rfl 0 (by decide) rfl rfl fun o52 T52 L52 X52 hQ52 => ?_
 obtain ⟨rfl, N52q, e52⟩ := hQ52
 have N52 := Fr.app N0 N52q
 refine c_sh 4 [.int 1] rfl rfl <| c_istoreN X52 hx hby _ d16_4 rfl <| c_iloadN X52 hx hby d16_5 rfl <| c_iloadN X52 hx hby d16_6 rfl <| c_iloadN X52 hx hby d16_7 rfl <| c_shL #[rv a1, iv 1, iv 1, iv 1, .unset] rfl <| c_callS X52 hx hby hZ hown hml (gw hw 92 rfl) (gw hw 93 rfl) (gw hw 4 rfl) (gw hw 94 rfl) e52 (rm17 hw (1 : Int32) (1 : Int32) (1 : Int32) f0 h0 n0 Z0 P1 P2 (by decide) (by decide) (by decide) hf) pd_4 rfl d16_8 [] rfl 0 (by decide) rfl rfl fun o53 T53 L53 X53 hQ53 => ?_
 obtain ⟨rfl, N53q, e53⟩ := hQ53
 have N53 := Fr.app N52 N53q
 refine c_sh 11 [] rfl rfl <| c_iloadN X53 hx hby d16_11 rfl <| c_ifYes X53 hx hby 22 d16_12 (by decide) (by decide) <| c_iloadN X53 hx hby d16_22 rfl <| c_iloadN X53 hx hby d16_23 rfl <| c_isub X53 hx hby d16_24 <| c_sh 25 [.int 0] rfl rfl <| c_istore X53 hx hby _ d16_25 rfl <| c_aloadN X53 hx hby d16_27 rfl rfl <| c_shL #[rv a1, iv 1, iv 1, iv 1, iv 0] rfl <| c_callV X53 hx hby hZ hown hml (gw hw 66 rfl) (gw hw 67 rfl) (gw hw 69 rfl) (gw hw 68 rfl) (gw hw 70 rfl) (gw hw 4 rfl) P3 e53 (rm11 hw a1 w0 h0 n0 Z0 P0 P2 P4 hw0) pd_5 rfl d16_28 [] rfl 0 (by decide) rfl rfl fun o54 T54 L54 X54 hQ54 => ?_
 obtain ⟨rfl, N54q, e54⟩ := hQ54
 have N54 := Fr.app N53 N54q
 refine c_sh 31 [.int 1] rfl rfl <| c_ifNo X54 hx hby d16_31 (by decide) <| c_aloadN X54 hx hby d16_34 rfl rfl <| c_getf X54 hx hby hZ hown (gw hw 21 rfl) Via.refl e54 P5 d16_35 fun T55 X55 e55 => ?_
 refine c_sh 38 [.ref v1] rfl rfl <| c_iloadN X55 hx hby d16_38 rfl <| c_iload X55 hx hby d16_39 rfl <| c_callSH X55 hx hby hZ hown hml (gw hw 128 rfl) (gw hw 129 rfl) (gw hw 73 rfl) (gw hw 130 rfl) e55 (own_EW hw) ch0 hS0 (Nat.zero_le _) (rmNZ1 hw v1 h0 n0 Z0 ) pd_6 rfl d16_41 [] rfl 0 (by decide) rfl rfl fun o56 T56 L56 X56 hS56 hZ hown hR56 ch56 hQ56 => ?_
 obtain ⟨b56, bb56, kb56, rfl, N56q, K56, u56_1, u56_2, u56_3, u56_4⟩ := hQ56
 have N56 := Fr.app N54 N56q
 have KK56 := (Keep.refl h0 []).trans K56 all0
 have ZN56 := Nat.le_trans Z0 K56.1
 have OL56 := P2.keep K56 all0
 refine c_sh 44 [.ref b56] rfl rfl <| c_goto X56 hx hby 57 d16_44 (by decide) ?_
 exact c_retAH X56 hx hby hZ hlk hret d16_57 rfl ⟨rfl, rfl⟩ (by decide) rfl hh (own_EW hw) ch56 hS56 (Nat.le_refl _) ⟨b56, bb56, kb56, rfl, N56, KK56, u56_1, u56_2, u56_3, u56_4⟩
theorem d15_0 : decode jdk_42_method_91_code 0 = .ok (.aload_n 0, 1) := by decide +kernel
theorem d15_1 : decode jdk_42_method_91_code 1 = .ok (.iload_n 1, 1) := by decide +kernel
theorem d15_2 : decode jdk_42_method_91_code 2 = .ok (.aload_n 0, 1) := by decide +kernel
theorem d15_3 : decode jdk_42_method_91_code 3 = .ok (.invokevirtual 505, 3) := by decide +kernel
theorem d15_6 : decode jdk_42_method_91_code 6 = .ok (.invokevirtual 681, 3) := by decide +kernel
theorem d15_9 : decode jdk_42_method_91_code 9 = .ok (.areturn, 1) := by decide +kernel
theorem pn_15 : plainName "java/lang/String" = true := by first | (simp [plainName, overriddenIn]; done) | decide +kernel
theorem pd_7 : parseMethodDescriptor "(II)Ljava/lang/String;" = some ⟨[.int, .int], some (.object "java/lang/String")⟩ := by decide +kernel
def QSW1 (Z : State) (a1 : Addr) (w0 : Int32) (f0 : Value) (v1 : Addr) (k1 : ClassId) (y0 : Int32) (h0 : Heap) (n0 : Nat) (v : Option Value) (h : Heap) (L : List Loc) : Prop := ∃ (b : Addr), ∃ (bb : Addr), ∃ (kb : ClassId), v = some (.ref b) ∧ Fr n0 L ∧ Keep h0 h [] ∧ eS Z h b ∧ fC Z h b ∧ fV Z h b bb ∧ vB Z h bb kb 0 []
theorem rmSW1 {l : Launch} {Z : State} {a0 : Array Value} (hw : HW Z a0) (a1 : Addr) (w0 : Int32) (f0 : Value) (v1 : Addr) (k1 : ClassId) (y0 : Int32) (h0 : Heap) (n0 : Nat) (Z0 : n0 ≤ h0.size) (P0 : sCS Z w0) (P1 : sPF Z f0) (P2 : Old Z n0 h0) (P3 : eS Z h0 a1) (P4 : fC Z h0 a1) (P5 : fV Z h0 a1 v1) (P6 : vB Z h0 v1 k1 1 [.int y0]) (hw0 : ¬ w0 = 0) (hf : f0.isRef = true) : own_MH l Z ⟨"java/lang/String", "substring", "(I)Ljava/lang/String;"⟩ jdk_42_method_91_code 2 (some (.object "java/lang/String")) (rmk 3 2 4 45) #[.ref a1, .int 1] h0 (QSW1 Z a1 w0 f0 v1 k1 y0 h0 n0) := by
 refine own_bodyH rfl (plainFor_of_name pn_15) ?_
 intro p e s m below meth c s₁ hx hby hml hown hnm hlk hret X0 e0 hZ hh ch0 hS0
 have N0 := Fr.nil n0
 show Go _ p e below s _ _ _ (s₁.setTop (mkF m 0 #[rv a1, iv 1] []))
 refine c_aloadN X0 hx hby d15_0 rfl rfl <| c_iloadN X0 hx hby d15_1 rfl <| c_aloadN X0 hx hby d15_2 rfl rfl <| c_callV X0 hx hby hZ hown hml (gw hw 50 rfl) (gw hw 51 rfl) (gw hw 53 rfl) (gw hw 52 rfl) (gw hw 54 rfl) (gw hw 4 rfl) P3 e0 (rm8 hw a1 w0 v1 k1 (1 : Int32) [(.int y0)] h0 n0 Z0 P0 P2 P3 P4 P5 P6 hw0) pd_3 rfl d15_3 [.int 1, .ref a1] rfl 2 (by decide) rfl rfl fun o59 T59 L59 X59 hQ59 => ?_
 obtain ⟨rfl, N59q, e59⟩ := hQ59
 have N59 := Fr.app N0 N59q
 refine c_sh 6 [.int 1, .int 1, .ref a1] rfl rfl <| c_callVH X59 hx hby hZ hown hml (gw hw 87 rfl) (gw hw 88 rfl) (gw hw 90 rfl) (gw hw 89 rfl) (gw hw 91 rfl) (gw hw 4 rfl) P3 e59 (own_EW hw) ch0 hS0 (Nat.zero_le _) (rmSZ1 hw a1 w0 f0 v1 k1 y0 h0 n0 Z0 P0 P1 P2 P3 P4 P5 P6 hw0 hf) pd_7 rfl d15_6 [] rfl 0 (by decide) rfl rfl fun o60 T60 L60 X60 hS60 hZ hown hR60 ch60 hQ60 => ?_
 obtain ⟨b60, bb60, kb60, rfl, N60q, K60, u60_1, u60_2, u60_3, u60_4⟩ := hQ60
 have N60 := Fr.app N59 N60q
 have KK60 := (Keep.refl h0 []).trans K60 all0
 have ZN60 := Nat.le_trans Z0 K60.1
 have OL60 := P2.keep K60 all0
 refine c_sh 9 [.ref b60] rfl rfl ?_
 exact c_retAH X60 hx hby hZ hlk hret d15_9 rfl ⟨rfl, rfl⟩ (by decide) rfl hh (own_EW hw) ch60 hS60 (Nat.le_refl _) ⟨b60, bb60, kb60, rfl, N60, KK60, u60_1, u60_2, u60_3, u60_4⟩
def QNZ2 (Z : State) (v1 : Addr) (h0 : Heap) (n0 : Nat) (v : Option Value) (h : Heap) (L : List Loc) : Prop := ∃ (b : Addr), ∃ (bb : Addr), ∃ (kb : ClassId), v = some (.ref b) ∧ Fr n0 L ∧ Keep h0 h [] ∧ eS Z h b ∧ fC Z h b ∧ fV Z h b bb ∧ vB Z h bb kb 0 []
theorem rmNZ2 {l : Launch} {Z : State} {a0 : Array Value} (hw : HW Z a0) (v1 : Addr) (h0 : Heap) (n0 : Nat) (Z0 : n0 ≤ h0.size)  : own_MH l Z ⟨"java/lang/StringLatin1", "newString", "([BII)Ljava/lang/String;"⟩ jdk_43_method_47_code 3 (some (.object "java/lang/String")) (rmk 0 2 4 0) #[.ref v1, .int 2, .int 0] h0 (QNZ2 Z v1 h0 n0) := by
 refine own_bodyH rfl (plainFor_of_name pn_27) ?_
 intro p e s m below meth c s₁ hx hby hml hown hnm hlk hret X0 e0 hZ hh ch0 hS0
 have N0 := Fr.nil n0
 show Go _ p e below s _ _ _ (s₁.setTop (mkF m 0 #[rv v1, iv 2, iv 0] []))
 refine c_iloadN X0 hx hby d27_0 rfl <| c_ifNo X0 hx hby d27_1 ((if0 _ _).trans (teq (rfl : (0 : Int32) = (0 : Int32))).2) ?_
 obtain ⟨t62, T62, h62, k62, bs62, ks62, X62, e62, E62, hS62, hk62, hZ, hown, LE62, LC62, LV62, LA62, -, -, cr62, -, sn62, st62⟩ := ldcCH X0 hx hZ hown (gw hw 162 rfl) (own_wS hw) e0 hS0 (Nat.zero_le _) (own_EW hw) (List.mem_of_getElem? (i := 2) rfl) ch0.1 (vs := []) (z := (0 : Int32)) ⟨by decide, by decide⟩ (by decide) (by decide) (g := (mkF m 4 #[rv v1, iv 2, iv 0] [])) rfl (hb hby d27_4) (n := 0) (by decide) (by decide) (by decide) (by decide)
 have ch62 := ch0.trans cr62
 have KK62 := (Keep.refl h0 []).ext E62
 have ZN62 := Nat.le_trans Z0 E62.1
 refine go st62 ?_
 show Go _ p e below s _ _ _ (T62.setTop (mkF m 6 #[rv v1, iv 2, iv 0] [.ref t62]))
 exact c_retAH X62 hx hby hZ hlk hret d27_6 rfl ⟨rfl, rfl⟩ (by decide) e62 hh (own_EW hw) ch62 hS62 hk62 ⟨t62, bs62, ks62, rfl, N0, KK62, LE62, LC62, LV62, LA62⟩
def QSZ2 (Z : State) (a1 : Addr) (w0 : Int32) (f0 : Value) (v1 : Addr) (k1 : ClassId) (y0 y1 : Int32) (h0 : Heap) (n0 : Nat) (v : Option Value) (h : Heap) (L : List Loc) : Prop := ∃ (b : Addr), ∃ (bb : Addr), ∃ (kb : ClassId), v = some (.ref b) ∧ Fr n0 L ∧ Keep h0 h [] ∧ eS Z h b ∧ fC Z h b ∧ fV Z h b bb ∧ vB Z h bb kb 0 []
theorem rmSZ2 {l : Launch} {Z : State} {a0 : Array Value} (hw : HW Z a0) (a1 : Addr) (w0 : Int32) (f0 : Value) (v1 : Addr) (k1 : ClassId) (y0 y1 : Int32) (h0 : Heap) (n0 : Nat) (Z0 : n0 ≤ h0.size) (P0 : sCS Z w0) (P1 : sPF Z f0) (P2 : Old Z n0 h0) (P3 : eS Z h0 a1) (P4 : fC Z h0 a1) (P5 : fV Z h0 a1 v1) (P6 : vB Z h0 v1 k1 2 [.int y0, .int y1]) (hw0 : ¬ w0 = 0) (hf : f0.isRef = true) : own_MH l Z ⟨"java/lang/String", "substring", "(II)Ljava/lang/String;"⟩ jdk_42_method_92_code 5 (some (.object "java/lang/String")) (rmk 2 2 4 29) #[.ref a1, .int 2, .int 2] h0 (QSZ2 Z a1 w0 f0 v1 k1 y0 y1 h0 n0) := by
 refine own_bodyH rfl (plainFor_of_name pn_16) ?_
 intro p e s m below meth c s₁ hx hby hml hown hnm hlk hret X0 e0 hZ hh ch0 hS0
 have N0 := Fr.nil n0
 show Go _ p e below s _ _ _ (s₁.setTop (mkF m 0 #[rv a1, iv 2, iv 2, .unset, .unset] []))
 refine c_aloadN X0 hx hby d16_0 rfl rfl <| c_callV X0 hx hby hZ hown hml (gw hw 50 rfl) (gw hw 51 rfl) (gw hw 53 rfl) (gw hw 52 rfl) (gw hw 54 rfl) (gw hw 4 rfl) P3 e0 (rm8 hw a1 w0 v1 k1 (2 : Int32) [(.int y0), (.int y1)] h0 n0 Z0 P0 P2 P3 P4 P5 P6 hw0) pd_3 rfl d16_1 [] rfl 0 (by decide) rfl rfl fun o68 T68 L68 X68 hQ68 => ?_
 obtain ⟨rfl, N68q, e68⟩ := hQ68
 have N68 := Fr.app N0 N68q
 refine c_sh 4 [.int 2] rfl rfl <| c_istoreN X68 hx hby _ d16_4 rfl <| c_iloadN X68 hx hby d16_5 rfl <| c_iloadN X68 hx hby d16_6 rfl <| c_iloadN X68 hx hby d16_7 rfl <| c_shL #[rv a1, iv 2, iv 2, iv 2, .unset] rfl <| c_callS X68 hx hby hZ hown hml (gw hw 92 rfl) (gw hw 93 rfl) (gw hw 4 rfl) (gw hw 94 rfl) e68 (rm17 hw (2 : Int32) (2 : Int32) (2 : Int32) f0 h0 n0 Z0 P1 P2 (by decide) (by decide) (by decide) hf) pd_4 rfl d16_8 [] rfl 0 (by decide) rfl rfl fun o69 T69 L69 X69 hQ69 => ?_
 obtain ⟨rfl, N69q, e69⟩ := hQ69
 have N69 := Fr.app N68 N69q
 refine c_sh 11 [] rfl rfl <| c_iloadN X69 hx hby d16_11 rfl <| c_ifYes X69 hx hby 22 d16_12 (by decide) (by decide) <| c_iloadN X69 hx hby d16_22 rfl <| c_iloadN X69 hx hby d16_23 rfl <| c_isub X69 hx hby d16_24 <| c_sh 25 [.int 0] rfl rfl <| c_istore X69 hx hby _ d16_25 rfl <| c_aloadN X69 hx hby d16_27 rfl rfl <| c_shL #[rv a1, iv 2, iv 2, iv 2, iv 0] rfl <| c_callV X69 hx hby hZ hown hml (gw hw 66 rfl) (gw hw 67 rfl) (gw hw 69 rfl) (gw hw 68 rfl) (gw hw 70 rfl) (gw hw 4 rfl) P3 e69 (rm11 hw a1 w0 h0 n0 Z0 P0 P2 P4 hw0) pd_5 rfl d16_28 [] rfl 0 (by decide) rfl rfl fun o70 T70 L70 X70 hQ70 => ?_
 obtain ⟨rfl, N70q, e70⟩ := hQ70
 have N70 := Fr.app N69 N70q
 refine c_sh 31 [.int 1] rfl rfl <| c_ifNo X70 hx hby d16_31 (by decide) <| c_aloadN X70 hx hby d16_34 rfl rfl <| c_getf X70 hx hby hZ hown (gw hw 21 rfl) Via.refl e70 P5 d16_35 fun T71 X71 e71 => ?_
 refine c_sh 38 [.ref v1] rfl rfl <| c_iloadN X71 hx hby d16_38 rfl <| c_iload X71 hx hby d16_39 rfl <| c_callSH X71 hx hby hZ hown hml (gw hw 128 rfl) (gw hw 129 rfl) (gw hw 73 rfl) (gw hw 130 rfl) e71 (own_EW hw) ch0 hS0 (Nat.zero_le _) (rmNZ2 hw v1 h0 n0 Z0 ) pd_6 rfl d16_41 [] rfl 0 (by decide) rfl rfl fun o72 T72 L72 X72 hS72 hZ hown hR72 ch72 hQ72 => ?_
 obtain ⟨b72, bb72, kb72, rfl, N72q, K72, u72_1, u72_2, u72_3, u72_4⟩ := hQ72
 have N72 := Fr.app N70 N72q
 have KK72 := (Keep.refl h0 []).trans K72 all0
 have ZN72 := Nat.le_trans Z0 K72.1
 have OL72 := P2.keep K72 all0
 refine c_sh 44 [.ref b72] rfl rfl <| c_goto X72 hx hby 57 d16_44 (by decide) ?_
 exact c_retAH X72 hx hby hZ hlk hret d16_57 rfl ⟨rfl, rfl⟩ (by decide) rfl hh (own_EW hw) ch72 hS72 (Nat.le_refl _) ⟨b72, bb72, kb72, rfl, N72, KK72, u72_1, u72_2, u72_3, u72_4⟩
def QSW2 (Z : State) (a1 : Addr) (w0 : Int32) (f0 : Value) (v1 : Addr) (k1 : ClassId) (y0 y1 : Int32) (h0 : Heap) (n0 : Nat) (v : Option Value) (h : Heap) (L : List Loc) : Prop := ∃ (b : Addr), ∃ (bb : Addr), ∃ (kb : ClassId), v = some (.ref b) ∧ Fr n0 L ∧ Keep h0 h [] ∧ eS Z h b ∧ fC Z h b ∧ fV Z h b bb ∧ vB Z h bb kb 0 []
theorem rmSW2 {l : Launch} {Z : State} {a0 : Array Value} (hw : HW Z a0) (a1 : Addr) (w0 : Int32) (f0 : Value) (v1 : Addr) (k1 : ClassId) (y0 y1 : Int32) (h0 : Heap) (n0 : Nat) (Z0 : n0 ≤ h0.size) (P0 : sCS Z w0) (P1 : sPF Z f0) (P2 : Old Z n0 h0) (P3 : eS Z h0 a1) (P4 : fC Z h0 a1) (P5 : fV Z h0 a1 v1) (P6 : vB Z h0 v1 k1 2 [.int y0, .int y1]) (hw0 : ¬ w0 = 0) (hf : f0.isRef = true) : own_MH l Z ⟨"java/lang/String", "substring", "(I)Ljava/lang/String;"⟩ jdk_42_method_91_code 2 (some (.object "java/lang/String")) (rmk 3 2 4 45) #[.ref a1, .int 2] h0 (QSW2 Z a1 w0 f0 v1 k1 y0 y1 h0 n0) := by
 refine own_bodyH rfl (plainFor_of_name pn_15) ?_
 intro p e s m below meth c s₁ hx hby hml hown hnm hlk hret X0 e0 hZ hh ch0 hS0
 have N0 := Fr.nil n0
 show Go _ p e below s _ _ _ (s₁.setTop (mkF m 0 #[rv a1, iv 2] []))
 refine c_aloadN X0 hx hby d15_0 rfl rfl <| c_iloadN X0 hx hby d15_1 rfl <| c_aloadN X0 hx hby d15_2 rfl rfl <| c_callV X0 hx hby hZ hown hml (gw hw 50 rfl) (gw hw 51 rfl) (gw hw 53 rfl) (gw hw 52 rfl) (gw hw 54 rfl) (gw hw 4 rfl) P3 e0 (rm8 hw a1 w0 v1 k1 (2 : Int32) [(.int y0), (.int y1)] h0 n0 Z0 P0 P2 P3 P4 P5 P6 hw0) pd_3 rfl d15_3 [.int 2, .ref a1] rfl 2 (by decide) rfl rfl fun o75 T75 L75 X75 hQ75 => ?_
 obtain ⟨rfl, N75q, e75⟩ := hQ75
 have N75 := Fr.app N0 N75q
 refine c_sh 6 [.int 2, .int 2, .ref a1] rfl rfl <| c_callVH X75 hx hby hZ hown hml (gw hw 87 rfl) (gw hw 88 rfl) (gw hw 90 rfl) (gw hw 89 rfl) (gw hw 91 rfl) (gw hw 4 rfl) P3 e75 (own_EW hw) ch0 hS0 (Nat.zero_le _) (rmSZ2 hw a1 w0 f0 v1 k1 y0 y1 h0 n0 Z0 P0 P1 P2 P3 P4 P5 P6 hw0 hf) pd_7 rfl d15_6 [] rfl 0 (by decide) rfl rfl fun o76 T76 L76 X76 hS76 hZ hown hR76 ch76 hQ76 => ?_
 obtain ⟨b76, bb76, kb76, rfl, N76q, K76, u76_1, u76_2, u76_3, u76_4⟩ := hQ76
 have N76 := Fr.app N75 N76q
 have KK76 := (Keep.refl h0 []).trans K76 all0
 have ZN76 := Nat.le_trans Z0 K76.1
 have OL76 := P2.keep K76 all0
 refine c_sh 9 [.ref b76] rfl rfl ?_
 exact c_retAH X76 hx hby hZ hlk hret d15_9 rfl ⟨rfl, rfl⟩ (by decide) rfl hh (own_EW hw) ch76 hS76 (Nat.le_refl _) ⟨b76, bb76, kb76, rfl, N76, KK76, u76_1, u76_2, u76_3, u76_4⟩
def QNZ3 (Z : State) (v1 : Addr) (h0 : Heap) (n0 : Nat) (v : Option Value) (h : Heap) (L : List Loc) : Prop := ∃ (b : Addr), ∃ (bb : Addr), ∃ (kb : ClassId), v = some (.ref b) ∧ Fr n0 L ∧ Keep h0 h [] ∧ eS Z h b ∧ fC Z h b ∧ fV Z h b bb ∧ vB Z h bb kb 0 []
theorem rmNZ3 {l : Launch} {Z : State} {a0 : Array Value} (hw : HW Z a0) (v1 : Addr) (h0 : Heap) (n0 : Nat) (Z0 : n0 ≤ h0.size)  : own_MH l Z ⟨"java/lang/StringLatin1", "newString", "([BII)Ljava/lang/String;"⟩ jdk_43_method_47_code 3 (some (.object "java/lang/String")) (rmk 0 2 4 0) #[.ref v1, .int 3, .int 0] h0 (QNZ3 Z v1 h0 n0) := by
 refine own_bodyH rfl (plainFor_of_name pn_27) ?_
 intro p e s m below meth c s₁ hx hby hml hown hnm hlk hret X0 e0 hZ hh ch0 hS0
 have N0 := Fr.nil n0
 show Go _ p e below s _ _ _ (s₁.setTop (mkF m 0 #[rv v1, iv 3, iv 0] []))
 refine c_iloadN X0 hx hby d27_0 rfl <| c_ifNo X0 hx hby d27_1 ((if0 _ _).trans (teq (rfl : (0 : Int32) = (0 : Int32))).2) ?_
 obtain ⟨t78, T78, h78, k78, bs78, ks78, X78, e78, E78, hS78, hk78, hZ, hown, LE78, LC78, LV78, LA78, -, -, cr78, -, sn78, st78⟩ := ldcCH X0 hx hZ hown (gw hw 162 rfl) (own_wS hw) e0 hS0 (Nat.zero_le _) (own_EW hw) (List.mem_of_getElem? (i := 2) rfl) ch0.1 (vs := []) (z := (0 : Int32)) ⟨by decide, by decide⟩ (by decide) (by decide) (g := (mkF m 4 #[rv v1, iv 3, iv 0] [])) rfl (hb hby d27_4) (n := 0) (by decide) (by decide) (by decide) (by decide)
 have ch78 := ch0.trans cr78
 have KK78 := (Keep.refl h0 []).ext E78
 have ZN78 := Nat.le_trans Z0 E78.1
 refine go st78 ?_
 show Go _ p e below s _ _ _ (T78.setTop (mkF m 6 #[rv v1, iv 3, iv 0] [.ref t78]))
 exact c_retAH X78 hx hby hZ hlk hret d27_6 rfl ⟨rfl, rfl⟩ (by decide) e78 hh (own_EW hw) ch78 hS78 hk78 ⟨t78, bs78, ks78, rfl, N0, KK78, LE78, LC78, LV78, LA78⟩
def QSZ3 (Z : State) (a1 : Addr) (w0 : Int32) (f0 : Value) (v1 : Addr) (k1 : ClassId) (y0 y1 y2 : Int32) (h0 : Heap) (n0 : Nat) (v : Option Value) (h : Heap) (L : List Loc) : Prop := ∃ (b : Addr), ∃ (bb : Addr), ∃ (kb : ClassId), v = some (.ref b) ∧ Fr n0 L ∧ Keep h0 h [] ∧ eS Z h b ∧ fC Z h b ∧ fV Z h b bb ∧ vB Z h bb kb 0 []
theorem rmSZ3 {l : Launch} {Z : State} {a0 : Array Value} (hw : HW Z a0) (a1 : Addr) (w0 : Int32) (f0 : Value) (v1 : Addr) (k1 : ClassId) (y0 y1 y2 : Int32) (h0 : Heap) (n0 : Nat) (Z0 : n0 ≤ h0.size) (P0 : sCS Z w0) (P1 : sPF Z f0) (P2 : Old Z n0 h0) (P3 : eS Z h0 a1) (P4 : fC Z h0 a1) (P5 : fV Z h0 a1 v1) (P6 : vB Z h0 v1 k1 3 [.int y0, .int y1, .int y2]) (hw0 : ¬ w0 = 0) (hf : f0.isRef = true) : own_MH l Z ⟨"java/lang/String", "substring", "(II)Ljava/lang/String;"⟩ jdk_42_method_92_code 5 (some (.object "java/lang/String")) (rmk 2 2 4 29) #[.ref a1, .int 3, .int 3] h0 (QSZ3 Z a1 w0 f0 v1 k1 y0 y1 y2 h0 n0) := by
 refine own_bodyH rfl (plainFor_of_name pn_16) ?_
 intro p e s m below meth c s₁ hx hby hml hown hnm hlk hret X0 e0 hZ hh ch0 hS0
 have N0 := Fr.nil n0
 show Go _ p e below s _ _ _ (s₁.setTop (mkF m 0 #[rv a1, iv 3, iv 3, .unset, .unset] []))
 refine c_aloadN X0 hx hby d16_0 rfl rfl <| c_callV X0 hx hby hZ hown hml (gw hw 50 rfl) (gw hw 51 rfl) (gw hw 53 rfl) (gw hw 52 rfl) (gw hw 54 rfl) (gw hw 4 rfl) P3 e0 (rm8 hw a1 w0 v1 k1 (3 : Int32) [(.int y0), (.int y1), (.int y2)] h0 n0 Z0 P0 P2 P3 P4 P5 P6 hw0) pd_3 rfl d16_1 [] rfl 0 (by decide) rfl rfl fun o84 T84 L84 X84 hQ84 => ?_
 obtain ⟨rfl, N84q, e84⟩ := hQ84
 have N84 := Fr.app N0 N84q
 refine c_sh 4 [.int 3] rfl rfl <| c_istoreN X84 hx hby _ d16_4 rfl <| c_iloadN X84 hx hby d16_5 rfl <| c_iloadN X84 hx hby d16_6 rfl <| c_iloadN X84 hx hby d16_7 rfl <| c_shL #[rv a1, iv 3, iv 3, iv 3, .unset] rfl <| c_callS X84 hx hby hZ hown hml (gw hw 92 rfl) (gw hw 93 rfl) (gw hw 4 rfl) (gw hw 94 rfl) e84 (rm17 hw (3 : Int32) (3 : Int32) (3 : Int32) f0 h0 n0 Z0 P1 P2 (by decide) (by decide) (by decide) hf) pd_4 rfl d16_8 [] rfl 0 (by decide) rfl rfl fun o85 T85 L85 X85 hQ85 => ?_
 obtain ⟨rfl, N85q, e85⟩ := hQ85
 have N85 := Fr.app N84 N85q
 refine c_sh 11 [] rfl rfl <| c_iloadN X85 hx hby d16_11 rfl <| c_ifYes X85 hx hby 22 d16_12 (by decide) (by decide) <| c_iloadN X85 hx hby d16_22 rfl <| c_iloadN X85 hx hby d16_23 rfl <| c_isub X85 hx hby d16_24 <| c_sh 25 [.int 0] rfl rfl <| c_istore X85 hx hby _ d16_25 rfl <| c_aloadN X85 hx hby d16_27 rfl rfl <| c_shL #[rv a1, iv 3, iv 3, iv 3, iv 0] rfl <| c_callV X85 hx hby hZ hown hml (gw hw 66 rfl) (gw hw 67 rfl) (gw hw 69 rfl) (gw hw 68 rfl) (gw hw 70 rfl) (gw hw 4 rfl) P3 e85 (rm11 hw a1 w0 h0 n0 Z0 P0 P2 P4 hw0) pd_5 rfl d16_28 [] rfl 0 (by decide) rfl rfl fun o86 T86 L86 X86 hQ86 => ?_
 obtain ⟨rfl, N86q, e86⟩ := hQ86
 have N86 := Fr.app N85 N86q
 refine c_sh 31 [.int 1] rfl rfl <| c_ifNo X86 hx hby d16_31 (by decide) <| c_aloadN X86 hx hby d16_34 rfl rfl <| c_getf X86 hx hby hZ hown (gw hw 21 rfl) Via.refl e86 P5 d16_35 fun T87 X87 e87 => ?_
 refine c_sh 38 [.ref v1] rfl rfl <| c_iloadN X87 hx hby d16_38 rfl <| c_iload X87 hx hby d16_39 rfl <| c_callSH X87 hx hby hZ hown hml (gw hw 128 rfl) (gw hw 129 rfl) (gw hw 73 rfl) (gw hw 130 rfl) e87 (own_EW hw) ch0 hS0 (Nat.zero_le _) (rmNZ3 hw v1 h0 n0 Z0 ) pd_6 rfl d16_41 [] rfl 0 (by decide) rfl rfl fun o88 T88 L88 X88 hS88 hZ hown hR88 ch88 hQ88 => ?_
 obtain ⟨b88, bb88, kb88, rfl, N88q, K88, u88_1, u88_2, u88_3, u88_4⟩ := hQ88
 have N88 := Fr.app N86 N88q
 have KK88 := (Keep.refl h0 []).trans K88 all0
 have ZN88 := Nat.le_trans Z0 K88.1
 have OL88 := P2.keep K88 all0
 refine c_sh 44 [.ref b88] rfl rfl <| c_goto X88 hx hby 57 d16_44 (by decide) ?_
 exact c_retAH X88 hx hby hZ hlk hret d16_57 rfl ⟨rfl, rfl⟩ (by decide) rfl hh (own_EW hw) ch88 hS88 (Nat.le_refl _) ⟨b88, bb88, kb88, rfl, N88, KK88, u88_1, u88_2, u88_3, u88_4⟩
def QSW3 (Z : State) (a1 : Addr) (w0 : Int32) (f0 : Value) (v1 : Addr) (k1 : ClassId) (y0 y1 y2 : Int32) (h0 : Heap) (n0 : Nat) (v : Option Value) (h : Heap) (L : List Loc) : Prop := ∃ (b : Addr), ∃ (bb : Addr), ∃ (kb : ClassId), v = some (.ref b) ∧ Fr n0 L ∧ Keep h0 h [] ∧ eS Z h b ∧ fC Z h b ∧ fV Z h b bb ∧ vB Z h bb kb 0 []
theorem rmSW3 {l : Launch} {Z : State} {a0 : Array Value} (hw : HW Z a0) (a1 : Addr) (w0 : Int32) (f0 : Value) (v1 : Addr) (k1 : ClassId) (y0 y1 y2 : Int32) (h0 : Heap) (n0 : Nat) (Z0 : n0 ≤ h0.size) (P0 : sCS Z w0) (P1 : sPF Z f0) (P2 : Old Z n0 h0) (P3 : eS Z h0 a1) (P4 : fC Z h0 a1) (P5 : fV Z h0 a1 v1) (P6 : vB Z h0 v1 k1 3 [.int y0, .int y1, .int y2]) (hw0 : ¬ w0 = 0) (hf : f0.isRef = true) : own_MH l Z ⟨"java/lang/String", "substring", "(I)Ljava/lang/String;"⟩ jdk_42_method_91_code 2 (some (.object "java/lang/String")) (rmk 3 2 4 45) #[.ref a1, .int 3] h0 (QSW3 Z a1 w0 f0 v1 k1 y0 y1 y2 h0 n0) := by
 refine own_bodyH rfl (plainFor_of_name pn_15) ?_
 intro p e s m below meth c s₁ hx hby hml hown hnm hlk hret X0 e0 hZ hh ch0 hS0
 have N0 := Fr.nil n0
 show Go _ p e below s _ _ _ (s₁.setTop (mkF m 0 #[rv a1, iv 3] []))
 refine c_aloadN X0 hx hby d15_0 rfl rfl <| c_iloadN X0 hx hby d15_1 rfl <| c_aloadN X0 hx hby d15_2 rfl rfl <| c_callV X0 hx hby hZ hown hml (gw hw 50 rfl) (gw hw 51 rfl) (gw hw 53 rfl) (gw hw 52 rfl) (gw hw 54 rfl) (gw hw 4 rfl) P3 e0 (rm8 hw a1 w0 v1 k1 (3 : Int32) [(.int y0), (.int y1), (.int y2)] h0 n0 Z0 P0 P2 P3 P4 P5 P6 hw0) pd_3 rfl d15_3 [.int 3, .ref a1] rfl 2 (by decide) rfl rfl fun o91 T91 L91 X91 hQ91 => ?_
 obtain ⟨rfl, N91q, e91⟩ := hQ91
 have N91 := Fr.app N0 N91q
 refine c_sh 6 [.int 3, .int 3, .ref a1] rfl rfl <| c_callVH X91 hx hby hZ hown hml (gw hw 87 rfl) (gw hw 88 rfl) (gw hw 90 rfl) (gw hw 89 rfl) (gw hw 91 rfl) (gw hw 4 rfl) P3 e91 (own_EW hw) ch0 hS0 (Nat.zero_le _) (rmSZ3 hw a1 w0 f0 v1 k1 y0 y1 y2 h0 n0 Z0 P0 P1 P2 P3 P4 P5 P6 hw0 hf) pd_7 rfl d15_6 [] rfl 0 (by decide) rfl rfl fun o92 T92 L92 X92 hS92 hZ hown hR92 ch92 hQ92 => ?_
 obtain ⟨b92, bb92, kb92, rfl, N92q, K92, u92_1, u92_2, u92_3, u92_4⟩ := hQ92
 have N92 := Fr.app N91 N92q
 have KK92 := (Keep.refl h0 []).trans K92 all0
 have ZN92 := Nat.le_trans Z0 K92.1
 have OL92 := P2.keep K92 all0
 refine c_sh 9 [.ref b92] rfl rfl ?_
 exact c_retAH X92 hx hby hZ hlk hret d15_9 rfl ⟨rfl, rfl⟩ (by decide) rfl hh (own_EW hw) ch92 hS92 (Nat.le_refl _) ⟨b92, bb92, kb92, rfl, N92, KK92, u92_1, u92_2, u92_3, u92_4⟩
def QNZ4 (Z : State) (v1 : Addr) (h0 : Heap) (n0 : Nat) (v : Option Value) (h : Heap) (L : List Loc) : Prop := ∃ (b : Addr), ∃ (bb : Addr), ∃ (kb : ClassId), v = some (.ref b) ∧ Fr n0 L ∧ Keep h0 h [] ∧ eS Z h b ∧ fC Z h b ∧ fV Z h b bb ∧ vB Z h bb kb 0 []
theorem rmNZ4 {l : Launch} {Z : State} {a0 : Array Value} (hw : HW Z a0) (v1 : Addr) (h0 : Heap) (n0 : Nat) (Z0 : n0 ≤ h0.size)  : own_MH l Z ⟨"java/lang/StringLatin1", "newString", "([BII)Ljava/lang/String;"⟩ jdk_43_method_47_code 3 (some (.object "java/lang/String")) (rmk 0 2 4 0) #[.ref v1, .int 4, .int 0] h0 (QNZ4 Z v1 h0 n0) := by
 refine own_bodyH rfl (plainFor_of_name pn_27) ?_
 intro p e s m below meth c s₁ hx hby hml hown hnm hlk hret X0 e0 hZ hh ch0 hS0
 have N0 := Fr.nil n0
 show Go _ p e below s _ _ _ (s₁.setTop (mkF m 0 #[rv v1, iv 4, iv 0] []))
 refine c_iloadN X0 hx hby d27_0 rfl <| c_ifNo X0 hx hby d27_1 ((if0 _ _).trans (teq (rfl : (0 : Int32) = (0 : Int32))).2) ?_
 obtain ⟨t94, T94, h94, k94, bs94, ks94, X94, e94, E94, hS94, hk94, hZ, hown, LE94, LC94, LV94, LA94, -, -, cr94, -, sn94, st94⟩ := ldcCH X0 hx hZ hown (gw hw 162 rfl) (own_wS hw) e0 hS0 (Nat.zero_le _) (own_EW hw) (List.mem_of_getElem? (i := 2) rfl) ch0.1 (vs := []) (z := (0 : Int32)) ⟨by decide, by decide⟩ (by decide) (by decide) (g := (mkF m 4 #[rv v1, iv 4, iv 0] [])) rfl (hb hby d27_4) (n := 0) (by decide) (by decide) (by decide) (by decide)
 have ch94 := ch0.trans cr94
 have KK94 := (Keep.refl h0 []).ext E94
 have ZN94 := Nat.le_trans Z0 E94.1
 refine go st94 ?_
 show Go _ p e below s _ _ _ (T94.setTop (mkF m 6 #[rv v1, iv 4, iv 0] [.ref t94]))
 exact c_retAH X94 hx hby hZ hlk hret d27_6 rfl ⟨rfl, rfl⟩ (by decide) e94 hh (own_EW hw) ch94 hS94 hk94 ⟨t94, bs94, ks94, rfl, N0, KK94, LE94, LC94, LV94, LA94⟩
def QSZ4 (Z : State) (a1 : Addr) (w0 : Int32) (f0 : Value) (v1 : Addr) (k1 : ClassId) (y0 y1 y2 y3 : Int32) (h0 : Heap) (n0 : Nat) (v : Option Value) (h : Heap) (L : List Loc) : Prop := ∃ (b : Addr), ∃ (bb : Addr), ∃ (kb : ClassId), v = some (.ref b) ∧ Fr n0 L ∧ Keep h0 h [] ∧ eS Z h b ∧ fC Z h b ∧ fV Z h b bb ∧ vB Z h bb kb 0 []
theorem rmSZ4 {l : Launch} {Z : State} {a0 : Array Value} (hw : HW Z a0) (a1 : Addr) (w0 : Int32) (f0 : Value) (v1 : Addr) (k1 : ClassId) (y0 y1 y2 y3 : Int32) (h0 : Heap) (n0 : Nat) (Z0 : n0 ≤ h0.size) (P0 : sCS Z w0) (P1 : sPF Z f0) (P2 : Old Z n0 h0) (P3 : eS Z h0 a1) (P4 : fC Z h0 a1) (P5 : fV Z h0 a1 v1) (P6 : vB Z h0 v1 k1 4 [.int y0, .int y1, .int y2, .int y3]) (hw0 : ¬ w0 = 0) (hf : f0.isRef = true) : own_MH l Z ⟨"java/lang/String", "substring", "(II)Ljava/lang/String;"⟩ jdk_42_method_92_code 5 (some (.object "java/lang/String")) (rmk 2 2 4 29) #[.ref a1, .int 4, .int 4] h0 (QSZ4 Z a1 w0 f0 v1 k1 y0 y1 y2 y3 h0 n0) := by
 refine own_bodyH rfl (plainFor_of_name pn_16) ?_
 intro p e s m below meth c s₁ hx hby hml hown hnm hlk hret X0 e0 hZ hh ch0 hS0
 have N0 := Fr.nil n0
 show Go _ p e below s _ _ _ (s₁.setTop (mkF m 0 #[rv a1, iv 4, iv 4, .unset, .unset] []))
 refine c_aloadN X0 hx hby d16_0 rfl rfl <| c_callV X0 hx hby hZ hown hml (gw hw 50 rfl) (gw hw 51 rfl) (gw hw 53 rfl) (gw hw 52 rfl) (gw hw 54 rfl) (gw hw 4 rfl) P3 e0 (rm8 hw a1 w0 v1 k1 (4 : Int32) [(.int y0), (.int y1), (.int y2), (.int y3)] h0 n0 Z0 P0 P2 P3 P4 P5 P6 hw0) pd_3 rfl d16_1 [] rfl 0 (by decide) rfl rfl fun o100 T100 L100 X100 hQ100 => ?_
 obtain ⟨rfl, N100q, e100⟩ := hQ100
 have N100 := Fr.app N0 N100q
 refine c_sh 4 [.int 4] rfl rfl <| c_istoreN X100 hx hby _ d16_4 rfl <| c_iloadN X100 hx hby d16_5 rfl <| c_iloadN X100 hx hby d16_6 rfl <| c_iloadN X100 hx hby d16_7 rfl <| c_shL #[rv a1, iv 4, iv 4, iv 4, .unset] rfl <| c_callS X100 hx hby hZ hown hml (gw hw 92 rfl) (gw hw 93 rfl) (gw hw 4 rfl) (gw hw 94 rfl) e100 (rm17 hw (4 : Int32) (4 : Int32) (4 : Int32) f0 h0 n0 Z0 P1 P2 (by decide) (by decide) (by decide) hf) pd_4 rfl d16_8 [] rfl 0 (by decide) rfl rfl fun o101 T101 L101 X101 hQ101 => ?_
 obtain ⟨rfl, N101q, e101⟩ := hQ101
 have N101 := Fr.app N100 N101q
 refine c_sh 11 [] rfl rfl <| c_iloadN X101 hx hby d16_11 rfl <| c_ifYes X101 hx hby 22 d16_12 (by decide) (by decide) <| c_iloadN X101 hx hby d16_22 rfl <| c_iloadN X101 hx hby d16_23 rfl <| c_isub X101 hx hby d16_24 <| c_sh 25 [.int 0] rfl rfl <| c_istore X101 hx hby _ d16_25 rfl <| c_aloadN X101 hx hby d16_27 rfl rfl <| c_shL #[rv a1, iv 4, iv 4, iv 4, iv 0] rfl <| c_callV X101 hx hby hZ hown hml (gw hw 66 rfl) (gw hw 67 rfl) (gw hw 69 rfl) (gw hw 68 rfl) (gw hw 70 rfl) (gw hw 4 rfl) P3 e101 (rm11 hw a1 w0 h0 n0 Z0 P0 P2 P4 hw0) pd_5 rfl d16_28 [] rfl 0 (by decide) rfl rfl fun o102 T102 L102 X102 hQ102 => ?_
 obtain ⟨rfl, N102q, e102⟩ := hQ102
 have N102 := Fr.app N101 N102q
 refine c_sh 31 [.int 1] rfl rfl <| c_ifNo X102 hx hby d16_31 (by decide) <| c_aloadN X102 hx hby d16_34 rfl rfl <| c_getf X102 hx hby hZ hown (gw hw 21 rfl) Via.refl e102 P5 d16_35 fun T103 X103 e103 => ?_
 refine c_sh 38 [.ref v1] rfl rfl <| c_iloadN X103 hx hby d16_38 rfl <| c_iload X103 hx hby d16_39 rfl <| c_callSH X103 hx hby hZ hown hml (gw hw 128 rfl) (gw hw 129 rfl) (gw hw 73 rfl) (gw hw 130 rfl) e103 (own_EW hw) ch0 hS0 (Nat.zero_le _) (rmNZ4 hw v1 h0 n0 Z0 ) pd_6 rfl d16_41 [] rfl 0 (by decide) rfl rfl fun o104 T104 L104 X104 hS104 hZ hown hR104 ch104 hQ104 => ?_
 obtain ⟨b104, bb104, kb104, rfl, N104q, K104, u104_1, u104_2, u104_3, u104_4⟩ := hQ104
 have N104 := Fr.app N102 N104q
 have KK104 := (Keep.refl h0 []).trans K104 all0
 have ZN104 := Nat.le_trans Z0 K104.1
 have OL104 := P2.keep K104 all0
 refine c_sh 44 [.ref b104] rfl rfl <| c_goto X104 hx hby 57 d16_44 (by decide) ?_
 exact c_retAH X104 hx hby hZ hlk hret d16_57 rfl ⟨rfl, rfl⟩ (by decide) rfl hh (own_EW hw) ch104 hS104 (Nat.le_refl _) ⟨b104, bb104, kb104, rfl, N104, KK104, u104_1, u104_2, u104_3, u104_4⟩
def QSW4 (Z : State) (a1 : Addr) (w0 : Int32) (f0 : Value) (v1 : Addr) (k1 : ClassId) (y0 y1 y2 y3 : Int32) (h0 : Heap) (n0 : Nat) (v : Option Value) (h : Heap) (L : List Loc) : Prop := ∃ (b : Addr), ∃ (bb : Addr), ∃ (kb : ClassId), v = some (.ref b) ∧ Fr n0 L ∧ Keep h0 h [] ∧ eS Z h b ∧ fC Z h b ∧ fV Z h b bb ∧ vB Z h bb kb 0 []
theorem rmSW4 {l : Launch} {Z : State} {a0 : Array Value} (hw : HW Z a0) (a1 : Addr) (w0 : Int32) (f0 : Value) (v1 : Addr) (k1 : ClassId) (y0 y1 y2 y3 : Int32) (h0 : Heap) (n0 : Nat) (Z0 : n0 ≤ h0.size) (P0 : sCS Z w0) (P1 : sPF Z f0) (P2 : Old Z n0 h0) (P3 : eS Z h0 a1) (P4 : fC Z h0 a1) (P5 : fV Z h0 a1 v1) (P6 : vB Z h0 v1 k1 4 [.int y0, .int y1, .int y2, .int y3]) (hw0 : ¬ w0 = 0) (hf : f0.isRef = true) : own_MH l Z ⟨"java/lang/String", "substring", "(I)Ljava/lang/String;"⟩ jdk_42_method_91_code 2 (some (.object "java/lang/String")) (rmk 3 2 4 45) #[.ref a1, .int 4] h0 (QSW4 Z a1 w0 f0 v1 k1 y0 y1 y2 y3 h0 n0) := by
 refine own_bodyH rfl (plainFor_of_name pn_15) ?_
 intro p e s m below meth c s₁ hx hby hml hown hnm hlk hret X0 e0 hZ hh ch0 hS0
 have N0 := Fr.nil n0
 show Go _ p e below s _ _ _ (s₁.setTop (mkF m 0 #[rv a1, iv 4] []))
 refine c_aloadN X0 hx hby d15_0 rfl rfl <| c_iloadN X0 hx hby d15_1 rfl <| c_aloadN X0 hx hby d15_2 rfl rfl <| c_callV X0 hx hby hZ hown hml (gw hw 50 rfl) (gw hw 51 rfl) (gw hw 53 rfl) (gw hw 52 rfl) (gw hw 54 rfl) (gw hw 4 rfl) P3 e0 (rm8 hw a1 w0 v1 k1 (4 : Int32) [(.int y0), (.int y1), (.int y2), (.int y3)] h0 n0 Z0 P0 P2 P3 P4 P5 P6 hw0) pd_3 rfl d15_3 [.int 4, .ref a1] rfl 2 (by decide) rfl rfl fun o107 T107 L107 X107 hQ107 => ?_
 obtain ⟨rfl, N107q, e107⟩ := hQ107
 have N107 := Fr.app N0 N107q
 refine c_sh 6 [.int 4, .int 4, .ref a1] rfl rfl <| c_callVH X107 hx hby hZ hown hml (gw hw 87 rfl) (gw hw 88 rfl) (gw hw 90 rfl) (gw hw 89 rfl) (gw hw 91 rfl) (gw hw 4 rfl) P3 e107 (own_EW hw) ch0 hS0 (Nat.zero_le _) (rmSZ4 hw a1 w0 f0 v1 k1 y0 y1 y2 y3 h0 n0 Z0 P0 P1 P2 P3 P4 P5 P6 hw0 hf) pd_7 rfl d15_6 [] rfl 0 (by decide) rfl rfl fun o108 T108 L108 X108 hS108 hZ hown hR108 ch108 hQ108 => ?_
 obtain ⟨b108, bb108, kb108, rfl, N108q, K108, u108_1, u108_2, u108_3, u108_4⟩ := hQ108
 have N108 := Fr.app N107 N108q
 have KK108 := (Keep.refl h0 []).trans K108 all0
 have ZN108 := Nat.le_trans Z0 K108.1
 have OL108 := P2.keep K108 all0
 refine c_sh 9 [.ref b108] rfl rfl ?_
 exact c_retAH X108 hx hby hZ hlk hret d15_9 rfl ⟨rfl, rfl⟩ (by decide) rfl hh (own_EW hw) ch108 hS108 (Nat.le_refl _) ⟨b108, bb108, kb108, rfl, N108, KK108, u108_1, u108_2, u108_3, u108_4⟩
theorem d14_0 : decode jdk_29_method_69_code 0 = .ok (.iload_n 0, 1) := by decide +kernel
theorem d14_1 : decode jdk_29_method_69_code 1 = .ok (.iload_n 1, 1) := by decide +kernel
theorem d14_2 : decode jdk_29_method_69_code 2 = .ok (.if_icmp .gt 7, 3) := by decide +kernel
theorem d14_5 : decode jdk_29_method_69_code 5 = .ok (.iload_n 0, 1) := by decide +kernel
theorem d14_6 : decode jdk_29_method_69_code 6 = .ok (.goto 4, 3) := by decide +kernel
theorem d14_10 : decode jdk_29_method_69_code 10 = .ok (.ireturn, 1) := by decide +kernel
def QMNm1 (Z : State)  (h0 : Heap) (n0 : Nat) (v : Option Value) (h : Heap) (L : List Loc) : Prop := v = some (.int (-1 : Int32)) ∧ Fr n0 L ∧ h = h0
theorem rmMNm1 {l : Launch} {Z : State} {a0 : Array Value} (hw : HW Z a0)  (h0 : Heap) (n0 : Nat) (Z0 : n0 ≤ h0.size)  : own_M l Z ⟨"java/lang/Math", "min", "(II)I"⟩ jdk_29_method_69_code 2 (some .int) (rmk 0 0 0 0) #[.int (-1), .int (-1)] h0 (QMNm1 Z  h0 n0) := by
 refine own_body rfl (Jvm.Free.JP.mathPlain rfl (by decide +kernel)) ?_
 intro p e s m below meth c s₁ hx hby hml hown hnm hlk hret X0 e0 hZ
 have N0 := Fr.nil n0
 show Go _ p e below s _ _ _ (s₁.setTop (mkF m 0 #[iv (-1), iv (-1)] []))
 refine c_iloadN X0 hx hby d14_0 rfl <| c_iloadN X0 hx hby d14_1 rfl <| c_icmpNo X0 hx hby d14_2 (by decide) <| c_iloadN X0 hx hby d14_5 rfl <| c_goto X0 hx hby 10 d14_6 (by decide) ?_
 refine c_retI X0 hx hby hlk hret d14_10 rfl (by simp) (by decide) e0 ⟨rfl, N0, rfl⟩
theorem d13_0 : decode jdk_43_method_4_code 0 = .ok (.iload_n 0, 1) := by decide +kernel
theorem d13_1 : decode jdk_43_method_4_code 1 = .ok (.ifCond .lt 14, 3) := by decide +kernel
theorem d13_4 : decode jdk_43_method_4_code 4 = .ok (.iload_n 0, 1) := by decide +kernel
theorem d13_5 : decode jdk_43_method_4_code 5 = .ok (.sipush 255, 3) := by decide +kernel
theorem d13_8 : decode jdk_43_method_4_code 8 = .ok (.if_icmp .gt 7, 3) := by decide +kernel
theorem d13_11 : decode jdk_43_method_4_code 11 = .ok (.iconst 1, 1) := by decide +kernel
theorem d13_12 : decode jdk_43_method_4_code 12 = .ok (.goto 4, 3) := by decide +kernel
theorem d13_16 : decode jdk_43_method_4_code 16 = .ok (.ireturn, 1) := by decide +kernel
theorem pn_13 : plainName "java/lang/StringLatin1" = true := by first | (simp [plainName, overriddenIn]; done) | decide +kernel
def QC46 (Z : State)  (h0 : Heap) (n0 : Nat) (v : Option Value) (h : Heap) (L : List Loc) : Prop := v = some (.int (1 : Int32)) ∧ Fr n0 L ∧ h = h0
theorem rmC46 {l : Launch} {Z : State} {a0 : Array Value} (hw : HW Z a0)  (h0 : Heap) (n0 : Nat) (Z0 : n0 ≤ h0.size)  : own_M l Z ⟨"java/lang/StringLatin1", "canEncode", "(I)Z"⟩ jdk_43_method_4_code 1 (some .boolean) (rmk 0 0 0 0) #[.int 46] h0 (QC46 Z  h0 n0) := by
 refine own_body rfl (plainFor_of_name pn_13) ?_
 intro p e s m below meth c s₁ hx hby hml hown hnm hlk hret X0 e0 hZ
 have N0 := Fr.nil n0
 show Go _ p e below s _ _ _ (s₁.setTop (mkF m 0 #[iv 46] []))
 refine c_iloadN X0 hx hby d13_0 rfl <| c_ifNo X0 hx hby d13_1 (by decide) <| c_iloadN X0 hx hby d13_4 rfl <| c_sipush X0 hx hby 255 d13_5 rfl <| c_icmpNo X0 hx hby d13_8 (by decide) <| c_iconst X0 hx hby 1 d13_11 rfl <| c_goto X0 hx hby 16 d13_12 (by decide) ?_
 refine c_retI X0 hx hby hlk hret d13_16 rfl (by simp) (by decide) e0 ⟨rfl, N0, rfl⟩
theorem d12_0 : decode jdk_43_method_27_code 0 = .ok (.iload_n 1, 1) := by decide +kernel
theorem d12_1 : decode jdk_43_method_27_code 1 = .ok (.invokestatic 88, 3) := by decide +kernel
theorem d12_4 : decode jdk_43_method_27_code 4 = .ok (.ifCond .ne 5, 3) := by decide +kernel
theorem d12_9 : decode jdk_43_method_27_code 9 = .ok (.iload_n 2, 1) := by decide +kernel
theorem d12_10 : decode jdk_43_method_27_code 10 = .ok (.aload_n 0, 1) := by decide +kernel
theorem d12_11 : decode jdk_43_method_27_code 11 = .ok (.arraylength, 1) := by decide +kernel
theorem d12_12 : decode jdk_43_method_27_code 12 = .ok (.iconst 1, 1) := by decide +kernel
theorem d12_13 : decode jdk_43_method_27_code 13 = .ok (.isub, 1) := by decide +kernel
theorem d12_14 : decode jdk_43_method_27_code 14 = .ok (.invokestatic 38, 3) := by decide +kernel
theorem d12_17 : decode jdk_43_method_27_code 17 = .ok (.istore_n 3, 1) := by decide +kernel
theorem d12_18 : decode jdk_43_method_27_code 18 = .ok (.iload_n 3, 1) := by decide +kernel
theorem d12_19 : decode jdk_43_method_27_code 19 = .ok (.ifCond .lt 19, 3) := by decide +kernel
theorem d12_38 : decode jdk_43_method_27_code 38 = .ok (.iconst (-1), 1) := by decide +kernel
theorem d12_39 : decode jdk_43_method_27_code 39 = .ok (.ireturn, 1) := by decide +kernel
theorem pn_12 : plainName "java/lang/StringLatin1" = true := by first | (simp [plainName, overriddenIn]; done) | decide +kernel
theorem pd_8 : parseMethodDescriptor "(I)Z" = some ⟨[.int], some .boolean⟩ := by decide +kernel
theorem pd_9 : parseMethodDescriptor "(II)I" = some ⟨[.int, .int], some .int⟩ := by decide +kernel
def QLL0_m1 (Z : State) (v1 : Addr) (k1 : ClassId) (h0 : Heap) (n0 : Nat) (v : Option Value) (h : Heap) (L : List Loc) : Prop := v = some (.int (-1 : Int32)) ∧ Fr n0 L ∧ h = h0
theorem rmLL0_m1 {l : Launch} {Z : State} {a0 : Array Value} (hw : HW Z a0) (v1 : Addr) (k1 : ClassId) (h0 : Heap) (n0 : Nat) (Z0 : n0 ≤ h0.size) (P0 : vB Z h0 v1 k1 0 []) : own_M l Z ⟨"java/lang/StringLatin1", "lastIndexOf", "([BII)I"⟩ jdk_43_method_27_code 4 (some .int) (rmk 1 0 0 13) #[.ref v1, .int 46, .int (-1)] h0 (QLL0_m1 Z v1 k1 h0 n0) := by
 refine own_body rfl (plainFor_of_name pn_12) ?_
 intro p e s m below meth c s₁ hx hby hml hown hnm hlk hret X0 e0 hZ
 have N0 := Fr.nil n0
 show Go _ p e below s _ _ _ (s₁.setTop (mkF m 0 #[rv v1, iv 46, iv (-1), .unset] []))
 refine c_iloadN X0 hx hby d12_0 rfl <| c_callS X0 hx hby hZ hown hml (gw hw 75 rfl) (gw hw 76 rfl) (gw hw 73 rfl) (gw hw 77 rfl) e0 (rmC46 hw  h0 n0 Z0 ) pd_8 rfl d12_1 [] rfl 0 (by decide) rfl rfl fun o111 T111 L111 X111 hQ111 => ?_
 obtain ⟨rfl, N111q, e111⟩ := hQ111
 have N111 := Fr.app N0 N111q
 refine c_sh 4 [.int 1] rfl rfl <| c_ifYes X111 hx hby 9 d12_4 (by decide) (by decide) <| c_iloadN X111 hx hby d12_9 rfl <| c_aloadN X111 hx hby d12_10 rfl rfl <| c_alen X111 hx hby hZ e111 P0 d12_11 <| c_iconst X111 hx hby 1 d12_12 rfl <| c_isub X111 hx hby d12_13 <| c_sh 14 [.int (-1), .int (-1)] rfl rfl <| c_callS X111 hx hby hZ hown hml (gw hw 78 rfl) (gw hw 79 rfl) (gw hw 80 rfl) (gw hw 81 rfl) e111 (rmMNm1 hw  h0 n0 Z0 ) pd_9 rfl d12_14 [] rfl 0 (by decide) rfl rfl fun o112 T112 L112 X112 hQ112 => ?_
 obtain ⟨rfl, N112q, e112⟩ := hQ112
 have N112 := Fr.app N111 N112q
 refine c_sh 17 [.int (-1)] rfl rfl <| c_istoreN X112 hx hby _ d12_17 rfl <| c_iloadN X112 hx hby d12_18 rfl <| c_ifYes X112 hx hby 38 d12_19 (by decide) (by decide) <| c_iconst X112 hx hby (-1) d12_38 rfl <| c_shL #[rv v1, iv 46, iv (-1), iv (-1)] rfl ?_
 refine c_retI X112 hx hby hlk hret d12_39 rfl (by simp) (by decide) e112 ⟨rfl, N112, rfl⟩
theorem d10_0 : decode jdk_42_method_83_code 0 = .ok (.aload_n 0, 1) := by decide +kernel
theorem d10_1 : decode jdk_42_method_83_code 1 = .ok (.invokevirtual 492, 3) := by decide +kernel
theorem d10_4 : decode jdk_42_method_83_code 4 = .ok (.ifCond .eq 15, 3) := by decide +kernel
theorem d10_7 : decode jdk_42_method_83_code 7 = .ok (.aload_n 0, 1) := by decide +kernel
theorem d10_8 : decode jdk_42_method_83_code 8 = .ok (.getfield 9, 3) := by decide +kernel
theorem d10_11 : decode jdk_42_method_83_code 11 = .ok (.iload_n 1, 1) := by decide +kernel
theorem d10_12 : decode jdk_42_method_83_code 12 = .ok (.iload_n 2, 1) := by decide +kernel
theorem d10_13 : decode jdk_42_method_83_code 13 = .ok (.invokestatic 644, 3) := by decide +kernel
theorem d10_16 : decode jdk_42_method_83_code 16 = .ok (.goto 12, 3) := by decide +kernel
theorem d10_28 : decode jdk_42_method_83_code 28 = .ok (.ireturn, 1) := by decide +kernel
theorem pn_10 : plainName "java/lang/String" = true := by first | (simp [plainName, overriddenIn]; done) | decide +kernel
theorem pd_10 : parseMethodDescriptor "([BII)I" = some ⟨[(.array .byte), .int, .int], some .int⟩ := by decide +kernel
def QLI0_m1 (Z : State) (a1 : Addr) (w0 : Int32) (v1 : Addr) (k1 : ClassId) (h0 : Heap) (n0 : Nat) (v : Option Value) (h : Heap) (L : List Loc) : Prop := v = some (.int (-1 : Int32)) ∧ Fr n0 L ∧ h = h0
theorem rmLI0_m1 {l : Launch} {Z : State} {a0 : Array Value} (hw : HW Z a0) (a1 : Addr) (w0 : Int32) (v1 : Addr) (k1 : ClassId) (h0 : Heap) (n0 : Nat) (Z0 : n0 ≤ h0.size) (P0 : sCS Z w0) (P1 : Old Z n0 h0) (P2 : eS Z h0 a1) (P3 : fC Z h0 a1) (P4 : fV Z h0 a1 v1) (P5 : vB Z h0 v1 k1 0 []) (hw0 : ¬ w0 = 0) : own_M l Z ⟨"java/lang/String", "lastIndexOf", "(II)I"⟩ jdk_42_method_83_code 3 (some .int) (rmk 2 0 0 28) #[.ref a1, .int 46, .int (-1)] h0 (QLI0_m1 Z a1 w0 v1 k1 h0 n0) := by
 refine own_body rfl (plainFor_of_name pn_10) ?_
 intro p e s m below meth c s₁ hx hby hml hown hnm hlk hret X0 e0 hZ
 have N0 := Fr.nil n0
 show Go _ p e below s _ _ _ (s₁.setTop (mkF m 0 #[rv a1, iv 46, iv (-1)] []))
 refine c_aloadN X0 hx hby d10_0 rfl rfl <| c_callV X0 hx hby hZ hown hml (gw hw 66 rfl) (gw hw 67 rfl) (gw hw 69 rfl) (gw hw 68 rfl) (gw hw 70 rfl) (gw hw 4 rfl) P2 e0 (rm11 hw a1 w0 h0 n0 Z0 P0 P1 P3 hw0) pd_5 rfl d10_1 [] rfl 0 (by decide) rfl rfl fun o116 T116 L116 X116 hQ116 => ?_
 obtain ⟨rfl, N116q, e116⟩ := hQ116
 have N116 := Fr.app N0 N116q
 refine c_sh 4 [.int 1] rfl rfl <| c_ifNo X116 hx hby d10_4 (by decide) <| c_aloadN X116 hx hby d10_7 rfl rfl <| c_getf X116 hx hby hZ hown (gw hw 21 rfl) Via.refl e116 P4 d10_8 fun T117 X117 e117 => ?_
 refine c_sh 11 [.ref v1] rfl rfl <| c_iloadN X117 hx hby d10_11 rfl <| c_iloadN X117 hx hby d10_12 rfl <| c_callS X117 hx hby hZ hown hml (gw hw 71 rfl) (gw hw 72 rfl) (gw hw 73 rfl) (gw hw 74 rfl) e117 (rmLL0_m1 hw v1 k1 h0 n0 Z0 P5) pd_10 rfl d10_13 [] rfl 0 (by decide) rfl rfl fun o118 T118 L118 X118 hQ118 => ?_
 obtain ⟨rfl, N118q, e118⟩ := hQ118
 have N118 := Fr.app N116 N118q
 refine c_sh 16 [.int (-1)] rfl rfl <| c_goto X118 hx hby 28 d10_16 (by decide) ?_
 refine c_retI X118 hx hby hlk hret d10_28 rfl (by simp) (by decide) e118 ⟨rfl, N118, rfl⟩
theorem d7_0 : decode jdk_42_method_82_code 0 = .ok (.aload_n 0, 1) := by decide +kernel
theorem d7_1 : decode jdk_42_method_82_code 1 = .ok (.iload_n 1, 1) := by decide +kernel
theorem d7_2 : decode jdk_42_method_82_code 2 = .ok (.aload_n 0, 1) := by decide +kernel
theorem d7_3 : decode jdk_42_method_82_code 3 = .ok (.invokevirtual 505, 3) := by decide +kernel
theorem d7_6 : decode jdk_42_method_82_code 6 = .ok (.iconst 1, 1) := by decide +kernel
theorem d7_7 : decode jdk_42_method_82_code 7 = .ok (.isub, 1) := by decide +kernel
theorem d7_8 : decode jdk_42_method_82_code 8 = .ok (.invokevirtual 641, 3) := by decide +kernel
theorem d7_11 : decode jdk_42_method_82_code 11 = .ok (.ireturn, 1) := by decide +kernel
theorem pn_7 : plainName "java/lang/String" = true := by first | (simp [plainName, overriddenIn]; done) | decide +kernel
def QLO0_m1 (Z : State) (a1 : Addr) (w0 : Int32) (v1 : Addr) (k1 : ClassId) (h0 : Heap) (n0 : Nat) (v : Option Value) (h : Heap) (L : List Loc) : Prop := v = some (.int (-1 : Int32)) ∧ Fr n0 L ∧ h = h0
theorem rmLO0_m1 {l : Launch} {Z : State} {a0 : Array Value} (hw : HW Z a0) (a1 : Addr) (w0 : Int32) (v1 : Addr) (k1 : ClassId) (h0 : Heap) (n0 : Nat) (Z0 : n0 ≤ h0.size) (P0 : sCS Z w0) (P1 : Old Z n0 h0) (P2 : eS Z h0 a1) (P3 : fC Z h0 a1) (P4 : fV Z h0 a1 v1) (P5 : vB Z h0 v1 k1 0 []) (hw0 : ¬ w0 = 0) : own_M l Z ⟨"java/lang/String", "lastIndexOf", "(I)I"⟩ jdk_42_method_82_code 2 (some .int) (rmk 3 0 0 42) #[.ref a1, .int 46] h0 (QLO0_m1 Z a1 w0 v1 k1 h0 n0) := by
 refine own_body rfl (plainFor_of_name pn_7) ?_
 intro p e s m below meth c s₁ hx hby hml hown hnm hlk hret X0 e0 hZ
 have N0 := Fr.nil n0
 show Go _ p e below s _ _ _ (s₁.setTop (mkF m 0 #[rv a1, iv 46] []))
 refine c_aloadN X0 hx hby d7_0 rfl rfl <| c_iloadN X0 hx hby d7_1 rfl <| c_aloadN X0 hx hby d7_2 rfl rfl <| c_callV X0 hx hby hZ hown hml (gw hw 50 rfl) (gw hw 51 rfl) (gw hw 53 rfl) (gw hw 52 rfl) (gw hw 54 rfl) (gw hw 4 rfl) P2 e0 (rm8 hw a1 w0 v1 k1 (0 : Int32) [] h0 n0 Z0 P0 P1 P2 P3 P4 P5 hw0) pd_3 rfl d7_3 [.int 46, .ref a1] rfl 2 (by decide) rfl rfl fun o121 T121 L121 X121 hQ121 => ?_
 obtain ⟨rfl, N121q, e121⟩ := hQ121
 have N121 := Fr.app N0 N121q
 refine c_sh 6 [.int 0, .int 46, .ref a1] rfl rfl <| c_iconst X121 hx hby 1 d7_6 rfl <| c_isub X121 hx hby d7_7 <| c_sh 8 [.int (-1), .int 46, .ref a1] rfl rfl <| c_callV X121 hx hby hZ hown hml (gw hw 61 rfl) (gw hw 62 rfl) (gw hw 64 rfl) (gw hw 63 rfl) (gw hw 65 rfl) (gw hw 4 rfl) P2 e121 (rmLI0_m1 hw a1 w0 v1 k1 h0 n0 Z0 P0 P1 P2 P3 P4 P5 hw0) pd_9 rfl d7_8 [] rfl 0 (by decide) rfl rfl fun o122 T122 L122 X122 hQ122 => ?_
 obtain ⟨rfl, N122q, e122⟩ := hQ122
 have N122 := Fr.app N121 N122q
 refine c_sh 11 [.int (-1)] rfl rfl ?_
 refine c_retI X122 hx hby hlk hret d7_11 rfl (by simp) (by decide) e122 ⟨rfl, N122, rfl⟩
def QMN0 (Z : State)  (h0 : Heap) (n0 : Nat) (v : Option Value) (h : Heap) (L : List Loc) : Prop := v = some (.int (0 : Int32)) ∧ Fr n0 L ∧ h = h0
theorem rmMN0 {l : Launch} {Z : State} {a0 : Array Value} (hw : HW Z a0)  (h0 : Heap) (n0 : Nat) (Z0 : n0 ≤ h0.size)  : own_M l Z ⟨"java/lang/Math", "min", "(II)I"⟩ jdk_29_method_69_code 2 (some .int) (rmk 0 0 0 0) #[.int 0, .int 0] h0 (QMN0 Z  h0 n0) := by
 refine own_body rfl (Jvm.Free.JP.mathPlain rfl (by decide +kernel)) ?_
 intro p e s m below meth c s₁ hx hby hml hown hnm hlk hret X0 e0 hZ
 have N0 := Fr.nil n0
 show Go _ p e below s _ _ _ (s₁.setTop (mkF m 0 #[iv 0, iv 0] []))
 refine c_iloadN X0 hx hby d14_0 rfl <| c_iloadN X0 hx hby d14_1 rfl <| c_icmpNo X0 hx hby d14_2 (by decide) <| c_iloadN X0 hx hby d14_5 rfl <| c_goto X0 hx hby 10 d14_6 (by decide) ?_
 refine c_retI X0 hx hby hlk hret d14_10 rfl (by simp) (by decide) e0 ⟨rfl, N0, rfl⟩
theorem d12_22 : decode jdk_43_method_27_code 22 = .ok (.aload_n 0, 1) := by decide +kernel
theorem d12_23 : decode jdk_43_method_27_code 23 = .ok (.iload_n 3, 1) := by decide +kernel
theorem d12_24 : decode jdk_43_method_27_code 24 = .ok (.baload, 1) := by decide +kernel
theorem d12_25 : decode jdk_43_method_27_code 25 = .ok (.iload_n 1, 1) := by decide +kernel
theorem d12_26 : decode jdk_43_method_27_code 26 = .ok (.i2b, 1) := by decide +kernel
theorem d12_27 : decode jdk_43_method_27_code 27 = .ok (.if_icmp .ne 5, 3) := by decide +kernel
theorem d12_32 : decode jdk_43_method_27_code 32 = .ok (.iinc 3 (-1), 3) := by decide +kernel
theorem d12_35 : decode jdk_43_method_27_code 35 = .ok (.goto (-17), 3) := by decide +kernel
def QLL1_m1 (Z : State) (v1 : Addr) (k1 : ClassId) (y0 : Int32) (h0 : Heap) (n0 : Nat) (v : Option Value) (h : Heap) (L : List Loc) : Prop := v = some (.int (-1 : Int32)) ∧ Fr n0 L ∧ h = h0
theorem rmLL1_m1 {l : Launch} {Z : State} {a0 : Array Value} (hw : HW Z a0) (v1 : Addr) (k1 : ClassId) (y0 : Int32) (h0 : Heap) (n0 : Nat) (Z0 : n0 ≤ h0.size) (P0 : vB Z h0 v1 k1 1 [.int y0]) (hy0 : ¬ y0 = (46 : Int32)) : own_M l Z ⟨"java/lang/StringLatin1", "lastIndexOf", "([BII)I"⟩ jdk_43_method_27_code 4 (some .int) (rmk 1 0 0 13) #[.ref v1, .int 46, .int 0] h0 (QLL1_m1 Z v1 k1 y0 h0 n0) := by
 refine own_body rfl (plainFor_of_name pn_12) ?_
 intro p e s m below meth c s₁ hx hby hml hown hnm hlk hret X0 e0 hZ
 have N0 := Fr.nil n0
 show Go _ p e below s _ _ _ (s₁.setTop (mkF m 0 #[rv v1, iv 46, iv 0, .unset] []))
 refine c_iloadN X0 hx hby d12_0 rfl <| c_callS X0 hx hby hZ hown hml (gw hw 75 rfl) (gw hw 76 rfl) (gw hw 73 rfl) (gw hw 77 rfl) e0 (rmC46 hw  h0 n0 Z0 ) pd_8 rfl d12_1 [] rfl 0 (by decide) rfl rfl fun o125 T125 L125 X125 hQ125 => ?_
 obtain ⟨rfl, N125q, e125⟩ := hQ125
 have N125 := Fr.app N0 N125q
 refine c_sh 4 [.int 1] rfl rfl <| c_ifYes X125 hx hby 9 d12_4 (by decide) (by decide) <| c_iloadN X125 hx hby d12_9 rfl <| c_aloadN X125 hx hby d12_10 rfl rfl <| c_alen X125 hx hby hZ e125 P0 d12_11 <| c_iconst X125 hx hby 1 d12_12 rfl <| c_isub X125 hx hby d12_13 <| c_sh 14 [.int 0, .int 0] rfl rfl <| c_callS X125 hx hby hZ hown hml (gw hw 78 rfl) (gw hw 79 rfl) (gw hw 80 rfl) (gw hw 81 rfl) e125 (rmMN0 hw  h0 n0 Z0 ) pd_9 rfl d12_14 [] rfl 0 (by decide) rfl rfl fun o126 T126 L126 X126 hQ126 => ?_
 obtain ⟨rfl, N126q, e126⟩ := hQ126
 have N126 := Fr.app N125 N126q
 refine c_sh 17 [.int 0] rfl rfl <| c_istoreN X126 hx hby _ d12_17 rfl <| c_iloadN X126 hx hby d12_18 rfl <| c_ifNo X126 hx hby d12_19 (by decide) <| c_aloadN X126 hx hby d12_22 rfl rfl <| c_iloadN X126 hx hby d12_23 rfl <| c_bal X126 hx hby hZ e126 P0 (by decide) (.int y0) rfl d12_24 <| c_iloadN X126 hx hby d12_25 rfl <| c_i2b X126 hx hby d12_26 <| c_sh 27 [.int 46, .int y0] rfl rfl <| c_icmpYes X126 hx hby 32 d12_27 (feq hy0).2 (by decide) <| c_iinc X126 hx hby #[rv v1, iv 46, iv 0, iv (-1)] d12_32 rfl rfl <| c_goto X126 hx hby 18 d12_35 (by decide) <| c_iloadN X126 hx hby d12_18 rfl <| c_ifYes X126 hx hby 38 d12_19 (by decide) (by decide) <| c_iconst X126 hx hby (-1) d12_38 rfl ?_
 refine c_retI X126 hx hby hlk hret d12_39 rfl (by simp) (by decide) e126 ⟨rfl, N126, rfl⟩
def QLI1_m1 (Z : State) (a1 : Addr) (w0 : Int32) (v1 : Addr) (k1 : ClassId) (y0 : Int32) (h0 : Heap) (n0 : Nat) (v : Option Value) (h : Heap) (L : List Loc) : Prop := v = some (.int (-1 : Int32)) ∧ Fr n0 L ∧ h = h0
theorem rmLI1_m1 {l : Launch} {Z : State} {a0 : Array Value} (hw : HW Z a0) (a1 : Addr) (w0 : Int32) (v1 : Addr) (k1 : ClassId) (y0 : Int32) (h0 : Heap) (n0 : Nat) (Z0 : n0 ≤ h0.size) (P0 : sCS Z w0) (P1 : Old Z n0 h0) (P2 : eS Z h0 a1) (P3 : fC Z h0 a1) (P4 : fV Z h0 a1 v1) (P5 : vB Z h0 v1 k1 1 [.int y0]) (hw0 : ¬ w0 = 0) (hy0 : ¬ y0 = (46 : Int32)) : own_M l Z ⟨"java/lang/String", "lastIndexOf", "(II)I"⟩ jdk_42_method_83_code 3 (some .int) (rmk 2 0 0 28) #[.ref a1, .int 46, .int 0] h0 (QLI1_m1 Z a1 w0 v1 k1 y0 h0 n0) := by
 refine own_body rfl (plainFor_of_name pn_10) ?_
 intro p e s m below meth c s₁ hx hby hml hown hnm hlk hret X0 e0 hZ
 have N0 := Fr.nil n0
 show Go _ p e below s _ _ _ (s₁.setTop (mkF m 0 #[rv a1, iv 46, iv 0] []))
 refine c_aloadN X0 hx hby d10_0 rfl rfl <| c_callV X0 hx hby hZ hown hml (gw hw 66 rfl) (gw hw 67 rfl) (gw hw 69 rfl) (gw hw 68 rfl) (gw hw 70 rfl) (gw hw 4 rfl) P2 e0 (rm11 hw a1 w0 h0 n0 Z0 P0 P1 P3 hw0) pd_5 rfl d10_1 [] rfl 0 (by decide) rfl rfl fun o130 T130 L130 X130 hQ130 => ?_
 obtain ⟨rfl, N130q, e130⟩ := hQ130
 have N130 := Fr.app N0 N130q
 refine c_sh 4 [.int 1] rfl rfl <| c_ifNo X130 hx hby d10_4 (by decide) <| c_aloadN X130 hx hby d10_7 rfl rfl <| c_getf X130 hx hby hZ hown (gw hw 21 rfl) Via.refl e130 P4 d10_8 fun T131 X131 e131 => ?_
 refine c_sh 11 [.ref v1] rfl rfl <| c_iloadN X131 hx hby d10_11 rfl <| c_iloadN X131 hx hby d10_12 rfl <| c_callS X131 hx hby hZ hown hml (gw hw 71 rfl) (gw hw 72 rfl) (gw hw 73 rfl) (gw hw 74 rfl) e131 (rmLL1_m1 hw v1 k1 y0 h0 n0 Z0 P5 hy0) pd_10 rfl d10_13 [] rfl 0 (by decide) rfl rfl fun o132 T132 L132 X132 hQ132 => ?_
 obtain ⟨rfl, N132q, e132⟩ := hQ132
 have N132 := Fr.app N130 N132q
 refine c_sh 16 [.int (-1)] rfl rfl <| c_goto X132 hx hby 28 d10_16 (by decide) ?_
 refine c_retI X132 hx hby hlk hret d10_28 rfl (by simp) (by decide) e132 ⟨rfl, N132, rfl⟩
def QLO1_m1 (Z : State) (a1 : Addr) (w0 : Int32) (v1 : Addr) (k1 : ClassId) (y0 : Int32) (h0 : Heap) (n0 : Nat) (v : Option Value) (h : Heap) (L : List Loc) : Prop := v = some (.int (-1 : Int32)) ∧ Fr n0 L ∧ h = h0
theorem rmLO1_m1 {l : Launch} {Z : State} {a0 : Array Value} (hw : HW Z a0) (a1 : Addr) (w0 : Int32) (v1 : Addr) (k1 : ClassId) (y0 : Int32) (h0 : Heap) (n0 : Nat) (Z0 : n0 ≤ h0.size) (P0 : sCS Z w0) (P1 : Old Z n0 h0) (P2 : eS Z h0 a1) (P3 : fC Z h0 a1) (P4 : fV Z h0 a1 v1) (P5 : vB Z h0 v1 k1 1 [.int y0]) (hw0 : ¬ w0 = 0) (hy0 : ¬ y0 = (46 : Int32)) : own_M l Z ⟨"java/lang/String", "lastIndexOf", "(I)I"⟩ jdk_42_method_82_code 2 (some .int) (rmk 3 0 0 42) #[.ref a1, .int 46] h0 (QLO1_m1 Z a1 w0 v1 k1 y0 h0 n0) := by
 refine own_body rfl (plainFor_of_name pn_7) ?_
 intro p e s m below meth c s₁ hx hby hml hown hnm hlk hret X0 e0 hZ
 have N0 := Fr.nil n0
 show Go _ p e below s _ _ _ (s₁.setTop (mkF m 0 #[rv a1, iv 46] []))
 refine c_aloadN X0 hx hby d7_0 rfl rfl <| c_iloadN X0 hx hby d7_1 rfl <| c_aloadN X0 hx hby d7_2 rfl rfl <| c_callV X0 hx hby hZ hown hml (gw hw 50 rfl) (gw hw 51 rfl) (gw hw 53 rfl) (gw hw 52 rfl) (gw hw 54 rfl) (gw hw 4 rfl) P2 e0 (rm8 hw a1 w0 v1 k1 (1 : Int32) [(.int y0)] h0 n0 Z0 P0 P1 P2 P3 P4 P5 hw0) pd_3 rfl d7_3 [.int 46, .ref a1] rfl 2 (by decide) rfl rfl fun o135 T135 L135 X135 hQ135 => ?_
 obtain ⟨rfl, N135q, e135⟩ := hQ135
 have N135 := Fr.app N0 N135q
 refine c_sh 6 [.int 1, .int 46, .ref a1] rfl rfl <| c_iconst X135 hx hby 1 d7_6 rfl <| c_isub X135 hx hby d7_7 <| c_sh 8 [.int 0, .int 46, .ref a1] rfl rfl <| c_callV X135 hx hby hZ hown hml (gw hw 61 rfl) (gw hw 62 rfl) (gw hw 64 rfl) (gw hw 63 rfl) (gw hw 65 rfl) (gw hw 4 rfl) P2 e135 (rmLI1_m1 hw a1 w0 v1 k1 y0 h0 n0 Z0 P0 P1 P2 P3 P4 P5 hw0 hy0) pd_9 rfl d7_8 [] rfl 0 (by decide) rfl rfl fun o136 T136 L136 X136 hQ136 => ?_
 obtain ⟨rfl, N136q, e136⟩ := hQ136
 have N136 := Fr.app N135 N136q
 refine c_sh 11 [.int (-1)] rfl rfl ?_
 refine c_retI X136 hx hby hlk hret d7_11 rfl (by simp) (by decide) e136 ⟨rfl, N136, rfl⟩
theorem d12_30 : decode jdk_43_method_27_code 30 = .ok (.iload_n 3, 1) := by decide +kernel
theorem d12_31 : decode jdk_43_method_27_code 31 = .ok (.ireturn, 1) := by decide +kernel
def QLL1_0 (Z : State) (v1 : Addr) (k1 : ClassId) (y0 : Int32) (h0 : Heap) (n0 : Nat) (v : Option Value) (h : Heap) (L : List Loc) : Prop := v = some (.int (0 : Int32)) ∧ Fr n0 L ∧ h = h0
theorem rmLL1_0 {l : Launch} {Z : State} {a0 : Array Value} (hw : HW Z a0) (v1 : Addr) (k1 : ClassId) (y0 : Int32) (h0 : Heap) (n0 : Nat) (Z0 : n0 ≤ h0.size) (P0 : vB Z h0 v1 k1 1 [.int y0]) (hy0 : y0 = (46 : Int32)) : own_M l Z ⟨"java/lang/StringLatin1", "lastIndexOf", "([BII)I"⟩ jdk_43_method_27_code 4 (some .int) (rmk 1 0 0 13) #[.ref v1, .int 46, .int 0] h0 (QLL1_0 Z v1 k1 y0 h0 n0) := by
 refine own_body rfl (plainFor_of_name pn_12) ?_
 intro p e s m below meth c s₁ hx hby hml hown hnm hlk hret X0 e0 hZ
 have N0 := Fr.nil n0
 show Go _ p e below s _ _ _ (s₁.setTop (mkF m 0 #[rv v1, iv 46, iv 0, .unset] []))
 refine c_iloadN X0 hx hby d12_0 rfl <| c_callS X0 hx hby hZ hown hml (gw hw 75 rfl) (gw hw 76 rfl) (gw hw 73 rfl) (gw hw 77 rfl) e0 (rmC46 hw  h0 n0 Z0 ) pd_8 rfl d12_1 [] rfl 0 (by decide) rfl rfl fun o139 T139 L139 X139 hQ139 => ?_
 obtain ⟨rfl, N139q, e139⟩ := hQ139
 have N139 := Fr.app N0 N139q
 refine c_sh 4 [.int 1] rfl rfl <| c_ifYes X139 hx hby 9 d12_4 (by decide) (by decide) <| c_iloadN X139 hx hby d12_9 rfl <| c_aloadN X139 hx hby d12_10 rfl rfl <| c_alen X139 hx hby hZ e139 P0 d12_11 <| c_iconst X139 hx hby 1 d12_12 rfl <| c_isub X139 hx hby d12_13 <| c_sh 14 [.int 0, .int 0] rfl rfl <| c_callS X139 hx hby hZ hown hml (gw hw 78 rfl) (gw hw 79 rfl) (gw hw 80 rfl) (gw hw 81 rfl) e139 (rmMN0 hw  h0 n0 Z0 ) pd_9 rfl d12_14 [] rfl 0 (by decide) rfl rfl fun o140 T140 L140 X140 hQ140 => ?_
 obtain ⟨rfl, N140q, e140⟩ := hQ140
 have N140 := Fr.app N139 N140q
 refine c_sh 17 [.int 0] rfl rfl <| c_istoreN X140 hx hby _ d12_17 rfl <| c_iloadN X140 hx hby d12_18 rfl <| c_ifNo X140 hx hby d12_19 (by decide) <| c_aloadN X140 hx hby d12_22 rfl rfl <| c_iloadN X140 hx hby d12_23 rfl <| c_bal X140 hx hby hZ e140 P0 (by decide) (.int y0) rfl d12_24 <| c_iloadN X140 hx hby d12_25 rfl <| c_i2b X140 hx hby d12_26 <| c_sh 27 [.int 46, .int y0] rfl rfl <| c_icmpNo X140 hx hby d12_27 (teq hy0).2 <| c_iloadN X140 hx hby d12_30 rfl <| c_shL #[rv v1, iv 46, iv 0, iv 0] rfl ?_
 refine c_retI X140 hx hby hlk hret d12_31 rfl (by simp) (by decide) e140 ⟨rfl, N140, rfl⟩
def QLI1_0 (Z : State) (a1 : Addr) (w0 : Int32) (v1 : Addr) (k1 : ClassId) (y0 : Int32) (h0 : Heap) (n0 : Nat) (v : Option Value) (h : Heap) (L : List Loc) : Prop := v = some (.int (0 : Int32)) ∧ Fr n0 L ∧ h = h0
theorem rmLI1_0 {l : Launch} {Z : State} {a0 : Array Value} (hw : HW Z a0) (a1 : Addr) (w0 : Int32) (v1 : Addr) (k1 : ClassId) (y0 : Int32) (h0 : Heap) (n0 : Nat) (Z0 : n0 ≤ h0.size) (P0 : sCS Z w0) (P1 : Old Z n0 h0) (P2 : eS Z h0 a1) (P3 : fC Z h0 a1) (P4 : fV Z h0 a1 v1) (P5 : vB Z h0 v1 k1 1 [.int y0]) (hw0 : ¬ w0 = 0) (hy0 : y0 = (46 : Int32)) : own_M l Z ⟨"java/lang/String", "lastIndexOf", "(II)I"⟩ jdk_42_method_83_code 3 (some .int) (rmk 2 0 0 28) #[.ref a1, .int 46, .int 0] h0 (QLI1_0 Z a1 w0 v1 k1 y0 h0 n0) := by
 refine own_body rfl (plainFor_of_name pn_10) ?_
 intro p e s m below meth c s₁ hx hby hml hown hnm hlk hret X0 e0 hZ
 have N0 := Fr.nil n0
 show Go _ p e below s _ _ _ (s₁.setTop (mkF m 0 #[rv a1, iv 46, iv 0] []))
 refine c_aloadN X0 hx hby d10_0 rfl rfl <| c_callV X0 hx hby hZ hown hml (gw hw 66 rfl) (gw hw 67 rfl) (gw hw 69 rfl) (gw hw 68 rfl) (gw hw 70 rfl) (gw hw 4 rfl) P2 e0 (rm11 hw a1 w0 h0 n0 Z0 P0 P1 P3 hw0) pd_5 rfl d10_1 [] rfl 0 (by decide) rfl rfl fun o144 T144 L144 X144 hQ144 => ?_
 obtain ⟨rfl, N144q, e144⟩ := hQ144
 have N144 := Fr.app N0 N144q
 refine c_sh 4 [.int 1] rfl rfl <| c_ifNo X144 hx hby d10_4 (by decide) <| c_aloadN X144 hx hby d10_7 rfl rfl <| c_getf X144 hx hby hZ hown (gw hw 21 rfl) Via.refl e144 P4 d10_8 fun T145 X145 e145 => ?_
 refine c_sh 11 [.ref v1] rfl rfl <| c_iloadN X145 hx hby d10_11 rfl <| c_iloadN X145 hx hby d10_12 rfl <| c_callS X145 hx hby hZ hown hml (gw hw 71 rfl) (gw hw 72 rfl) (gw hw 73 rfl) (gw hw 74 rfl) e145 (rmLL1_0 hw v1 k1 y0 h0 n0 Z0 P5 hy0) pd_10 rfl d10_13 [] rfl 0 (by decide) rfl rfl fun o146 T146 L146 X146 hQ146 => ?_
 obtain ⟨rfl, N146q, e146⟩ := hQ146
 have N146 := Fr.app N144 N146q
 refine c_sh 16 [.int 0] rfl rfl <| c_goto X146 hx hby 28 d10_16 (by decide) ?_
 refine c_retI X146 hx hby hlk hret d10_28 rfl (by simp) (by decide) e146 ⟨rfl, N146, rfl⟩
def QLO1_0 (Z : State) (a1 : Addr) (w0 : Int32) (v1 : Addr) (k1 : ClassId) (y0 : Int32) (h0 : Heap) (n0 : Nat) (v : Option Value) (h : Heap) (L : List Loc) : Prop := v = some (.int (0 : Int32)) ∧ Fr n0 L ∧ h = h0
theorem rmLO1_0 {l : Launch} {Z : State} {a0 : Array Value} (hw : HW Z a0) (a1 : Addr) (w0 : Int32) (v1 : Addr) (k1 : ClassId) (y0 : Int32) (h0 : Heap) (n0 : Nat) (Z0 : n0 ≤ h0.size) (P0 : sCS Z w0) (P1 : Old Z n0 h0) (P2 : eS Z h0 a1) (P3 : fC Z h0 a1) (P4 : fV Z h0 a1 v1) (P5 : vB Z h0 v1 k1 1 [.int y0]) (hw0 : ¬ w0 = 0) (hy0 : y0 = (46 : Int32)) : own_M l Z ⟨"java/lang/String", "lastIndexOf", "(I)I"⟩ jdk_42_method_82_code 2 (some .int) (rmk 3 0 0 42) #[.ref a1, .int 46] h0 (QLO1_0 Z a1 w0 v1 k1 y0 h0 n0) := by
 refine own_body rfl (plainFor_of_name pn_7) ?_
 intro p e s m below meth c s₁ hx hby hml hown hnm hlk hret X0 e0 hZ
 have N0 := Fr.nil n0
 show Go _ p e below s _ _ _ (s₁.setTop (mkF m 0 #[rv a1, iv 46] []))
 refine c_aloadN X0 hx hby d7_0 rfl rfl <| c_iloadN X0 hx hby d7_1 rfl <| c_aloadN X0 hx hby d7_2 rfl rfl <| c_callV X0 hx hby hZ hown hml (gw hw 50 rfl) (gw hw 51 rfl) (gw hw 53 rfl) (gw hw 52 rfl) (gw hw 54 rfl) (gw hw 4 rfl) P2 e0 (rm8 hw a1 w0 v1 k1 (1 : Int32) [(.int y0)] h0 n0 Z0 P0 P1 P2 P3 P4 P5 hw0) pd_3 rfl d7_3 [.int 46, .ref a1] rfl 2 (by decide) rfl rfl fun o149 T149 L149 X149 hQ149 => ?_
 obtain ⟨rfl, N149q, e149⟩ := hQ149
 have N149 := Fr.app N0 N149q
 refine c_sh 6 [.int 1, .int 46, .ref a1] rfl rfl <| c_iconst X149 hx hby 1 d7_6 rfl <| c_isub X149 hx hby d7_7 <| c_sh 8 [.int 0, .int 46, .ref a1] rfl rfl <| c_callV X149 hx hby hZ hown hml (gw hw 61 rfl) (gw hw 62 rfl) (gw hw 64 rfl) (gw hw 63 rfl) (gw hw 65 rfl) (gw hw 4 rfl) P2 e149 (rmLI1_0 hw a1 w0 v1 k1 y0 h0 n0 Z0 P0 P1 P2 P3 P4 P5 hw0 hy0) pd_9 rfl d7_8 [] rfl 0 (by decide) rfl rfl fun o150 T150 L150 X150 hQ150 => ?_
 obtain ⟨rfl, N150q, e150⟩ := hQ150
 have N150 := Fr.app N149 N150q
 refine c_sh 11 [.int 0] rfl rfl ?_
 refine c_retI X150 hx hby hlk hret d7_11 rfl (by simp) (by decide) e150 ⟨rfl, N150, rfl⟩
theorem d16_15 : decode jdk_42_method_92_code 15 = .ok (.iload_n 2, 1) := by decide +kernel
theorem d16_16 : decode jdk_42_method_92_code 16 = .ok (.iload_n 3, 1) := by decide +kernel
theorem d16_17 : decode jdk_42_method_92_code 17 = .ok (.if_icmp .ne 5, 3) := by decide +kernel
theorem d16_20 : decode jdk_42_method_92_code 20 = .ok (.aload_n 0, 1) := by decide +kernel
theorem d16_21 : decode jdk_42_method_92_code 21 = .ok (.areturn, 1) := by decide +kernel
def QSB1_0 (Z : State) (a1 : Addr) (w0 : Int32) (f0 : Value) (v1 : Addr) (k1 : ClassId) (y0 : Int32) (h0 : Heap) (n0 : Nat) (v : Option Value) (h : Heap) (L : List Loc) : Prop := v = some (.ref a1) ∧ Fr n0 L ∧ h = h0
theorem rmSB1_0 {l : Launch} {Z : State} {a0 : Array Value} (hw : HW Z a0) (a1 : Addr) (w0 : Int32) (f0 : Value) (v1 : Addr) (k1 : ClassId) (y0 : Int32) (h0 : Heap) (n0 : Nat) (Z0 : n0 ≤ h0.size) (P0 : sCS Z w0) (P1 : sPF Z f0) (P2 : Old Z n0 h0) (P3 : eS Z h0 a1) (P4 : fC Z h0 a1) (P5 : fV Z h0 a1 v1) (P6 : vB Z h0 v1 k1 1 [.int y0]) (hw0 : ¬ w0 = 0) (hf : f0.isRef = true) : own_M l Z ⟨"java/lang/String", "substring", "(II)Ljava/lang/String;"⟩ jdk_42_method_92_code 5 (some (.object "java/lang/String")) (rmk 2 0 0 29) #[.ref a1, .int 0, .int 1] h0 (QSB1_0 Z a1 w0 f0 v1 k1 y0 h0 n0) := by
 refine own_body rfl (plainFor_of_name pn_16) ?_
 intro p e s m below meth c s₁ hx hby hml hown hnm hlk hret X0 e0 hZ
 have N0 := Fr.nil n0
 show Go _ p e below s _ _ _ (s₁.setTop (mkF m 0 #[rv a1, iv 0, iv 1, .unset, .unset] []))
 refine c_aloadN X0 hx hby d16_0 rfl rfl <| c_callV X0 hx hby hZ hown hml (gw hw 50 rfl) (gw hw 51 rfl) (gw hw 53 rfl) (gw hw 52 rfl) (gw hw 54 rfl) (gw hw 4 rfl) P3 e0 (rm8 hw a1 w0 v1 k1 (1 : Int32) [(.int y0)] h0 n0 Z0 P0 P2 P3 P4 P5 P6 hw0) pd_3 rfl d16_1 [] rfl 0 (by decide) rfl rfl fun o153 T153 L153 X153 hQ153 => ?_
 obtain ⟨rfl, N153q, e153⟩ := hQ153
 have N153 := Fr.app N0 N153q
 refine c_sh 4 [.int 1] rfl rfl <| c_istoreN X153 hx hby _ d16_4 rfl <| c_iloadN X153 hx hby d16_5 rfl <| c_iloadN X153 hx hby d16_6 rfl <| c_iloadN X153 hx hby d16_7 rfl <| c_shL #[rv a1, iv 0, iv 1, iv 1, .unset] rfl <| c_callS X153 hx hby hZ hown hml (gw hw 92 rfl) (gw hw 93 rfl) (gw hw 4 rfl) (gw hw 94 rfl) e153 (rm17 hw (0 : Int32) (1 : Int32) (1 : Int32) f0 h0 n0 Z0 P1 P2 (by decide) (by decide) (by decide) hf) pd_4 rfl d16_8 [] rfl 0 (by decide) rfl rfl fun o154 T154 L154 X154 hQ154 => ?_
 obtain ⟨rfl, N154q, e154⟩ := hQ154
 have N154 := Fr.app N153 N154q
 refine c_sh 11 [] rfl rfl <| c_iloadN X154 hx hby d16_11 rfl <| c_ifNo X154 hx hby d16_12 ((if0 _ _).trans (teq (rfl : (0 : Int32) = (0 : Int32))).2) <| c_iloadN X154 hx hby d16_15 rfl <| c_iloadN X154 hx hby d16_16 rfl <| c_icmpNo X154 hx hby d16_17 (teq (rfl : (1 : Int32) = (1 : Int32))).2 <| c_aloadN X154 hx hby d16_20 rfl rfl ?_
 exact c_retA X154 hx hby hlk hret d16_21 rfl ⟨rfl, rfl⟩ (by decide) e154 ⟨rfl, N154, rfl⟩
def QSU1_0 (Z : State) (a1 : Addr) (w0 : Int32) (f0 : Value) (v1 : Addr) (k1 : ClassId) (y0 : Int32) (h0 : Heap) (n0 : Nat) (v : Option Value) (h : Heap) (L : List Loc) : Prop := v = some (.ref a1) ∧ Fr n0 L ∧ h = h0
theorem rmSU1_0 {l : Launch} {Z : State} {a0 : Array Value} (hw : HW Z a0) (a1 : Addr) (w0 : Int32) (f0 : Value) (v1 : Addr) (k1 : ClassId) (y0 : Int32) (h0 : Heap) (n0 : Nat) (Z0 : n0 ≤ h0.size) (P0 : sCS Z w0) (P1 : sPF Z f0) (P2 : Old Z n0 h0) (P3 : eS Z h0 a1) (P4 : fC Z h0 a1) (P5 : fV Z h0 a1 v1) (P6 : vB Z h0 v1 k1 1 [.int y0]) (hw0 : ¬ w0 = 0) (hf : f0.isRef = true) : own_M l Z ⟨"java/lang/String", "substring", "(I)Ljava/lang/String;"⟩ jdk_42_method_91_code 2 (some (.object "java/lang/String")) (rmk 3 0 0 45) #[.ref a1, .int 0] h0 (QSU1_0 Z a1 w0 f0 v1 k1 y0 h0 n0) := by
 refine own_body rfl (plainFor_of_name pn_15) ?_
 intro p e s m below meth c s₁ hx hby hml hown hnm hlk hret X0 e0 hZ
 have N0 := Fr.nil n0
 show Go _ p e below s _ _ _ (s₁.setTop (mkF m 0 #[rv a1, iv 0] []))
 refine c_aloadN X0 hx hby d15_0 rfl rfl <| c_iloadN X0 hx hby d15_1 rfl <| c_aloadN X0 hx hby d15_2 rfl rfl <| c_callV X0 hx hby hZ hown hml (gw hw 50 rfl) (gw hw 51 rfl) (gw hw 53 rfl) (gw hw 52 rfl) (gw hw 54 rfl) (gw hw 4 rfl) P3 e0 (rm8 hw a1 w0 v1 k1 (1 : Int32) [(.int y0)] h0 n0 Z0 P0 P2 P3 P4 P5 P6 hw0) pd_3 rfl d15_3 [.int 0, .ref a1] rfl 2 (by decide) rfl rfl fun o157 T157 L157 X157 hQ157 => ?_
 obtain ⟨rfl, N157q, e157⟩ := hQ157
 have N157 := Fr.app N0 N157q
 refine c_sh 6 [.int 1, .int 0, .ref a1] rfl rfl <| c_callV X157 hx hby hZ hown hml (gw hw 87 rfl) (gw hw 88 rfl) (gw hw 90 rfl) (gw hw 89 rfl) (gw hw 91 rfl) (gw hw 4 rfl) P3 e157 (rmSB1_0 hw a1 w0 f0 v1 k1 y0 h0 n0 Z0 P0 P1 P2 P3 P4 P5 P6 hw0 hf) pd_7 rfl d15_6 [] rfl 0 (by decide) rfl rfl fun o158 T158 L158 X158 hQ158 => ?_
 obtain ⟨rfl, N158q, e158⟩ := hQ158
 have N158 := Fr.app N157 N158q
 refine c_sh 9 [.ref a1] rfl rfl ?_
 exact c_retA X158 hx hby hlk hret d15_9 rfl ⟨rfl, rfl⟩ (by decide) e158 ⟨rfl, N158, rfl⟩
def QMN1 (Z : State)  (h0 : Heap) (n0 : Nat) (v : Option Value) (h : Heap) (L : List Loc) : Prop := v = some (.int (1 : Int32)) ∧ Fr n0 L ∧ h = h0
theorem rmMN1 {l : Launch} {Z : State} {a0 : Array Value} (hw : HW Z a0)  (h0 : Heap) (n0 : Nat) (Z0 : n0 ≤ h0.size)  : own_M l Z ⟨"java/lang/Math", "min", "(II)I"⟩ jdk_29_method_69_code 2 (some .int) (rmk 0 0 0 0) #[.int 1, .int 1] h0 (QMN1 Z  h0 n0) := by
 refine own_body rfl (Jvm.Free.JP.mathPlain rfl (by decide +kernel)) ?_
 intro p e s m below meth c s₁ hx hby hml hown hnm hlk hret X0 e0 hZ
 have N0 := Fr.nil n0
 show Go _ p e below s _ _ _ (s₁.setTop (mkF m 0 #[iv 1, iv 1] []))
 refine c_iloadN X0 hx hby d14_0 rfl <| c_iloadN X0 hx hby d14_1 rfl <| c_icmpNo X0 hx hby d14_2 (by decide) <| c_iloadN X0 hx hby d14_5 rfl <| c_goto X0 hx hby 10 d14_6 (by decide) ?_
 refine c_retI X0 hx hby hlk hret d14_10 rfl (by simp) (by decide) e0 ⟨rfl, N0, rfl⟩
def QLL2_m1 (Z : State) (v1 : Addr) (k1 : ClassId) (y0 y1 : Int32) (h0 : Heap) (n0 : Nat) (v : Option Value) (h : Heap) (L : List Loc) : Prop := v = some (.int (-1 : Int32)) ∧ Fr n0 L ∧ h = h0
theorem rmLL2_m1 {l : Launch} {Z : State} {a0 : Array Value} (hw : HW Z a0) (v1 : Addr) (k1 : ClassId) (y0 y1 : Int32) (h0 : Heap) (n0 : Nat) (Z0 : n0 ≤ h0.size) (P0 : vB Z h0 v1 k1 2 [.int y0, .int y1]) (hy0 : ¬ y0 = (46 : Int32)) (hy1 : ¬ y1 = (46 : Int32)) : own_M l Z ⟨"java/lang/StringLatin1", "lastIndexOf", "([BII)I"⟩ jdk_43_method_27_code 4 (some .int) (rmk 1 0 0 13) #[.ref v1, .int 46, .int 1] h0 (QLL2_m1 Z v1 k1 y0 y1 h0 n0) := by
 refine own_body rfl (plainFor_of_name pn_12) ?_
 intro p e s m below meth c s₁ hx hby hml hown hnm hlk hret X0 e0 hZ
 have N0 := Fr.nil n0
 show Go _ p e below s _ _ _ (s₁.setTop (mkF m 0 #[rv v1, iv 46, iv 1, .unset] []))
 refine c_iloadN X0 hx hby d12_0 rfl <| c_callS X0 hx hby hZ hown hml (gw hw 75 rfl) (gw hw 76 rfl) (gw hw 73 rfl) (gw hw 77 rfl) e0 (rmC46 hw  h0 n0 Z0 ) pd_8 rfl d12_1 [] rfl 0 (by decide) rfl rfl fun o161 T161 L161 X161 hQ161 => ?_
 obtain ⟨rfl, N161q, e161⟩ := hQ161
 have N161 := Fr.app N0 N161q
 refine c_sh 4 [.int 1] rfl rfl <| c_ifYes X161 hx hby 9 d12_4 (by decide) (by decide) <| c_iloadN X161 hx hby d12_9 rfl <| c_aloadN X161 hx hby d12_10 rfl rfl <| c_alen X161 hx hby hZ e161 P0 d12_11 <| c_iconst X161 hx hby 1 d12_12 rfl <| c_isub X161 hx hby d12_13 <| c_sh 14 [.int 1, .int 1] rfl rfl <| c_callS X161 hx hby hZ hown hml (gw hw 78 rfl) (gw hw 79 rfl) (gw hw 80 rfl) (gw hw 81 rfl) e161 (rmMN1 hw  h0 n0 Z0 ) pd_9 rfl d12_14 [] rfl 0 (by decide) rfl rfl fun o162 T162 L162 X162 hQ162 => ?_
 obtain ⟨rfl, N162q, e162⟩ := hQ162
 have N162 := Fr.app N161 N162q
 refine c_sh 17 [.int 1] rfl rfl <| c_istoreN X162 hx hby _ d12_17 rfl <| c_iloadN X162 hx hby d12_18 rfl <| c_ifNo X162 hx hby d12_19 (by decide) <| c_aloadN X162 hx hby d12_22 rfl rfl <| c_iloadN X162 hx hby d12_23 rfl <| c_bal X162 hx hby hZ e162 P0 (by decide) (.int y1) rfl d12_24 <| c_iloadN X162 hx hby d12_25 rfl <| c_i2b X162 hx hby d12_26 <| c_sh 27 [.int 46, .int y1] rfl rfl <| c_icmpYes X162 hx hby 32 d12_27 (feq hy1).2 (by decide) <| c_iinc X162 hx hby #[rv v1, iv 46, iv 1, iv 0] d12_32 rfl rfl <| c_goto X162 hx hby 18 d12_35 (by decide) <| c_iloadN X162 hx hby d12_18 rfl <| c_ifNo X162 hx hby d12_19 (by decide) <| c_aloadN X162 hx hby d12_22 rfl rfl <| c_iloadN X162 hx hby d12_23 rfl <| c_bal X162 hx hby hZ e162 P0 (by decide) (.int y0) rfl d12_24 <| c_iloadN X162 hx hby d12_25 rfl <| c_i2b X162 hx hby d12_26 <| c_sh 27 [.int 46, .int y0] rfl rfl <| c_icmpYes X162 hx hby 32 d12_27 (feq hy0).2 (by decide) <| c_iinc X162 hx hby #[rv v1, iv 46, iv 1, iv (-1)] d12_32 rfl rfl <| c_goto X162 hx hby 18 d12_35 (by decide) <| c_iloadN X162 hx hby d12_18 rfl <| c_ifYes X162 hx hby 38 d12_19 (by decide) (by decide) <| c_iconst X162 hx hby (-1) d12_38 rfl ?_
 refine c_retI X162 hx hby hlk hret d12_39 rfl (by simp) (by decide) e162 ⟨rfl, N162, rfl⟩
def QLI2_m1 (Z : State) (a1 : Addr) (w0 : Int32) (v1 : Addr) (k1 : ClassId) (y0 y1 : Int32) (h0 : Heap) (n0 : Nat) (v : Option Value) (h : Heap) (L : List Loc) : Prop := v = some (.int (-1 : Int32)) ∧ Fr n0 L ∧ h = h0
theorem rmLI2_m1 {l : Launch} {Z : State} {a0 : Array Value} (hw : HW Z a0) (a1 : Addr) (w0 : Int32) (v1 : Addr) (k1 : ClassId) (y0 y1 : Int32) (h0 : Heap) (n0 : Nat) (Z0 : n0 ≤ h0.size) (P0 : sCS Z w0) (P1 : Old Z n0 h0) (P2 : eS Z h0 a1) (P3 : fC Z h0 a1) (P4 : fV Z h0 a1 v1) (P5 : vB Z h0 v1 k1 2 [.int y0, .int y1]) (hw0 : ¬ w0 = 0) (hy0 : ¬ y0 = (46 : Int32)) (hy1 : ¬ y1 = (46 : Int32)) : own_M l Z ⟨"java/lang/String", "lastIndexOf", "(II)I"⟩ jdk_42_method_83_code 3 (some .int) (rmk 2 0 0 28) #[.ref a1, .int 46, .int 1] h0 (QLI2_m1 Z a1 w0 v1 k1 y0 y1 h0 n0) := by
 refine own_body rfl (plainFor_of_name pn_10) ?_
 intro p e s m below meth c s₁ hx hby hml hown hnm hlk hret X0 e0 hZ
 have N0 := Fr.nil n0
 show Go _ p e below s _ _ _ (s₁.setTop (mkF m 0 #[rv a1, iv 46, iv 1] []))
 refine c_aloadN X0 hx hby d10_0 rfl rfl <| c_callV X0 hx hby hZ hown hml (gw hw 66 rfl) (gw hw 67 rfl) (gw hw 69 rfl) (gw hw 68 rfl) (gw hw 70 rfl) (gw hw 4 rfl) P2 e0 (rm11 hw a1 w0 h0 n0 Z0 P0 P1 P3 hw0) pd_5 rfl d10_1 [] rfl 0 (by decide) rfl rfl fun o166 T166 L166 X166 hQ166 => ?_
 obtain ⟨rfl, N166q, e166⟩ := hQ166
 have N166 := Fr.app N0 N166q
 refine c_sh 4 [.int 1] rfl rfl <| c_ifNo X166 hx hby d10_4 (by decide) <| c_aloadN X166 hx hby d10_7 rfl rfl <| c_getf X166 hx hby hZ hown (gw hw 21 rfl) Via.refl e166 P4 d10_8 fun T167 X167 e167 => ?_
 refine c_sh 11 [.ref v1] rfl rfl <| c_iloadN X167 hx hby d10_11 rfl <| c_iloadN X167 hx hby d10_12 rfl <| c_callS X167 hx hby hZ hown hml (gw hw 71 rfl) (gw hw 72 rfl) (gw hw 73 rfl) (gw hw 74 rfl) e167 (rmLL2_m1 hw v1 k1 y0 y1 h0 n0 Z0 P5 hy0 hy1) pd_10 rfl d10_13 [] rfl 0 (by decide) rfl rfl fun o168 T168 L168 X168 hQ168 => ?_
 obtain ⟨rfl, N168q, e168⟩ := hQ168
 have N168 := Fr.app N166 N168q
 refine c_sh 16 [.int (-1)] rfl rfl <| c_goto X168 hx hby 28 d10_16 (by decide) ?_
 refine c_retI X168 hx hby hlk hret d10_28 rfl (by simp) (by decide) e168 ⟨rfl, N168, rfl⟩
def QLO2_m1 (Z : State) (a1 : Addr) (w0 : Int32) (v1 : Addr) (k1 : ClassId) (y0 y1 : Int32) (h0 : Heap) (n0 : Nat) (v : Option Value) (h : Heap) (L : List Loc) : Prop := v = some (.int (-1 : Int32)) ∧ Fr n0 L ∧ h = h0
theorem rmLO2_m1 {l : Launch} {Z : State} {a0 : Array Value} (hw : HW Z a0) (a1 : Addr) (w0 : Int32) (v1 : Addr) (k1 : ClassId) (y0 y1 : Int32) (h0 : Heap) (n0 : Nat) (Z0 : n0 ≤ h0.size) (P0 : sCS Z w0) (P1 : Old Z n0 h0) (P2 : eS Z h0 a1) (P3 : fC Z h0 a1) (P4 : fV Z h0 a1 v1) (P5 : vB Z h0 v1 k1 2 [.int y0, .int y1]) (hw0 : ¬ w0 = 0) (hy0 : ¬ y0 = (46 : Int32)) (hy1 : ¬ y1 = (46 : Int32)) : own_M l Z ⟨"java/lang/String", "lastIndexOf", "(I)I"⟩ jdk_42_method_82_code 2 (some .int) (rmk 3 0 0 42) #[.ref a1, .int 46] h0 (QLO2_m1 Z a1 w0 v1 k1 y0 y1 h0 n0) := by
 refine own_body rfl (plainFor_of_name pn_7) ?_
 intro p e s m below meth c s₁ hx hby hml hown hnm hlk hret X0 e0 hZ
 have N0 := Fr.nil n0
 show Go _ p e below s _ _ _ (s₁.setTop (mkF m 0 #[rv a1, iv 46] []))
 refine c_aloadN X0 hx hby d7_0 rfl rfl <| c_iloadN X0 hx hby d7_1 rfl <| c_aloadN X0 hx hby d7_2 rfl rfl <| c_callV X0 hx hby hZ hown hml (gw hw 50 rfl) (gw hw 51 rfl) (gw hw 53 rfl) (gw hw 52 rfl) (gw hw 54 rfl) (gw hw 4 rfl) P2 e0 (rm8 hw a1 w0 v1 k1 (2 : Int32) [(.int y0), (.int y1)] h0 n0 Z0 P0 P1 P2 P3 P4 P5 hw0) pd_3 rfl d7_3 [.int 46, .ref a1] rfl 2 (by decide) rfl rfl fun o171 T171 L171 X171 hQ171 => ?_
 obtain ⟨rfl, N171q, e171⟩ := hQ171
 have N171 := Fr.app N0 N171q
 refine c_sh 6 [.int 2, .int 46, .ref a1] rfl rfl <| c_iconst X171 hx hby 1 d7_6 rfl <| c_isub X171 hx hby d7_7 <| c_sh 8 [.int 1, .int 46, .ref a1] rfl rfl <| c_callV X171 hx hby hZ hown hml (gw hw 61 rfl) (gw hw 62 rfl) (gw hw 64 rfl) (gw hw 63 rfl) (gw hw 65 rfl) (gw hw 4 rfl) P2 e171 (rmLI2_m1 hw a1 w0 v1 k1 y0 y1 h0 n0 Z0 P0 P1 P2 P3 P4 P5 hw0 hy0 hy1) pd_9 rfl d7_8 [] rfl 0 (by decide) rfl rfl fun o172 T172 L172 X172 hQ172 => ?_
 obtain ⟨rfl, N172q, e172⟩ := hQ172
 have N172 := Fr.app N171 N172q
 refine c_sh 11 [.int (-1)] rfl rfl ?_
 refine c_retI X172 hx hby hlk hret d7_11 rfl (by simp) (by decide) e172 ⟨rfl, N172, rfl⟩
def QLL2_0 (Z : State) (v1 : Addr) (k1 : ClassId) (y0 y1 : Int32) (h0 : Heap) (n0 : Nat) (v : Option Value) (h : Heap) (L : List Loc) : Prop := v = some (.int (0 : Int32)) ∧ Fr n0 L ∧ h = h0
theorem rmLL2_0 {l : Launch} {Z : State} {a0 : Array Value} (hw : HW Z a0) (v1 : Addr) (k1 : ClassId) (y0 y1 : Int32) (h0 : Heap) (n0 : Nat) (Z0 : n0 ≤ h0.size) (P0 : vB Z h0 v1 k1 2 [.int y0, .int y1]) (hy0 : y0 = (46 : Int32)) (hy1 : ¬ y1 = (46 : Int32)) : own_M l Z ⟨"java/lang/StringLatin1", "lastIndexOf", "([BII)I"⟩ jdk_43_method_27_code 4 (some .int) (rmk 1 0 0 13) #[.ref v1, .int 46, .int 1] h0 (QLL2_0 Z v1 k1 y0 y1 h0 n0) := by
 refine own_body rfl (plainFor_of_name pn_12) ?_
 intro p e s m below meth c s₁ hx hby hml hown hnm hlk hret X0 e0 hZ
 have N0 := Fr.nil n0
 show Go _ p e below s _ _ _ (s₁.setTop (mkF m 0 #[rv v1, iv 46, iv 1, .unset] []))
 refine c_iloadN X0 hx hby d12_0 rfl <| c_callS X0 hx hby hZ hown hml (gw hw 75 rfl) (gw hw 76 rfl) (gw hw 73 rfl) (gw hw 77 rfl) e0 (rmC46 hw  h0 n0 Z0 ) pd_8 rfl d12_1 [] rfl 0 (by decide) rfl rfl fun o175 T175 L175 X175 hQ175 => ?_
 obtain ⟨rfl, N175q, e175⟩ := hQ175
 have N175 := Fr.app N0 N175q
 refine c_sh 4 [.int 1] rfl rfl <| c_ifYes X175 hx hby 9 d12_4 (by decide) (by decide) <| c_iloadN X175 hx hby d12_9 rfl <| c_aloadN X175 hx hby d12_10 rfl rfl <| c_alen X175 hx hby hZ e175 P0 d12_11 <| c_iconst X175 hx hby 1 d12_12 rfl <| c_isub X175 hx hby d12_13 <| c_sh 14 [.int 1, .int 1] rfl rfl <| c_callS X175 hx hby hZ hown hml (gw hw 78 rfl) (gw hw 79 rfl) (gw hw 80 rfl) (gw hw 81 rfl) e175 (rmMN1 hw  h0 n0 Z0 ) pd_9 rfl d12_14 [] rfl 0 (by decide) rfl rfl fun o176 T176 L176 X176 hQ176 => ?_
 obtain ⟨rfl, N176q, e176⟩ := hQ176
 have N176 := Fr.app N175 N176q
 refine c_sh 17 [.int 1] rfl rfl <| c_istoreN X176 hx hby _ d12_17 rfl <| c_iloadN X176 hx hby d12_18 rfl <| c_ifNo X176 hx hby d12_19 (by decide) <| c_aloadN X176 hx hby d12_22 rfl rfl <| c_iloadN X176 hx hby d12_23 rfl <| c_bal X176 hx hby hZ e176 P0 (by decide) (.int y1) rfl d12_24 <| c_iloadN X176 hx hby d12_25 rfl <| c_i2b X176 hx hby d12_26 <| c_sh 27 [.int 46, .int y1] rfl rfl <| c_icmpYes X176 hx hby 32 d12_27 (feq hy1).2 (by decide) <| c_iinc X176 hx hby #[rv v1, iv 46, iv 1, iv 0] d12_32 rfl rfl <| c_goto X176 hx hby 18 d12_35 (by decide) <| c_iloadN X176 hx hby d12_18 rfl <| c_ifNo X176 hx hby d12_19 (by decide) <| c_aloadN X176 hx hby d12_22 rfl rfl <| c_iloadN X176 hx hby d12_23 rfl <| c_bal X176 hx hby hZ e176 P0 (by decide) (.int y0) rfl d12_24 <| c_iloadN X176 hx hby d12_25 rfl <| c_i2b X176 hx hby d12_26 <| c_sh 27 [.int 46, .int y0] rfl rfl <| c_icmpNo X176 hx hby d12_27 (teq hy0).2 <| c_iloadN X176 hx hby d12_30 rfl ?_
 refine c_retI X176 hx hby hlk hret d12_31 rfl (by simp) (by decide) e176 ⟨rfl, N176, rfl⟩
def QLI2_0 (Z : State) (a1 : Addr) (w0 : Int32) (v1 : Addr) (k1 : ClassId) (y0 y1 : Int32) (h0 : Heap) (n0 : Nat) (v : Option Value) (h : Heap) (L : List Loc) : Prop := v = some (.int (0 : Int32)) ∧ Fr n0 L ∧ h = h0
theorem rmLI2_0 {l : Launch} {Z : State} {a0 : Array Value} (hw : HW Z a0) (a1 : Addr) (w0 : Int32) (v1 : Addr) (k1 : ClassId) (y0 y1 : Int32) (h0 : Heap) (n0 : Nat) (Z0 : n0 ≤ h0.size) (P0 : sCS Z w0) (P1 : Old Z n0 h0) (P2 : eS Z h0 a1) (P3 : fC Z h0 a1) (P4 : fV Z h0 a1 v1) (P5 : vB Z h0 v1 k1 2 [.int y0, .int y1]) (hw0 : ¬ w0 = 0) (hy0 : y0 = (46 : Int32)) (hy1 : ¬ y1 = (46 : Int32)) : own_M l Z ⟨"java/lang/String", "lastIndexOf", "(II)I"⟩ jdk_42_method_83_code 3 (some .int) (rmk 2 0 0 28) #[.ref a1, .int 46, .int 1] h0 (QLI2_0 Z a1 w0 v1 k1 y0 y1 h0 n0) := by
 refine own_body rfl (plainFor_of_name pn_10) ?_
 intro p e s m below meth c s₁ hx hby hml hown hnm hlk hret X0 e0 hZ
 have N0 := Fr.nil n0
 show Go _ p e below s _ _ _ (s₁.setTop (mkF m 0 #[rv a1, iv 46, iv 1] []))
 refine c_aloadN X0 hx hby d10_0 rfl rfl <| c_callV X0 hx hby hZ hown hml (gw hw 66 rfl) (gw hw 67 rfl) (gw hw 69 rfl) (gw hw 68 rfl) (gw hw 70 rfl) (gw hw 4 rfl) P2 e0 (rm11 hw a1 w0 h0 n0 Z0 P0 P1 P3 hw0) pd_5 rfl d10_1 [] rfl 0 (by decide) rfl rfl fun o180 T180 L180 X180 hQ180 => ?_
 obtain ⟨rfl, N180q, e180⟩ := hQ180
 have N180 := Fr.app N0 N180q
 refine c_sh 4 [.int 1] rfl rfl <| c_ifNo X180 hx hby d10_4 (by decide) <| c_aloadN X180 hx hby d10_7 rfl rfl <| c_getf X180 hx hby hZ hown (gw hw 21 rfl) Via.refl e180 P4 d10_8 fun T181 X181 e181 => ?_
 refine c_sh 11 [.ref v1] rfl rfl <| c_iloadN X181 hx hby d10_11 rfl <| c_iloadN X181 hx hby d10_12 rfl <| c_callS X181 hx hby hZ hown hml (gw hw 71 rfl) (gw hw 72 rfl) (gw hw 73 rfl) (gw hw 74 rfl) e181 (rmLL2_0 hw v1 k1 y0 y1 h0 n0 Z0 P5 hy0 hy1) pd_10 rfl d10_13 [] rfl 0 (by decide) rfl rfl fun o182 T182 L182 X182 hQ182 => ?_
 obtain ⟨rfl, N182q, e182⟩ := hQ182
 have N182 := Fr.app N180 N182q
 refine c_sh 16 [.int 0] rfl rfl <| c_goto X182 hx hby 28 d10_16 (by decide) ?_
 refine c_retI X182 hx hby hlk hret d10_28 rfl (by simp) (by decide) e182 ⟨rfl, N182, rfl⟩
def QLO2_0 (Z : State) (a1 : Addr) (w0 : Int32) (v1 : Addr) (k1 : ClassId) (y0 y1 : Int32) (h0 : Heap) (n0 : Nat) (v : Option Value) (h : Heap) (L : List Loc) : Prop := v = some (.int (0 : Int32)) ∧ Fr n0 L ∧ h = h0
theorem rmLO2_0 {l : Launch} {Z : State} {a0 : Array Value} (hw : HW Z a0) (a1 : Addr) (w0 : Int32) (v1 : Addr) (k1 : ClassId) (y0 y1 : Int32) (h0 : Heap) (n0 : Nat) (Z0 : n0 ≤ h0.size) (P0 : sCS Z w0) (P1 : Old Z n0 h0) (P2 : eS Z h0 a1) (P3 : fC Z h0 a1) (P4 : fV Z h0 a1 v1) (P5 : vB Z h0 v1 k1 2 [.int y0, .int y1]) (hw0 : ¬ w0 = 0) (hy0 : y0 = (46 : Int32)) (hy1 : ¬ y1 = (46 : Int32)) : own_M l Z ⟨"java/lang/String", "lastIndexOf", "(I)I"⟩ jdk_42_method_82_code 2 (some .int) (rmk 3 0 0 42) #[.ref a1, .int 46] h0 (QLO2_0 Z a1 w0 v1 k1 y0 y1 h0 n0) := by
 refine own_body rfl (plainFor_of_name pn_7) ?_
 intro p e s m below meth c s₁ hx hby hml hown hnm hlk hret X0 e0 hZ
 have N0 := Fr.nil n0
 show Go _ p e below s _ _ _ (s₁.setTop (mkF m 0 #[rv a1, iv 46] []))
 refine c_aloadN X0 hx hby d7_0 rfl rfl <| c_iloadN X0 hx hby d7_1 rfl <| c_aloadN X0 hx hby d7_2 rfl rfl <| c_callV X0 hx hby hZ hown hml (gw hw 50 rfl) (gw hw 51 rfl) (gw hw 53 rfl) (gw hw 52 rfl) (gw hw 54 rfl) (gw hw 4 rfl) P2 e0 (rm8 hw a1 w0 v1 k1 (2 : Int32) [(.int y0), (.int y1)] h0 n0 Z0 P0 P1 P2 P3 P4 P5 hw0) pd_3 rfl d7_3 [.int 46, .ref a1] rfl 2 (by decide) rfl rfl fun o185 T185 L185 X185 hQ185 => ?_
 obtain ⟨rfl, N185q, e185⟩ := hQ185
 have N185 := Fr.app N0 N185q
 refine c_sh 6 [.int 2, .int 46, .ref a1] rfl rfl <| c_iconst X185 hx hby 1 d7_6 rfl <| c_isub X185 hx hby d7_7 <| c_sh 8 [.int 1, .int 46, .ref a1] rfl rfl <| c_callV X185 hx hby hZ hown hml (gw hw 61 rfl) (gw hw 62 rfl) (gw hw 64 rfl) (gw hw 63 rfl) (gw hw 65 rfl) (gw hw 4 rfl) P2 e185 (rmLI2_0 hw a1 w0 v1 k1 y0 y1 h0 n0 Z0 P0 P1 P2 P3 P4 P5 hw0 hy0 hy1) pd_9 rfl d7_8 [] rfl 0 (by decide) rfl rfl fun o186 T186 L186 X186 hQ186 => ?_
 obtain ⟨rfl, N186q, e186⟩ := hQ186
 have N186 := Fr.app N185 N186q
 refine c_sh 11 [.int 0] rfl rfl ?_
 refine c_retI X186 hx hby hlk hret d7_11 rfl (by simp) (by decide) e186 ⟨rfl, N186, rfl⟩
def QLL2_1 (Z : State) (v1 : Addr) (k1 : ClassId) (y0 y1 : Int32) (h0 : Heap) (n0 : Nat) (v : Option Value) (h : Heap) (L : List Loc) : Prop := v = some (.int (1 : Int32)) ∧ Fr n0 L ∧ h = h0
theorem rmLL2_1 {l : Launch} {Z : State} {a0 : Array Value} (hw : HW Z a0) (v1 : Addr) (k1 : ClassId) (y0 y1 : Int32) (h0 : Heap) (n0 : Nat) (Z0 : n0 ≤ h0.size) (P0 : vB Z h0 v1 k1 2 [.int y0, .int y1]) (hy1 : y1 = (46 : Int32)) : own_M l Z ⟨"java/lang/StringLatin1", "lastIndexOf", "([BII)I"⟩ jdk_43_method_27_code 4 (some .int) (rmk 1 0 0 13) #[.ref v1, .int 46, .int 1] h0 (QLL2_1 Z v1 k1 y0 y1 h0 n0) := by
 refine own_body rfl (plainFor_of_name pn_12) ?_
 intro p e s m below meth c s₁ hx hby hml hown hnm hlk hret X0 e0 hZ
 have N0 := Fr.nil n0
 show Go _ p e below s _ _ _ (s₁.setTop (mkF m 0 #[rv v1, iv 46, iv 1, .unset] []))
 refine c_iloadN X0 hx hby d12_0 rfl <| c_callS X0 hx hby hZ hown hml (gw hw 75 rfl) (gw hw 76 rfl) (gw hw 73 rfl) (gw hw 77 rfl) e0 (rmC46 hw  h0 n0 Z0 ) pd_8 rfl d12_1 [] rfl 0 (by decide) rfl rfl fun o189 T189 L189 X189 hQ189 => ?_
 obtain ⟨rfl, N189q, e189⟩ := hQ189
 have N189 := Fr.app N0 N189q
 refine c_sh 4 [.int 1] rfl rfl <| c_ifYes X189 hx hby 9 d12_4 (by decide) (by decide) <| c_iloadN X189 hx hby d12_9 rfl <| c_aloadN X189 hx hby d12_10 rfl rfl <| c_alen X189 hx hby hZ e189 P0 d12_11 <| c_iconst X189 hx hby 1 d12_12 rfl <| c_isub X189 hx hby d12_13 <| c_sh 14 [.int 1, .int 1] rfl rfl <| c_callS X189 hx hby hZ hown hml (gw hw 78 rfl) (gw hw 79 rfl) (gw hw 80 rfl) (gw hw 81 rfl) e189 (rmMN1 hw  h0 n0 Z0 ) pd_9 rfl d12_14 [] rfl 0 (by decide) rfl rfl fun o190 T190 L190 X190 hQ190 => ?_
 obtain ⟨rfl, N190q, e190⟩ := hQ190
 have N190 := Fr.app N189 N190q
 refine c_sh 17 [.int 1] rfl rfl <| c_istoreN X190 hx hby _ d12_17 rfl <| c_iloadN X190 hx hby d12_18 rfl <| c_ifNo X190 hx hby d12_19 (by decide) <| c_aloadN X190 hx hby d12_22 rfl rfl <| c_iloadN X190 hx hby d12_23 rfl <| c_bal X190 hx hby hZ e190 P0 (by decide) (.int y1) rfl d12_24 <| c_iloadN X190 hx hby d12_25 rfl <| c_i2b X190 hx hby d12_26 <| c_sh 27 [.int 46, .int y1] rfl rfl <| c_icmpNo X190 hx hby d12_27 (teq hy1).2 <| c_iloadN X190 hx hby d12_30 rfl <| c_shL #[rv v1, iv 46, iv 1, iv 1] rfl ?_
 refine c_retI X190 hx hby hlk hret d12_31 rfl (by simp) (by decide) e190 ⟨rfl, N190, rfl⟩
def QLI2_1 (Z : State) (a1 : Addr) (w0 : Int32) (v1 : Addr) (k1 : ClassId) (y0 y1 : Int32) (h0 : Heap) (n0 : Nat) (v : Option Value) (h : Heap) (L : List Loc) : Prop := v = some (.int (1 : Int32)) ∧ Fr n0 L ∧ h = h0
theorem rmLI2_1 {l : Launch} {Z : State} {a0 : Array Value} (hw : HW Z a0) (a1 : Addr) (w0 : Int32) (v1 : Addr) (k1 : ClassId) (y0 y1 : Int32) (h0 : Heap) (n0 : Nat) (Z0 : n0 ≤ h0.size) (P0 : sCS Z w0) (P1 : Old Z n0 h0) (P2 : eS Z h0 a1) (P3 : fC Z h0 a1) (P4 : fV Z h0 a1 v1) (P5 : vB Z h0 v1 k1 2 [.int y0, .int y1]) (hw0 : ¬ w0 = 0) (hy1 : y1 = (46 : Int32)) : own_M l Z ⟨"java/lang/String", "lastIndexOf", "(II)I"⟩ jdk_42_method_83_code 3 (some .int) (rmk 2 0 0 28) #[.ref a1, .int 46, .int 1] h0 (QLI2_1 Z a1 w0 v1 k1 y0 y1 h0 n0) := by
 refine own_body rfl (plainFor_of_name pn_10) ?_
 intro p e s m below meth c s₁ hx hby hml hown hnm hlk hret X0 e0 hZ
 have N0 := Fr.nil n0
 show Go _ p e below s _ _ _ (s₁.setTop (mkF m 0 #[rv a1, iv 46, iv 1] []))
 refine c_aloadN X0 hx hby d10_0 rfl rfl <| c_callV X0 hx hby hZ hown hml (gw hw 66 rfl) (gw hw 67 rfl) (gw hw 69 rfl) (gw hw 68 rfl) (gw hw 70 rfl) (gw hw 4 rfl) P2 e0 (rm11 hw a1 w0 h0 n0 Z0 P0 P1 P3 hw0) pd_5 rfl d10_1 [] rfl 0 (by decide) rfl rfl fun o194 T194 L194 X194 hQ194 => ?_
 obtain ⟨rfl, N194q, e194⟩ := hQ194
 have N194 := Fr.app N0 N194q
 refine c_sh 4 [.int 1] rfl rfl <| c_ifNo X194 hx hby d10_4 (by decide) <| c_aloadN X194 hx hby d10_7 rfl rfl <| c_getf X194 hx hby hZ hown (gw hw 21 rfl) Via.refl e194 P4 d10_8 fun T195 X195 e195 => ?_
 refine c_sh 11 [.ref v1] rfl rfl <| c_iloadN X195 hx hby d10_11 rfl <| c_iloadN X195 hx hby d10_12 rfl <| c_callS X195 hx hby hZ hown hml (gw hw 71 rfl) (gw hw 72 rfl) (gw hw 73 rfl) (gw hw 74 rfl) e195 (rmLL2_1 hw v1 k1 y0 y1 h0 n0 Z0 P5 hy1) pd_10 rfl d10_13 [] rfl 0 (by decide) rfl rfl fun o196 T196 L196 X196 hQ196 => ?_
 obtain ⟨rfl, N196q, e196⟩ := hQ196
 have N196 := Fr.app N194 N196q
 refine c_sh 16 [.int 1] rfl rfl <| c_goto X196 hx hby 28 d10_16 (by decide) ?_
 refine c_retI X196 hx hby hlk hret d10_28 rfl (by simp) (by decide) e196 ⟨rfl, N196, rfl⟩
def QLO2_1 (Z : State) (a1 : Addr) (w0 : Int32) (v1 : Addr) (k1 : ClassId) (y0 y1 : Int32) (h0 : Heap) (n0 : Nat) (v : Option Value) (h : Heap) (L : List Loc) : Prop := v = some (.int (1 : Int32)) ∧ Fr n0 L ∧ h = h0
theorem rmLO2_1 {l : Launch} {Z : State} {a0 : Array Value} (hw : HW Z a0) (a1 : Addr) (w0 : Int32) (v1 : Addr) (k1 : ClassId) (y0 y1 : Int32) (h0 : Heap) (n0 : Nat) (Z0 : n0 ≤ h0.size) (P0 : sCS Z w0) (P1 : Old Z n0 h0) (P2 : eS Z h0 a1) (P3 : fC Z h0 a1) (P4 : fV Z h0 a1 v1) (P5 : vB Z h0 v1 k1 2 [.int y0, .int y1]) (hw0 : ¬ w0 = 0) (hy1 : y1 = (46 : Int32)) : own_M l Z ⟨"java/lang/String", "lastIndexOf", "(I)I"⟩ jdk_42_method_82_code 2 (some .int) (rmk 3 0 0 42) #[.ref a1, .int 46] h0 (QLO2_1 Z a1 w0 v1 k1 y0 y1 h0 n0) := by
 refine own_body rfl (plainFor_of_name pn_7) ?_
 intro p e s m below meth c s₁ hx hby hml hown hnm hlk hret X0 e0 hZ
 have N0 := Fr.nil n0
 show Go _ p e below s _ _ _ (s₁.setTop (mkF m 0 #[rv a1, iv 46] []))
 refine c_aloadN X0 hx hby d7_0 rfl rfl <| c_iloadN X0 hx hby d7_1 rfl <| c_aloadN X0 hx hby d7_2 rfl rfl <| c_callV X0 hx hby hZ hown hml (gw hw 50 rfl) (gw hw 51 rfl) (gw hw 53 rfl) (gw hw 52 rfl) (gw hw 54 rfl) (gw hw 4 rfl) P2 e0 (rm8 hw a1 w0 v1 k1 (2 : Int32) [(.int y0), (.int y1)] h0 n0 Z0 P0 P1 P2 P3 P4 P5 hw0) pd_3 rfl d7_3 [.int 46, .ref a1] rfl 2 (by decide) rfl rfl fun o199 T199 L199 X199 hQ199 => ?_
 obtain ⟨rfl, N199q, e199⟩ := hQ199
 have N199 := Fr.app N0 N199q
 refine c_sh 6 [.int 2, .int 46, .ref a1] rfl rfl <| c_iconst X199 hx hby 1 d7_6 rfl <| c_isub X199 hx hby d7_7 <| c_sh 8 [.int 1, .int 46, .ref a1] rfl rfl <| c_callV X199 hx hby hZ hown hml (gw hw 61 rfl) (gw hw 62 rfl) (gw hw 64 rfl) (gw hw 63 rfl) (gw hw 65 rfl) (gw hw 4 rfl) P2 e199 (rmLI2_1 hw a1 w0 v1 k1 y0 y1 h0 n0 Z0 P0 P1 P2 P3 P4 P5 hw0 hy1) pd_9 rfl d7_8 [] rfl 0 (by decide) rfl rfl fun o200 T200 L200 X200 hQ200 => ?_
 obtain ⟨rfl, N200q, e200⟩ := hQ200
 have N200 := Fr.app N199 N200q
 refine c_sh 11 [.int 1] rfl rfl ?_
 refine c_retI X200 hx hby hlk hret d7_11 rfl (by simp) (by decide) e200 ⟨rfl, N200, rfl⟩
def QSB2_0 (Z : State) (a1 : Addr) (w0 : Int32) (f0 : Value) (v1 : Addr) (k1 : ClassId) (y0 y1 : Int32) (h0 : Heap) (n0 : Nat) (v : Option Value) (h : Heap) (L : List Loc) : Prop := v = some (.ref a1) ∧ Fr n0 L ∧ h = h0
theorem rmSB2_0 {l : Launch} {Z : State} {a0 : Array Value} (hw : HW Z a0) (a1 : Addr) (w0 : Int32) (f0 : Value) (v1 : Addr) (k1 : ClassId) (y0 y1 : Int32) (h0 : Heap) (n0 : Nat) (Z0 : n0 ≤ h0.size) (P0 : sCS Z w0) (P1 : sPF Z f0) (P2 : Old Z n0 h0) (P3 : eS Z h0 a1) (P4 : fC Z h0 a1) (P5 : fV Z h0 a1 v1) (P6 : vB Z h0 v1 k1 2 [.int y0, .int y1]) (hw0 : ¬ w0 = 0) (hf : f0.isRef = true) : own_M l Z ⟨"java/lang/String", "substring", "(II)Ljava/lang/String;"⟩ jdk_42_method_92_code 5 (some (.object "java/lang/String")) (rmk 2 0 0 29) #[.ref a1, .int 0, .int 2] h0 (QSB2_0 Z a1 w0 f0 v1 k1 y0 y1 h0 n0) := by
 refine own_body rfl (plainFor_of_name pn_16) ?_
 intro p e s m below meth c s₁ hx hby hml hown hnm hlk hret X0 e0 hZ
 have N0 := Fr.nil n0
 show Go _ p e below s _ _ _ (s₁.setTop (mkF m 0 #[rv a1, iv 0, iv 2, .unset, .unset] []))
 refine c_aloadN X0 hx hby d16_0 rfl rfl <| c_callV X0 hx hby hZ hown hml (gw hw 50 rfl) (gw hw 51 rfl) (gw hw 53 rfl) (gw hw 52 rfl) (gw hw 54 rfl) (gw hw 4 rfl) P3 e0 (rm8 hw a1 w0 v1 k1 (2 : Int32) [(.int y0), (.int y1)] h0 n0 Z0 P0 P2 P3 P4 P5 P6 hw0) pd_3 rfl d16_1 [] rfl 0 (by decide) rfl rfl fun o203 T203 L203 X203 hQ203 => ?_
 obtain ⟨rfl, N203q, e203⟩ := hQ203
 have N203 := Fr.app N0 N203q
 refine c_sh 4 [.int 2] rfl rfl <| c_istoreN X203 hx hby _ d16_4 rfl <| c_iloadN X203 hx hby d16_5 rfl <| c_iloadN X203 hx hby d16_6 rfl <| c_iloadN X203 hx hby d16_7 rfl <| c_shL #[rv a1, iv 0, iv 2, iv 2, .unset] rfl <| c_callS X203 hx hby hZ hown hml (gw hw 92 rfl) (gw hw 93 rfl) (gw hw 4 rfl) (gw hw 94 rfl) e203 (rm17 hw (0 : Int32) (2 : Int32) (2 : Int32) f0 h0 n0 Z0 P1 P2 (by decide) (by decide) (by decide) hf) pd_4 rfl d16_8 [] rfl 0 (by decide) rfl rfl fun o204 T204 L204 X204 hQ204 => ?_
 obtain ⟨rfl, N204q, e204⟩ := hQ204
 have N204 := Fr.app N203 N204q
 refine c_sh 11 [] rfl rfl <| c_iloadN X204 hx hby d16_11 rfl <| c_ifNo X204 hx hby d16_12 ((if0 _ _).trans (teq (rfl : (0 : Int32) = (0 : Int32))).2) <| c_iloadN X204 hx hby d16_15 rfl <| c_iloadN X204 hx hby d16_16 rfl <| c_icmpNo X204 hx hby d16_17 (teq (rfl : (2 : Int32) = (2 : Int32))).2 <| c_aloadN X204 hx hby d16_20 rfl rfl ?_
 exact c_retA X204 hx hby hlk hret d16_21 rfl ⟨rfl, rfl⟩ (by decide) e204 ⟨rfl, N204, rfl⟩
def QSU2_0 (Z : State) (a1 : Addr) (w0 : Int32) (f0 : Value) (v1 : Addr) (k1 : ClassId) (y0 y1 : Int32) (h0 : Heap) (n0 : Nat) (v : Option Value) (h : Heap) (L : List Loc) : Prop := v = some (.ref a1) ∧ Fr n0 L ∧ h = h0
theorem rmSU2_0 {l : Launch} {Z : State} {a0 : Array Value} (hw : HW Z a0) (a1 : Addr) (w0 : Int32) (f0 : Value) (v1 : Addr) (k1 : ClassId) (y0 y1 : Int32) (h0 : Heap) (n0 : Nat) (Z0 : n0 ≤ h0.size) (P0 : sCS Z w0) (P1 : sPF Z f0) (P2 : Old Z n0 h0) (P3 : eS Z h0 a1) (P4 : fC Z h0 a1) (P5 : fV Z h0 a1 v1) (P6 : vB Z h0 v1 k1 2 [.int y0, .int y1]) (hw0 : ¬ w0 = 0) (hf : f0.isRef = true) : own_M l Z ⟨"java/lang/String", "substring", "(I)Ljava/lang/String;"⟩ jdk_42_method_91_code 2 (some (.object "java/lang/String")) (rmk 3 0 0 45) #[.ref a1, .int 0] h0 (QSU2_0 Z a1 w0 f0 v1 k1 y0 y1 h0 n0) := by
 refine own_body rfl (plainFor_of_name pn_15) ?_
 intro p e s m below meth c s₁ hx hby hml hown hnm hlk hret X0 e0 hZ
 have N0 := Fr.nil n0
 show Go _ p e below s _ _ _ (s₁.setTop (mkF m 0 #[rv a1, iv 0] []))
 refine c_aloadN X0 hx hby d15_0 rfl rfl <| c_iloadN X0 hx hby d15_1 rfl <| c_aloadN X0 hx hby d15_2 rfl rfl <| c_callV X0 hx hby hZ hown hml (gw hw 50 rfl) (gw hw 51 rfl) (gw hw 53 rfl) (gw hw 52 rfl) (gw hw 54 rfl) (gw hw 4 rfl) P3 e0 (rm8 hw a1 w0 v1 k1 (2 : Int32) [(.int y0), (.int y1)] h0 n0 Z0 P0 P2 P3 P4 P5 P6 hw0) pd_3 rfl d15_3 [.int 0, .ref a1] rfl 2 (by decide) rfl rfl fun o207 T207 L207 X207 hQ207 => ?_
 obtain ⟨rfl, N207q, e207⟩ := hQ207
 have N207 := Fr.app N0 N207q
 refine c_sh 6 [.int 2, .int 0, .ref a1] rfl rfl <| c_callV X207 hx hby hZ hown hml (gw hw 87 rfl) (gw hw 88 rfl) (gw hw 90 rfl) (gw hw 89 rfl) (gw hw 91 rfl) (gw hw 4 rfl) P3 e207 (rmSB2_0 hw a1 w0 f0 v1 k1 y0 y1 h0 n0 Z0 P0 P1 P2 P3 P4 P5 P6 hw0 hf) pd_7 rfl d15_6 [] rfl 0 (by decide) rfl rfl fun o208 T208 L208 X208 hQ208 => ?_
 obtain ⟨rfl, N208q, e208⟩ := hQ208
 have N208 := Fr.app N207 N208q
 refine c_sh 9 [.ref a1] rfl rfl ?_
 exact c_retA X208 hx hby hlk hret d15_9 rfl ⟨rfl, rfl⟩ (by decide) e208 ⟨rfl, N208, rfl⟩
theorem d30_0 : decode jdk_65_method_131_code 0 = .ok (.iload_n 1, 1) := by decide +kernel
theorem d30_1 : decode jdk_65_method_131_code 1 = .ok (.iload_n 0, 1) := by decide +kernel
theorem d30_2 : decode jdk_65_method_131_code 2 = .ok (.if_icmp .ge 35, 3) := by decide +kernel
theorem d30_37 : decode jdk_65_method_131_code 37 = .ok (.return_, 1) := by decide +kernel
theorem pn_30 : plainName "java/util/Arrays" = true := by first | (simp [plainName, overriddenIn]; done) | decide +kernel
def QCL1_2 (Z : State)  (h0 : Heap) (n0 : Nat) (v : Option Value) (h : Heap) (L : List Loc) : Prop := v = none ∧ Fr n0 L ∧ h = h0
theorem rmCL1_2 {l : Launch} {Z : State} {a0 : Array Value} (hw : HW Z a0)  (h0 : Heap) (n0 : Nat) (Z0 : n0 ≤ h0.size)  : own_M l Z ⟨"java/util/Arrays", "checkLength", "(II)V"⟩ jdk_65_method_131_code 2 none (rmk 0 0 0 0) #[.int 1, .int 2] h0 (QCL1_2 Z  h0 n0) := by
 refine own_body rfl (plainFor_of_name pn_30) ?_
 intro p e s m below meth c s₁ hx hby hml hown hnm hlk hret X0 e0 hZ
 have N0 := Fr.nil n0
 show Go _ p e below s _ _ _ (s₁.setTop (mkF m 0 #[iv 1, iv 2] []))
 refine c_iloadN X0 hx hby d30_0 rfl <| c_iloadN X0 hx hby d30_1 rfl <| c_icmpYes X0 hx hby 37 d30_2 (by decide) (by decide) ?_
 exact c_ret0 X0 hx hby hlk hret d30_37 (by decide) e0 ⟨rfl, N0, rfl⟩
theorem d29_0 : decode jdk_65_method_133_code 0 = .ok (.iload_n 1, 1) := by decide +kernel
theorem d29_1 : decode jdk_65_method_133_code 1 = .ok (.iload_n 2, 1) := by decide +kernel
theorem d29_2 : decode jdk_65_method_133_code 2 = .ok (.invokestatic 343, 3) := by decide +kernel
theorem d29_5 : decode jdk_65_method_133_code 5 = .ok (.iload_n 2, 1) := by decide +kernel
theorem d29_6 : decode jdk_65_method_133_code 6 = .ok (.iload_n 1, 1) := by decide +kernel
theorem d29_7 : decode jdk_65_method_133_code 7 = .ok (.isub, 1) := by decide +kernel
theorem d29_8 : decode jdk_65_method_133_code 8 = .ok (.istore_n 3, 1) := by decide +kernel
theorem d29_9 : decode jdk_65_method_133_code 9 = .ok (.iload_n 3, 1) := by decide +kernel
theorem d29_10 : decode jdk_65_method_133_code 10 = .ok (.newarray .byte, 2) := by decide +kernel
theorem d29_12 : decode jdk_65_method_133_code 12 = .ok (.astore 4, 2) := by decide +kernel
theorem d29_14 : decode jdk_65_method_133_code 14 = .ok (.aload_n 0, 1) := by decide +kernel
theorem d29_15 : decode jdk_65_method_133_code 15 = .ok (.iload_n 1, 1) := by decide +kernel
theorem d29_16 : decode jdk_65_method_133_code 16 = .ok (.aload 4, 2) := by decide +kernel
theorem d29_18 : decode jdk_65_method_133_code 18 = .ok (.iconst 0, 1) := by decide +kernel
theorem d29_19 : decode jdk_65_method_133_code 19 = .ok (.aload_n 0, 1) := by decide +kernel
theorem d29_20 : decode jdk_65_method_133_code 20 = .ok (.arraylength, 1) := by decide +kernel
theorem d29_21 : decode jdk_65_method_133_code 21 = .ok (.iload_n 1, 1) := by decide +kernel
theorem d29_22 : decode jdk_65_method_133_code 22 = .ok (.isub, 1) := by decide +kernel
theorem d29_23 : decode jdk_65_method_133_code 23 = .ok (.iload_n 3, 1) := by decide +kernel
theorem d29_24 : decode jdk_65_method_133_code 24 = .ok (.invokestatic 304, 3) := by decide +kernel
theorem d29_27 : decode jdk_65_method_133_code 27 = .ok (.invokestatic 150, 3) := by decide +kernel
theorem d29_30 : decode jdk_65_method_133_code 30 = .ok (.aload 4, 2) := by decide +kernel
theorem d29_32 : decode jdk_65_method_133_code 32 = .ok (.areturn, 1) := by decide +kernel
theorem pn_29 : plainName "java/util/Arrays" = true := by first | (simp [plainName, overriddenIn]; done) | decide +kernel
theorem pd_11 : parseMethodDescriptor "(II)V" = some ⟨[.int, .int], none⟩ := by decide +kernel
def QRB2_1 (Z : State) (v1 : Addr) (k1 : ClassId) (y0 y1 : Int32) (h0 : Heap) (n0 : Nat) (v : Option Value) (h : Heap) (L : List Loc) : Prop := ∃ (b : Addr), ∃ (kb : ClassId), v = some (.ref b) ∧ Fr n0 L ∧ h0.size ≤ b ∧ n0 ≤ b ∧ Keep h0 h [] ∧ Exa Z h b "[B" ∧ vB Z h b kb 1 [.int y1]
theorem rmRB2_1 {l : Launch} {Z : State} {a0 : Array Value} (hw : HW Z a0) (v1 : Addr) (k1 : ClassId) (y0 y1 : Int32) (h0 : Heap) (n0 : Nat) (Z0 : n0 ≤ h0.size) (P0 : vB Z h0 v1 k1 2 [.int y0, .int y1]) : own_M l Z ⟨"java/util/Arrays", "copyOfRangeByte", "([BII)[B"⟩ jdk_65_method_133_code 5 (some (.array .byte)) (rmk 1 1 1 40) #[.ref v1, .int 1, .int 2] h0 (QRB2_1 Z v1 k1 y0 y1 h0 n0) := by
 refine own_body rfl (plainFor_of_name pn_29) ?_
 intro p e s m below meth c s₁ hx hby hml hown hnm hlk hret X0 e0 hZ
 have N0 := Fr.nil n0
 show Go _ p e below s _ _ _ (s₁.setTop (mkF m 0 #[rv v1, iv 1, iv 2, .unset, .unset] []))
 refine c_iloadN X0 hx hby d29_0 rfl <| c_iloadN X0 hx hby d29_1 rfl <| c_callS X0 hx hby hZ hown hml (gw hw 139 rfl) (gw hw 140 rfl) (gw hw 134 rfl) (gw hw 141 rfl) e0 (rmCL1_2 hw  h0 n0 Z0 ) pd_11 rfl d29_2 [] rfl 0 (by decide) rfl rfl fun o216 T216 L216 X216 hQ216 => ?_
 obtain ⟨rfl, N216q, e216⟩ := hQ216
 have N216 := Fr.app N0 N216q
 refine c_sh 5 [] rfl rfl <| c_iloadN X216 hx hby d29_5 rfl <| c_iloadN X216 hx hby d29_6 rfl <| c_isub X216 hx hby d29_7 <| c_sh 8 [.int 1] rfl rfl <| c_istoreN X216 hx hby _ d29_8 rfl <| c_iloadN X216 hx hby d29_9 rfl <| c_shL #[rv v1, iv 1, iv 2, iv 1, .unset] rfl <| c_newP X216 hx hby hZ (gw hw 16 rfl) e216 d29_10 (by decide) 1 (by decide) (by decide) "[B" (by first | rfl | decide) fun T217 h217 k217 b217 g217 X217 e217 E217 A217 AE217 => ?_
 have G_b217 := Nat.le_trans Z0 (Nat.le_of_eq g217.symm)
 have KK217 := (Keep.refl h0 []).ext E217
 have ZN217 := Nat.le_trans Z0 E217.1
 have V217 : vB Z h217 b217 k217 1 [.int 0] := (Arv.new A217 (by decide)).pad (pad_rep [] (.int (0 : Int32)) 1)
 refine c_sh 12 [.ref b217] rfl rfl <| c_astore X217 hx hby _ d29_12 rfl rfl <| c_aloadN X217 hx hby d29_14 rfl rfl <| c_iloadN X217 hx hby d29_15 rfl <| c_aload X217 hx hby d29_16 rfl rfl <| c_iconst X217 hx hby 0 d29_18 rfl <| c_aloadN X217 hx hby d29_19 rfl rfl <| c_shL #[rv v1, iv 1, iv 2, iv 1, rv b217] rfl ?_
 have cc218 := P0.ext E217
 refine c_alen X217 hx hby hZ e217 cc218 d29_20 <| c_iloadN X217 hx hby d29_21 rfl <| c_isub X217 hx hby d29_22 <| c_sh 23 [.int 1, .int 0, .ref b217, .int 1, .ref v1] rfl rfl <| c_iloadN X217 hx hby d29_23 rfl <| c_callS X217 hx hby hZ hown hml (gw hw 142 rfl) (gw hw 79 rfl) (gw hw 80 rfl) (gw hw 81 rfl) e217 (rmMN1 hw  h217 n0 ZN217 ) pd_9 rfl d29_24 [.int 0, .ref b217, .int 1, .ref v1] rfl 4 (by decide) rfl rfl fun o219 T219 L219 X219 hQ219 => ?_
 obtain ⟨rfl, N219q, e219⟩ := hQ219
 have N219 := Fr.app N216 N219q
 refine c_sh 27 [.int 1, .int 0, .ref b217, .int 1, .ref v1] rfl rfl ?_
 obtain ⟨T220, h220, L220, X220, e220, N220, K220, A220, st220⟩ := cpA X219 hx hZ hown (gw hw 143 rfl) (gw hw 146 rfl) (gw hw 144 rfl) (gw hw 145 rfl) e219 cc218 V217 (us := [(.int y1)]) (Or.inl ⟨rfl, rfl⟩) (by decide) (by decide) (by decide) (by decide) (by decide) rfl (by decide) N219 G_b217 (g := (mkF m 27 #[rv v1, iv 1, iv 2, iv 1, rv b217] [.int 1, .int 0, .ref b217, .int 1, .ref v1])) rfl (by rw [hml]; rfl) rfl (hb hby d29_27) (by decide) (W := 0) (by show 2 * 0 + _ ≤ _; exact Nat.le_of_eq rfl) (by decide)
 have V220 : vB Z h220 b217 k217 1 [.int y1] := A220
 have ne221 : v1 ≠ b217 := (Nat.ne_of_lt (Nat.lt_of_lt_of_le P0.lt (Nat.le_of_eq g217.symm)))
 have KK220 : Keep h0 h220 [] := KK217.trans K220 (allS (P := fun x => x ∈ [] ∨ h0.size ≤ x) (Or.inr (Nat.le_trans (Keep.refl h0 []).1 (Nat.le_of_eq g217.symm))) all0)
 have ZN220 : n0 ≤ h220.size := Nat.le_trans ZN217 K220.1
 refine go st220 ?_
 show Go _ p e below s _ _ _ (T220.setTop (mkF m 30 #[rv v1, iv 1, iv 2, iv 1, rv b217] []))
 refine c_aload X220 hx hby d29_30 rfl rfl ?_
 have cc222 := AE217.keep K220
 exact c_retA X220 hx hby hlk hret d29_32 rfl ⟨rfl, rfl⟩ (by decide) e220 ⟨b217, k217, rfl, N220, (Nat.le_trans (Keep.refl h0 []).1 (Nat.le_of_eq g217.symm)), G_b217, KK220, cc222, V220⟩
theorem d28_0 : decode jdk_65_method_132_code 0 = .ok (.iload_n 1, 1) := by decide +kernel
theorem d28_1 : decode jdk_65_method_132_code 1 = .ok (.ifCond .ne 9, 3) := by decide +kernel
theorem d28_10 : decode jdk_65_method_132_code 10 = .ok (.aload_n 0, 1) := by decide +kernel
theorem d28_11 : decode jdk_65_method_132_code 11 = .ok (.iload_n 1, 1) := by decide +kernel
theorem d28_12 : decode jdk_65_method_132_code 12 = .ok (.iload_n 2, 1) := by decide +kernel
theorem d28_13 : decode jdk_65_method_132_code 13 = .ok (.invokestatic 339, 3) := by decide +kernel
theorem d28_16 : decode jdk_65_method_132_code 16 = .ok (.areturn, 1) := by decide +kernel
theorem pn_28 : plainName "java/util/Arrays" = true := by first | (simp [plainName, overriddenIn]; done) | decide +kernel
theorem pd_12 : parseMethodDescriptor "([BII)[B" = some ⟨[(.array .byte), .int, .int], some (.array .byte)⟩ := by decide +kernel
def QRC2_1 (Z : State) (v1 : Addr) (k1 : ClassId) (y0 y1 : Int32) (h0 : Heap) (n0 : Nat) (v : Option Value) (h : Heap) (L : List Loc) : Prop := ∃ (b : Addr), ∃ (kb : ClassId), v = some (.ref b) ∧ Fr n0 L ∧ h0.size ≤ b ∧ n0 ≤ b ∧ Keep h0 h [] ∧ Exa Z h b "[B" ∧ vB Z h b kb 1 [.int y1]
theorem rmRC2_1 {l : Launch} {Z : State} {a0 : Array Value} (hw : HW Z a0) (v1 : Addr) (k1 : ClassId) (y0 y1 : Int32) (h0 : Heap) (n0 : Nat) (Z0 : n0 ≤ h0.size) (P0 : vB Z h0 v1 k1 2 [.int y0, .int y1]) : own_M l Z ⟨"java/util/Arrays", "copyOfRange", "([BII)[B"⟩ jdk_65_method_132_code 3 (some (.array .byte)) (rmk 2 1 1 56) #[.ref v1, .int 1, .int 2] h0 (QRC2_1 Z v1 k1 y0 y1 h0 n0) := by
 refine own_body rfl (plainFor_of_name pn_28) ?_
 intro p e s m below meth c s₁ hx hby hml hown hnm hlk hret X0 e0 hZ
 have N0 := Fr.nil n0
 show Go _ p e below s _ _ _ (s₁.setTop (mkF m 0 #[rv v1, iv 1, iv 2] []))
 refine c_iloadN X0 hx hby d28_0 rfl <| c_ifYes X0 hx hby 10 d28_1 (by decide) (by decide) <| c_aloadN X0 hx hby d28_10 rfl rfl <| c_iloadN X0 hx hby d28_11 rfl <| c_iloadN X0 hx hby d28_12 rfl <| c_callS X0 hx hby hZ hown hml (gw hw 136 rfl) (gw hw 137 rfl) (gw hw 134 rfl) (gw hw 138 rfl) e0 (rmRB2_1 hw v1 k1 y0 y1 h0 n0 Z0 P0) pd_12 rfl d28_13 [] rfl 0 (by decide) rfl rfl fun o224 T224 L224 X224 hQ224 => ?_
 obtain ⟨b224, kb224, rfl, N224q, u224_0, u224_1, K224, u224_3, u224_4⟩ := hQ224
 have N224 := Fr.app N0 N224q
 have G_b224 := Nat.le_trans Z0 u224_0
 have KK224 := (Keep.refl h0 []).trans K224 all0
 have ZN224 := Nat.le_trans Z0 K224.1
 refine c_sh 16 [.ref b224] rfl rfl ?_
 exact c_retA X224 hx hby hlk hret d28_16 rfl ⟨rfl, rfl⟩ (by decide) rfl ⟨b224, kb224, rfl, N224, (Nat.le_trans (Keep.refl h0 []).1 u224_0), u224_1, KK224, u224_3, u224_4⟩
theorem d26_0 : decode jdk_42_method_151_code 0 = .ok (.aload_n 0, 1) := by decide +kernel
theorem d26_1 : decode jdk_42_method_151_code 1 = .ok (.invokespecial 1, 3) := by decide +kernel
theorem d26_4 : decode jdk_42_method_151_code 4 = .ok (.aload_n 0, 1) := by decide +kernel
theorem d26_5 : decode jdk_42_method_151_code 5 = .ok (.aload_n 1, 1) := by decide +kernel
theorem d26_6 : decode jdk_42_method_151_code 6 = .ok (.putfield 9, 3) := by decide +kernel
theorem d26_9 : decode jdk_42_method_151_code 9 = .ok (.aload_n 0, 1) := by decide +kernel
theorem d26_10 : decode jdk_42_method_151_code 10 = .ok (.iload_n 2, 1) := by decide +kernel
theorem d26_11 : decode jdk_42_method_151_code 11 = .ok (.putfield 15, 3) := by decide +kernel
theorem d26_14 : decode jdk_42_method_151_code 14 = .ok (.return_, 1) := by decide +kernel
theorem pn_26 : plainName "java/lang/String" = true := by first | (simp [plainName, overriddenIn]; done) | decide +kernel
def Q26 (Z : State) (a1 a2 : Addr) (u1 u2 : Value) (h0 : Heap) (n0 : Nat) (v : Option Value) (h : Heap) (L : List Loc) : Prop := v = none ∧ Fr n0 L ∧ Keep h0 h [a1] ∧ fV Z h a1 a2 ∧ fC Z h a1
theorem rm26 {l : Launch} {Z : State} {a0 : Array Value} (hw : HW Z a0) (a1 a2 : Addr) (u1 u2 : Value) (h0 : Heap) (n0 : Nat) (Z0 : n0 ≤ h0.size) (P0 : eS Z h0 a1) (P1 : Fld Z h0 a1 "java/lang/String" "value" "[B" u1) (P2 : Fld Z h0 a1 "java/lang/String" "coder" "B" u2) (P3 : n0 ≤ a1) : own_M l Z ⟨"java/lang/String", "<init>", "([BB)V"⟩ jdk_42_method_151_code 3 none (rmk 1 0 0 12) #[.ref a1, .ref a2, .int 0] h0 (Q26 Z a1 a2 u1 u2 h0 n0) := by
 refine own_body rfl (plainFor_of_name pn_26) ?_
 intro p e s m below meth c s₁ hx hby hml hown hnm hlk hret X0 e0 hZ
 have N0 := Fr.nil n0
 show Go _ p e below s _ _ _ (s₁.setTop (mkF m 0 #[rv a1, rv a2, iv 0] []))
 refine c_aloadN X0 hx hby d26_0 rfl rfl ?_
 obtain ⟨T231, X231, e231, st231⟩ := initO X0 hx hZ hown (gw hw 12 rfl) (gw hw 13 rfl) (gw hw 14 rfl) e0 (g := (mkF m 1 #[rv a1, rv a2, iv 0] [.ref a1])) rfl (by rw [hml]; rfl) rfl (hb hby d26_1) (by decide) (W := 0) (by show 2 * 0 + _ ≤ _; exact Nat.le_of_eq rfl) (by decide)
 refine go st231 ?_
 show Go _ p e below s _ _ _ (T231.setTop (mkF m 4 #[rv a1, rv a2, iv 0] []))
 refine c_aloadN X231 hx hby d26_4 rfl rfl <| c_aloadN X231 hx hby d26_5 rfl rfl <| c_putf X231 hx hby hZ hown (gw hw 21 rfl) Via.refl e231 P1 P0 (Or.inr ⟨(gw hw 17 rfl), rfl, hnm⟩) (gw hw 3 rfl) (.array .byte) (by decide) rfl rfl d26_6 fun T232 h232 X232 e232 W232 => ?_
 have Fw232 := P1.same W232
 have KK232 := (Keep.refl h0 [a1]).wr W232 (Or.inl (List.mem_of_getElem? (i := 0) rfl))
 have ZN232 := Nat.le_trans Z0 (Keep.of_wr W232).1
 have NN232 := Fr.snoc X232 N0 P3
 refine c_sh 9 [] rfl rfl <| c_aloadN X232 hx hby d26_9 rfl rfl <| c_iloadN X232 hx hby d26_10 rfl ?_
 have cc233 := P2.other W232 (Or.inr (slot_ne (Or.inr (gw hw 18 rfl)) (Or.inr (gw hw 17 rfl)) (by decide) (t := .byte) (t' := (.array .byte)) (by decide) (by decide)))
 have cc234 := P0.wr W232
 refine c_putn X232 hx hby hZ hown (gw hw 22 rfl) Via.refl e232 (.int 0) cc233 cc234 (Or.inr ⟨(gw hw 18 rfl), rfl, hnm⟩) (gw hw 3 rfl) .byte (by decide) rfl rfl d26_11 fun T235 h235 X235 e235 W235 => ?_
 have Fw235 := cc233.same W235
 have KK235 := KK232.wr W235 (Or.inl (List.mem_of_getElem? (i := 0) rfl))
 have ZN235 := Nat.le_trans ZN232 (Keep.of_wr W235).1
 have NN235 := Fr.snoc X235 NN232 P3
 refine c_sh 14 [] rfl rfl ?_
 have cc236 := Fw232.other W235 (Or.inr (slot_ne (Or.inr (gw hw 17 rfl)) (Or.inr (gw hw 18 rfl)) (by decide) (t := (.array .byte)) (t' := .byte) (by decide) (by decide)))
 exact c_ret0 X235 hx hby hlk hret d26_14 (by decide) e235 ⟨rfl, NN235, KK235, cc236, Fw235⟩
theorem d27_7 : decode jdk_43_method_47_code 7 = .ok (.new 1, 3) := by decide +kernel
theorem d27_10 : decode jdk_43_method_47_code 10 = .ok (.dup, 1) := by decide +kernel
theorem d27_11 : decode jdk_43_method_47_code 11 = .ok (.aload_n 0, 1) := by decide +kernel
theorem d27_12 : decode jdk_43_method_47_code 12 = .ok (.iload_n 1, 1) := by decide +kernel
theorem d27_13 : decode jdk_43_method_47_code 13 = .ok (.iload_n 1, 1) := by decide +kernel
theorem d27_14 : decode jdk_43_method_47_code 14 = .ok (.iload_n 2, 1) := by decide +kernel
theorem d27_15 : decode jdk_43_method_47_code 15 = .ok (.iadd, 1) := by decide +kernel
theorem d27_16 : decode jdk_43_method_47_code 16 = .ok (.invokestatic 232, 3) := by decide +kernel
theorem d27_19 : decode jdk_43_method_47_code 19 = .ok (.iconst 0, 1) := by decide +kernel
theorem d27_20 : decode jdk_43_method_47_code 20 = .ok (.invokespecial 112, 3) := by decide +kernel
theorem d27_23 : decode jdk_43_method_47_code 23 = .ok (.areturn, 1) := by decide +kernel
theorem pd_13 : parseMethodDescriptor "([BB)V" = some ⟨[(.array .byte), .byte], none⟩ := by decide +kernel
def QNS2_1 (Z : State) (v1 : Addr) (k1 : ClassId) (y0 y1 : Int32) (h0 : Heap) (n0 : Nat) (v : Option Value) (h : Heap) (L : List Loc) : Prop := ∃ (b : Addr), ∃ (bb : Addr), ∃ (kb : ClassId), v = some (.ref b) ∧ Fr n0 L ∧ h0.size ≤ b ∧ n0 ≤ b ∧ Keep h0 h [] ∧ eS Z h b ∧ fC Z h b ∧ fV Z h b bb ∧ vB Z h bb kb 1 [.int y1]
theorem rmNS2_1 {l : Launch} {Z : State} {a0 : Array Value} (hw : HW Z a0) (v1 : Addr) (k1 : ClassId) (y0 y1 : Int32) (h0 : Heap) (n0 : Nat) (Z0 : n0 ≤ h0.size) (P0 : vB Z h0 v1 k1 2 [.int y0, .int y1]) : own_M l Z ⟨"java/lang/StringLatin1", "newString", "([BII)Ljava/lang/String;"⟩ jdk_43_method_47_code 3 (some (.object "java/lang/String")) (rmk 3 2 5 72) #[.ref v1, .int 1, .int 1] h0 (QNS2_1 Z v1 k1 y0 y1 h0 n0) := by
 refine own_body rfl (plainFor_of_name pn_27) ?_
 intro p e s m below meth c s₁ hx hby hml hown hnm hlk hret X0 e0 hZ
 have N0 := Fr.nil n0
 show Go _ p e below s _ _ _ (s₁.setTop (mkF m 0 #[rv v1, iv 1, iv 1] []))
 refine c_iloadN X0 hx hby d27_0 rfl <| c_ifYes X0 hx hby 7 d27_1 (by decide) (by decide) <| c_new X0 hx hby hZ hown (gw hw 131 rfl) (gw hw 3 rfl) (gw hw 4 rfl) e0 d27_7 (by decide) fun T248 h248 b248 g248 X248 e248 E248 A248 D248 => ?_
 have G_b248 := Nat.le_trans Z0 (Nat.le_of_eq g248.symm)
 have KK248 := (Keep.refl h0 []).ext E248
 have ZN248 := Nat.le_trans Z0 E248.1
 refine c_sh 10 [.ref b248] rfl rfl <| c_dup X248 hx hby d27_10 rfl <| c_aloadN X248 hx hby d27_11 rfl rfl <| c_iloadN X248 hx hby d27_12 rfl <| c_iloadN X248 hx hby d27_13 rfl <| c_iloadN X248 hx hby d27_14 rfl <| c_iadd X248 hx hby d27_15 <| c_sh 16 [.int 2, .int 1, .ref v1, .ref b248, .ref b248] rfl rfl ?_
 have cc250 := P0.ext E248
 refine c_callS X248 hx hby hZ hown hml (gw hw 132 rfl) (gw hw 133 rfl) (gw hw 134 rfl) (gw hw 135 rfl) e248 (rmRC2_1 hw v1 k1 y0 y1 h248 n0 ZN248 cc250) pd_12 rfl d27_16 [.ref b248, .ref b248] rfl 2 (by decide) rfl rfl fun o249 T249 L249 X249 hQ249 => ?_
 obtain ⟨b249, kb249, rfl, N249q, u249_0, u249_1, K249, u249_3, u249_4⟩ := hQ249
 have N249 := Fr.app N0 N249q
 have G_b249 := Nat.le_trans ZN248 u249_0
 have KK249 := KK248.trans K249 all0
 have ZN249 := Nat.le_trans ZN248 K249.1
 refine c_sh 19 [.ref b249, .ref b248, .ref b248] rfl rfl <| c_iconst X249 hx hby 0 d27_19 rfl ?_
 have cc252 := A248.keep K249
 have cc253 := (show Fld Z h248 b248 "java/lang/String" "value" "[B" .null from D248 (Or.inr (gw hw 17 rfl)) (ty := (.array .byte)) (by decide)).keep K249 nin0
 have cc254 := (show fC Z h248 b248 from D248 (Or.inr (gw hw 18 rfl)) (ty := .byte) (by decide)).keep K249 nin0
 refine c_init X249 hx hby hZ hown hml (gw hw 147 rfl) (gw hw 126 rfl) (gw hw 127 rfl) (gw hw 4 rfl) rfl rfl (rm26 hw b248 b249 .null (.int (0 : Int32)) (T249.heap) n0 ZN249 cc252 cc253 cc254 G_b248) pd_13 rfl d27_20 [.ref b248] rfl 1 (by decide) rfl rfl fun o251 T251 L251 X251 hQ251 => ?_
 obtain ⟨rfl, N251q, K251, u251_1, u251_2⟩ := hQ251
 have N251 := Fr.app N249 N251q
 have ne255 : v1 ≠ b248 := (Nat.ne_of_lt (Nat.lt_of_lt_of_le P0.lt (Nat.le_of_eq g248.symm)))
 have ne256 : b249 ≠ b248 := (Ne.symm (Nat.ne_of_lt (Nat.lt_of_lt_of_le A248.lt u249_0)))
 have KK251 := KK249.trans K251 (allS (P := fun x => x ∈ [] ∨ h0.size ≤ x) (Or.inr (Nat.le_trans (Keep.refl h0 []).1 (Nat.le_of_eq g248.symm))) all0)
 have ZN251 := Nat.le_trans ZN249 K251.1
 refine c_sh 23 [.ref b248] rfl rfl ?_
 have cc257 := cc252.keep K251
 have cc258 := u249_4.keep K251 (ninS ne256 nin0)
 exact c_retA X251 hx hby hlk hret d27_23 rfl ⟨rfl, rfl⟩ (by decide) rfl ⟨b248, b249, kb249, rfl, N251, (Nat.le_trans (Keep.refl h0 []).1 (Nat.le_of_eq g248.symm)), G_b248, KK251, cc257, u251_2, u251_1, cc258⟩
def QSB2_1 (Z : State) (a1 : Addr) (w0 : Int32) (f0 : Value) (v1 : Addr) (k1 : ClassId) (y0 y1 : Int32) (h0 : Heap) (n0 : Nat) (v : Option Value) (h : Heap) (L : List Loc) : Prop := ∃ (b : Addr), ∃ (bb : Addr), ∃ (kb : ClassId), v = some (.ref b) ∧ Fr n0 L ∧ h0.size ≤ b ∧ n0 ≤ b ∧ Keep h0 h [] ∧ eS Z h b ∧ fC Z h b ∧ fV Z h b bb ∧ vB Z h bb kb 1 [.int y1]
theorem rmSB2_1 {l : Launch} {Z : State} {a0 : Array Value} (hw : HW Z a0) (a1 : Addr) (w0 : Int32) (f0 : Value) (v1 : Addr) (k1 : ClassId) (y0 y1 : Int32) (h0 : Heap) (n0 : Nat) (Z0 : n0 ≤ h0.size) (P0 : sCS Z w0) (P1 : sPF Z f0) (P2 : Old Z n0 h0) (P3 : eS Z h0 a1) (P4 : fC Z h0 a1) (P5 : fV Z h0 a1 v1) (P6 : vB Z h0 v1 k1 2 [.int y0, .int y1]) (hw0 : ¬ w0 = 0) (hf : f0.isRef = true) : own_M l Z ⟨"java/lang/String", "substring", "(II)Ljava/lang/String;"⟩ jdk_42_method_92_code 5 (some (.object "java/lang/String")) (rmk 4 2 5 86) #[.ref a1, .int 1, .int 2] h0 (QSB2_1 Z a1 w0 f0 v1 k1 y0 y1 h0 n0) := by
 refine own_body rfl (plainFor_of_name pn_16) ?_
 intro p e s m below meth c s₁ hx hby hml hown hnm hlk hret X0 e0 hZ
 have N0 := Fr.nil n0
 show Go _ p e below s _ _ _ (s₁.setTop (mkF m 0 #[rv a1, iv 1, iv 2, .unset, .unset] []))
 refine c_aloadN X0 hx hby d16_0 rfl rfl <| c_callV X0 hx hby hZ hown hml (gw hw 50 rfl) (gw hw 51 rfl) (gw hw 53 rfl) (gw hw 52 rfl) (gw hw 54 rfl) (gw hw 4 rfl) P3 e0 (rm8 hw a1 w0 v1 k1 (2 : Int32) [(.int y0), (.int y1)] h0 n0 Z0 P0 P2 P3 P4 P5 P6 hw0) pd_3 rfl d16_1 [] rfl 0 (by decide) rfl rfl fun o264 T264 L264 X264 hQ264 => ?_
 obtain ⟨rfl, N264q, e264⟩ := hQ264
 have N264 := Fr.app N0 N264q
 refine c_sh 4 [.int 2] rfl rfl <| c_istoreN X264 hx hby _ d16_4 rfl <| c_iloadN X264 hx hby d16_5 rfl <| c_iloadN X264 hx hby d16_6 rfl <| c_iloadN X264 hx hby d16_7 rfl <| c_shL #[rv a1, iv 1, iv 2, iv 2, .unset] rfl <| c_callS X264 hx hby hZ hown hml (gw hw 92 rfl) (gw hw 93 rfl) (gw hw 4 rfl) (gw hw 94 rfl) e264 (rm17 hw (1 : Int32) (2 : Int32) (2 : Int32) f0 h0 n0 Z0 P1 P2 (by decide) (by decide) (by decide) hf) pd_4 rfl d16_8 [] rfl 0 (by decide) rfl rfl fun o265 T265 L265 X265 hQ265 => ?_
 obtain ⟨rfl, N265q, e265⟩ := hQ265
 have N265 := Fr.app N264 N265q
 refine c_sh 11 [] rfl rfl <| c_iloadN X265 hx hby d16_11 rfl <| c_ifYes X265 hx hby 22 d16_12 (by decide) (by decide) <| c_iloadN X265 hx hby d16_22 rfl <| c_iloadN X265 hx hby d16_23 rfl <| c_isub X265 hx hby d16_24 <| c_sh 25 [.int 1] rfl rfl <| c_istore X265 hx hby _ d16_25 rfl <| c_aloadN X265 hx hby d16_27 rfl rfl <| c_shL #[rv a1, iv 1, iv 2, iv 2, iv 1] rfl <| c_callV X265 hx hby hZ hown hml (gw hw 66 rfl) (gw hw 67 rfl) (gw hw 69 rfl) (gw hw 68 rfl) (gw hw 70 rfl) (gw hw 4 rfl) P3 e265 (rm11 hw a1 w0 h0 n0 Z0 P0 P2 P4 hw0) pd_5 rfl d16_28 [] rfl 0 (by decide) rfl rfl fun o266 T266 L266 X266 hQ266 => ?_
 obtain ⟨rfl, N266q, e266⟩ := hQ266
 have N266 := Fr.app N265 N266q
 refine c_sh 31 [.int 1] rfl rfl <| c_ifNo X266 hx hby d16_31 (by decide) <| c_aloadN X266 hx hby d16_34 rfl rfl <| c_getf X266 hx hby hZ hown (gw hw 21 rfl) Via.refl e266 P5 d16_35 fun T267 X267 e267 => ?_
 refine c_sh 38 [.ref v1] rfl rfl <| c_iloadN X267 hx hby d16_38 rfl <| c_iload X267 hx hby d16_39 rfl <| c_callS X267 hx hby hZ hown hml (gw hw 128 rfl) (gw hw 129 rfl) (gw hw 73 rfl) (gw hw 130 rfl) e267 (rmNS2_1 hw v1 k1 y0 y1 h0 n0 Z0 P6) pd_6 rfl d16_41 [] rfl 0 (by decide) rfl rfl fun o268 T268 L268 X268 hQ268 => ?_
 obtain ⟨b268, bb268, kb268, rfl, N268q, u268_0, u268_1, K268, u268_3, u268_4, u268_5, u268_6⟩ := hQ268
 have N268 := Fr.app N266 N268q
 have G_b268 := Nat.le_trans Z0 u268_0
 have KK268 := (Keep.refl h0 []).trans K268 all0
 have ZN268 := Nat.le_trans Z0 K268.1
 have OL268 := P2.keep K268 all0
 refine c_sh 44 [.ref b268] rfl rfl <| c_goto X268 hx hby 57 d16_44 (by decide) ?_
 exact c_retA X268 hx hby hlk hret d16_57 rfl ⟨rfl, rfl⟩ (by decide) rfl ⟨b268, bb268, kb268, rfl, N268, (Nat.le_trans (Keep.refl h0 []).1 u268_0), u268_1, KK268, u268_3, u268_4, u268_5, u268_6⟩
def QSU2_1 (Z : State) (a1 : Addr) (w0 : Int32) (f0 : Value) (v1 : Addr) (k1 : ClassId) (y0 y1 : Int32) (h0 : Heap) (n0 : Nat) (v : Option Value) (h : Heap) (L : List Loc) : Prop := ∃ (b : Addr), ∃ (bb : Addr), ∃ (kb : ClassId), v = some (.ref b) ∧ Fr n0 L ∧ h0.size ≤ b ∧ n0 ≤ b ∧ Keep h0 h [] ∧ eS Z h b ∧ fC Z h b ∧ fV Z h b bb ∧ vB Z h bb kb 1 [.int y1]
theorem rmSU2_1 {l : Launch} {Z : State} {a0 : Array Value} (hw : HW Z a0) (a1 : Addr) (w0 : Int32) (f0 : Value) (v1 : Addr) (k1 : ClassId) (y0 y1 : Int32) (h0 : Heap) (n0 : Nat) (Z0 : n0 ≤ h0.size) (P0 : sCS Z w0) (P1 : sPF Z f0) (P2 : Old Z n0 h0) (P3 : eS Z h0 a1) (P4 : fC Z h0 a1) (P5 : fV Z h0 a1 v1) (P6 : vB Z h0 v1 k1 2 [.int y0, .int y1]) (hw0 : ¬ w0 = 0) (hf : f0.isRef = true) : own_M l Z ⟨"java/lang/String", "substring", "(I)Ljava/lang/String;"⟩ jdk_42_method_91_code 2 (some (.object "java/lang/String")) (rmk 5 2 5 102) #[.ref a1, .int 1] h0 (QSU2_1 Z a1 w0 f0 v1 k1 y0 y1 h0 n0) := by
 refine own_body rfl (plainFor_of_name pn_15) ?_
 intro p e s m below meth c s₁ hx hby hml hown hnm hlk hret X0 e0 hZ
 have N0 := Fr.nil n0
 show Go _ p e below s _ _ _ (s₁.setTop (mkF m 0 #[rv a1, iv 1] []))
 refine c_aloadN X0 hx hby d15_0 rfl rfl <| c_iloadN X0 hx hby d15_1 rfl <| c_aloadN X0 hx hby d15_2 rfl rfl <| c_callV X0 hx hby hZ hown hml (gw hw 50 rfl) (gw hw 51 rfl) (gw hw 53 rfl) (gw hw 52 rfl) (gw hw 54 rfl) (gw hw 4 rfl) P3 e0 (rm8 hw a1 w0 v1 k1 (2 : Int32) [(.int y0), (.int y1)] h0 n0 Z0 P0 P2 P3 P4 P5 P6 hw0) pd_3 rfl d15_3 [.int 1, .ref a1] rfl 2 (by decide) rfl rfl fun o271 T271 L271 X271 hQ271 => ?_
 obtain ⟨rfl, N271q, e271⟩ := hQ271
 have N271 := Fr.app N0 N271q
 refine c_sh 6 [.int 2, .int 1, .ref a1] rfl rfl <| c_callV X271 hx hby hZ hown hml (gw hw 87 rfl) (gw hw 88 rfl) (gw hw 90 rfl) (gw hw 89 rfl) (gw hw 91 rfl) (gw hw 4 rfl) P3 e271 (rmSB2_1 hw a1 w0 f0 v1 k1 y0 y1 h0 n0 Z0 P0 P1 P2 P3 P4 P5 P6 hw0 hf) pd_7 rfl d15_6 [] rfl 0 (by decide) rfl rfl fun o272 T272 L272 X272 hQ272 => ?_
 obtain ⟨b272, bb272, kb272, rfl, N272q, u272_0, u272_1, K272, u272_3, u272_4, u272_5, u272_6⟩ := hQ272
 have N272 := Fr.app N271 N272q
 have G_b272 := Nat.le_trans Z0 u272_0
 have KK272 := (Keep.refl h0 []).trans K272 all0
 have ZN272 := Nat.le_trans Z0 K272.1
 have OL272 := P2.keep K272 all0
 refine c_sh 9 [.ref b272] rfl rfl ?_
 exact c_retA X272 hx hby hlk hret d15_9 rfl ⟨rfl, rfl⟩ (by decide) rfl ⟨b272, bb272, kb272, rfl, N272, (Nat.le_trans (Keep.refl h0 []).1 u272_0), u272_1, KK272, u272_3, u272_4, u272_5, u272_6⟩
def QMN2 (Z : State)  (h0 : Heap) (n0 : Nat) (v : Option Value) (h : Heap) (L : List Loc) : Prop := v = some (.int (2 : Int32)) ∧ Fr n0 L ∧ h = h0
theorem rmMN2 {l : Launch} {Z : State} {a0 : Array Value} (hw : HW Z a0)  (h0 : Heap) (n0 : Nat) (Z0 : n0 ≤ h0.size)  : own_M l Z ⟨"java/lang/Math", "min", "(II)I"⟩ jdk_29_method_69_code 2 (some .int) (rmk 0 0 0 0) #[.int 2, .int 2] h0 (QMN2 Z  h0 n0) := by
 refine own_body rfl (Jvm.Free.JP.mathPlain rfl (by decide +kernel)) ?_
 intro p e s m below meth c s₁ hx hby hml hown hnm hlk hret X0 e0 hZ
 have N0 := Fr.nil n0
 show Go _ p e below s _ _ _ (s₁.setTop (mkF m 0 #[iv 2, iv 2] []))
 refine c_iloadN X0 hx hby d14_0 rfl <| c_iloadN X0 hx hby d14_1 rfl <| c_icmpNo X0 hx hby d14_2 (by decide) <| c_iloadN X0 hx hby d14_5 rfl <| c_goto X0 hx hby 10 d14_6 (by decide) ?_
 refine c_retI X0 hx hby hlk hret d14_10 rfl (by simp) (by decide) e0 ⟨rfl, N0, rfl⟩
def QLL3_m1 (Z : State) (v1 : Addr) (k1 : ClassId) (y0 y1 y2 : Int32) (h0 : Heap) (n0 : Nat) (v : Option Value) (h : Heap) (L : List Loc) : Prop := v = some (.int (-1 : Int32)) ∧ Fr n0 L ∧ h = h0
theorem rmLL3_m1 {l : Launch} {Z : State} {a0 : Array Value} (hw : HW Z a0) (v1 : Addr) (k1 : ClassId) (y0 y1 y2 : Int32) (h0 : Heap) (n0 : Nat) (Z0 : n0 ≤ h0.size) (P0 : vB Z h0 v1 k1 3 [.int y0, .int y1, .int y2]) (hy0 : ¬ y0 = (46 : Int32)) (hy1 : ¬ y1 = (46 : Int32)) (hy2 : ¬ y2 = (46 : Int32)) : own_M l Z ⟨"java/lang/StringLatin1", "lastIndexOf", "([BII)I"⟩ jdk_43_method_27_code 4 (some .int) (rmk 1 0 0 13) #[.ref v1, .int 46, .int 2] h0 (QLL3_m1 Z v1 k1 y0 y1 y2 h0 n0) := by
 refine own_body rfl (plainFor_of_name pn_12) ?_
 intro p e s m below meth c s₁ hx hby hml hown hnm hlk hret X0 e0 hZ
 have N0 := Fr.nil n0
 show Go _ p e below s _ _ _ (s₁.setTop (mkF m 0 #[rv v1, iv 46, iv 2, .unset] []))
 refine c_iloadN X0 hx hby d12_0 rfl <| c_callS X0 hx hby hZ hown hml (gw hw 75 rfl) (gw hw 76 rfl) (gw hw 73 rfl) (gw hw 77 rfl) e0 (rmC46 hw  h0 n0 Z0 ) pd_8 rfl d12_1 [] rfl 0 (by decide) rfl rfl fun o275 T275 L275 X275 hQ275 => ?_
 obtain ⟨rfl, N275q, e275⟩ := hQ275
 have N275 := Fr.app N0 N275q
 refine c_sh 4 [.int 1] rfl rfl <| c_ifYes X275 hx hby 9 d12_4 (by decide) (by decide) <| c_iloadN X275 hx hby d12_9 rfl <| c_aloadN X275 hx hby d12_10 rfl rfl <| c_alen X275 hx hby hZ e275 P0 d12_11 <| c_iconst X275 hx hby 1 d12_12 rfl <| c_isub X275 hx hby d12_13 <| c_sh 14 [.int 2, .int 2] rfl rfl <| c_callS X275 hx hby hZ hown hml (gw hw 78 rfl) (gw hw 79 rfl) (gw hw 80 rfl) (gw hw 81 rfl) e275 (rmMN2 hw  h0 n0 Z0 ) pd_9 rfl d12_14 [] rfl 0 (by decide) rfl rfl fun o276 T276 L276 X276 hQ276 => ?_
 obtain ⟨rfl, N276q, e276⟩ := hQ276
 have N276 := Fr.app N275 N276q
 refine c_sh 17 [.int 2] rfl rfl <| c_istoreN X276 hx hby _ d12_17 rfl <| c_iloadN X276 hx hby d12_18 rfl <| c_ifNo X276 hx hby d12_19 (by decide) <| c_aloadN X276 hx hby d12_22 rfl rfl <| c_iloadN X276 hx hby d12_23 rfl <| c_bal X276 hx hby hZ e276 P0 (by decide) (.int y2) rfl d12_24 <| c_iloadN X276 hx hby d12_25 rfl <| c_i2b X276 hx hby d12_26 <| c_sh 27 [.int 46, .int y2] rfl rfl <| c_icmpYes X276 hx hby 32 d12_27 (feq hy2).2 (by decide) <| c_iinc X276 hx hby #[rv v1, iv 46, iv 2, iv 1] d12_32 rfl rfl <| c_goto X276 hx hby 18 d12_35 (by decide) <| c_iloadN X276 hx hby d12_18 rfl <| c_ifNo X276 hx hby d12_19 (by decide) <| c_aloadN X276 hx hby d12_22 rfl rfl <| c_iloadN X276 hx hby d12_23 rfl <| c_bal X276 hx hby hZ e276 P0 (by decide) (.int y1) rfl d12_24 <| c_iloadN X276 hx hby d12_25 rfl <| c_i2b X276 hx hby d12_26 <| c_sh 27 [.int 46, .int y1] rfl rfl <| c_icmpYes X276 hx hby 32 d12_27 (feq hy1).2 (by decide) <| c_iinc X276 hx hby #[rv v1, iv 46, iv 2, iv 0] d12_32 rfl rfl <| c_goto X276 hx hby 18 d12_35 (by decide) <| c_iloadN X276 hx hby d12_18 rfl <| c_ifNo X276 hx hby d12_19 (by decide) <| c_aloadN X276 hx hby d12_22 rfl rfl <| c_iloadN X276 hx hby d12_23 rfl <| c_bal X276 hx hby hZ e276 P0 (by decide) (.int y0) rfl d12_24 <| c_iloadN X276 hx hby d12_25 rfl <| c_i2b X276 hx hby d12_26 <| c_sh 27 [.int 46, .int y0] rfl rfl <| c_icmpYes X276 hx hby 32 d12_27 (feq hy0).2 (by decide) <| c_iinc X276 hx hby #[rv v1, iv 46, iv 2, iv (-1)] d12_32 rfl rfl <| c_goto X276 hx hby 18 d12_35 (by decide) <| c_iloadN X276 hx hby d12_18 rfl <| c_ifYes X276 hx hby 38 d12_19 (by decide) (by decide) <| c_iconst X276 hx hby (-1) d12_38 rfl ?_
 refine c_retI X276 hx hby hlk hret d12_39 rfl (by simp) (by decide) e276 ⟨rfl, N276, rfl⟩
def QLI3_m1 (Z : State) (a1 : Addr) (w0 : Int32) (v1 : Addr) (k1 : ClassId) (y0 y1 y2 : Int32) (h0 : Heap) (n0 : Nat) (v : Option Value) (h : Heap) (L : List Loc) : Prop := v = some (.int (-1 : Int32)) ∧ Fr n0 L ∧ h = h0
theorem rmLI3_m1 {l : Launch} {Z : State} {a0 : Array Value} (hw : HW Z a0) (a1 : Addr) (w0 : Int32) (v1 : Addr) (k1 : ClassId) (y0 y1 y2 : Int32) (h0 : Heap) (n0 : Nat) (Z0 : n0 ≤ h0.size) (P0 : sCS Z w0) (P1 : Old Z n0 h0) (P2 : eS Z h0 a1) (P3 : fC Z h0 a1) (P4 : fV Z h0 a1 v1) (P5 : vB Z h0 v1 k1 3 [.int y0, .int y1, .int y2]) (hw0 : ¬ w0 = 0) (hy0 : ¬ y0 = (46 : Int32)) (hy1 : ¬ y1 = (46 : Int32)) (hy2 : ¬ y2 = (46 : Int32)) : own_M l Z ⟨"java/lang/String", "lastIndexOf", "(II)I"⟩ jdk_42_method_83_code 3 (some .int) (rmk 2 0 0 28) #[.ref a1, .int 46, .int 2] h0 (QLI3_m1 Z a1 w0 v1 k1 y0 y1 y2 h0 n0) := by
 refine own_body rfl (plainFor_of_name pn_10) ?_
 intro p e s m below meth c s₁ hx hby hml hown hnm hlk hret X0 e0 hZ
 have N0 := Fr.nil n0
 show Go _ p e below s _ _ _ (s₁.setTop (mkF m 0 #[rv a1, iv 46, iv 2] []))
 refine c_aloadN X0 hx hby d10_0 rfl rfl <| c_callV X0 hx hby hZ hown hml (gw hw 66 rfl) (gw hw 67 rfl) (gw hw 69 rfl) (gw hw 68 rfl) (gw hw 70 rfl) (gw hw 4 rfl) P2 e0 (rm11 hw a1 w0 h0 n0 Z0 P0 P1 P3 hw0) pd_5 rfl d10_1 [] rfl 0 (by decide) rfl rfl fun o280 T280 L280 X280 hQ280 => ?_
 obtain ⟨rfl, N280q, e280⟩ := hQ280
 have N280 := Fr.app N0 N280q
 refine c_sh 4 [.int 1] rfl rfl <| c_ifNo X280 hx hby d10_4 (by decide) <| c_aloadN X280 hx hby d10_7 rfl rfl <| c_getf X280 hx hby hZ hown (gw hw 21 rfl) Via.refl e280 P4 d10_8 fun T281 X281 e281 => ?_
 refine c_sh 11 [.ref v1] rfl rfl <| c_iloadN X281 hx hby d10_11 rfl <| c_iloadN X281 hx hby d10_12 rfl <| c_callS X281 hx hby hZ hown hml (gw hw 71 rfl) (gw hw 72 rfl) (gw hw 73 rfl) (gw hw 74 rfl) e281 (rmLL3_m1 hw v1 k1 y0 y1 y2 h0 n0 Z0 P5 hy0 hy1 hy2) pd_10 rfl d10_13 [] rfl 0 (by decide) rfl rfl fun o282 T282 L282 X282 hQ282 => ?_
 obtain ⟨rfl, N282q, e282⟩ := hQ282
 have N282 := Fr.app N280 N282q
 refine c_sh 16 [.int (-1)] rfl rfl <| c_goto X282 hx hby 28 d10_16 (by decide) ?_
 refine c_retI X282 hx hby hlk hret d10_28 rfl (by simp) (by decide) e282 ⟨rfl, N282, rfl⟩
def QLO3_m1 (Z : State) (a1 : Addr) (w0 : Int32) (v1 : Addr) (k1 : ClassId) (y0 y1 y2 : Int32) (h0 : Heap) (n0 : Nat) (v : Option Value) (h : Heap) (L : List Loc) : Prop := v = some (.int (-1 : Int32)) ∧ Fr n0 L ∧ h = h0
theorem rmLO3_m1 {l : Launch} {Z : State} {a0 : Array Value} (hw : HW Z a0) (a1 : Addr) (w0 : Int32) (v1 : Addr) (k1 : ClassId) (y0 y1 y2 : Int32) (h0 : Heap) (n0 : Nat) (Z0 : n0 ≤ h0.size) (P0 : sCS Z w0) (P1 : Old Z n0 h0) (P2 : eS Z h0 a1) (P3 : fC Z h0 a1) (P4 : fV Z h0 a1 v1) (P5 : vB Z h0 v1 k1 3 [.int y0, .int y1, .int y2]) (hw0 : ¬ w0 = 0) (hy0 : ¬ y0 = (46 : Int32)) (hy1 : ¬ y1 = (46 : Int32)) (hy2 : ¬ y2 = (46 : Int32)) : own_M l Z ⟨"java/lang/String", "lastIndexOf", "(I)I"⟩ jdk_42_method_82_code 2 (some .int) (rmk 3 0 0 42) #[.ref a1, .int 46] h0 (QLO3_m1 Z a1 w0 v1 k1 y0 y1 y2 h0 n0) := by
 refine own_body rfl (plainFor_of_name pn_7) ?_
 intro p e s m below meth c s₁ hx hby hml hown hnm hlk hret X0 e0 hZ
 have N0 := Fr.nil n0
 show Go _ p e below s _ _ _ (s₁.setTop (mkF m 0 #[rv a1, iv 46] []))
 refine c_aloadN X0 hx hby d7_0 rfl rfl <| c_iloadN X0 hx hby d7_1 rfl <| c_aloadN X0 hx hby d7_2 rfl rfl <| c_callV X0 hx hby hZ hown hml (gw hw 50 rfl) (gw hw 51 rfl) (gw hw 53 rfl) (gw hw 52 rfl) (gw hw 54 rfl) (gw hw 4 rfl) P2 e0 (rm8 hw a1 w0 v1 k1 (3 : Int32) [(.int y0), (.int y1), (.int y2)] h0 n0 Z0 P0 P1 P2 P3 P4 P5 hw0) pd_3 rfl d7_3 [.int 46, .ref a1] rfl 2 (by decide) rfl rfl fun o285 T285 L285 X285 hQ285 => ?_
 obtain ⟨rfl, N285q, e285⟩ := hQ285
 have N285 := Fr.app N0 N285q
 refine c_sh 6 [.int 3, .int 46, .ref a1] rfl rfl <| c_iconst X285 hx hby 1 d7_6 rfl <| c_isub X285 hx hby d7_7 <| c_sh 8 [.int 2, .int 46, .ref a1] rfl rfl <| c_callV X285 hx hby hZ hown hml (gw hw 61 rfl) (gw hw 62 rfl) (gw hw 64 rfl) (gw hw 63 rfl) (gw hw 65 rfl) (gw hw 4 rfl) P2 e285 (rmLI3_m1 hw a1 w0 v1 k1 y0 y1 y2 h0 n0 Z0 P0 P1 P2 P3 P4 P5 hw0 hy0 hy1 hy2) pd_9 rfl d7_8 [] rfl 0 (by decide) rfl rfl fun o286 T286 L286 X286 hQ286 => ?_
 obtain ⟨rfl, N286q, e286⟩ := hQ286
 have N286 := Fr.app N285 N286q
 refine c_sh 11 [.int (-1)] rfl rfl ?_
 refine c_retI X286 hx hby hlk hret d7_11 rfl (by simp) (by decide) e286 ⟨rfl, N286, rfl⟩
def QLL3_0 (Z : State) (v1 : Addr) (k1 : ClassId) (y0 y1 y2 : Int32) (h0 : Heap) (n0 : Nat) (v : Option Value) (h : Heap) (L : List Loc) : Prop := v = some (.int (0 : Int32)) ∧ Fr n0 L ∧ h = h0
theorem rmLL3_0 {l : Launch} {Z : State} {a0 : Array Value} (hw : HW Z a0) (v1 : Addr) (k1 : ClassId) (y0 y1 y2 : Int32) (h0 : Heap) (n0 : Nat) (Z0 : n0 ≤ h0.size) (P0 : vB Z h0 v1 k1 3 [.int y0, .int y1, .int y2]) (hy0 : y0 = (46 : Int32)) (hy1 : ¬ y1 = (46 : Int32)) (hy2 : ¬ y2 = (46 : Int32)) : own_M l Z ⟨"java/lang/StringLatin1", "lastIndexOf", "([BII)I"⟩ jdk_43_method_27_code 4 (some .int) (rmk 1 0 0 13) #[.ref v1, .int 46, .int 2] h0 (QLL3_0 Z v1 k1 y0 y1 y2 h0 n0) := by
 refine own_body rfl (plainFor_of_name pn_12) ?_
 intro p e s m below meth c s₁ hx hby hml hown hnm hlk hret X0 e0 hZ
 have N0 := Fr.nil n0
 show Go _ p e below s _ _ _ (s₁.setTop (mkF m 0 #[rv v1, iv 46, iv 2, .unset] []))
 refine c_iloadN X0 hx hby d12_0 rfl <| c_callS X0 hx hby hZ hown hml (gw hw 75 rfl) (gw hw 76 rfl) (gw hw 73 rfl) (gw hw 77 rfl) e0 (rmC46 hw  h0 n0 Z0 ) pd_8 rfl d12_1 [] rfl 0 (by decide) rfl rfl fun o289 T289 L289 X289 hQ289 => ?_
 obtain ⟨rfl, N289q, e289⟩ := hQ289
 have N289 := Fr.app N0 N289q
 refine c_sh 4 [.int 1] rfl rfl <| c_ifYes X289 hx hby 9 d12_4 (by decide) (by decide) <| c_iloadN X289 hx hby d12_9 rfl <| c_aloadN X289 hx hby d12_10 rfl rfl <| c_alen X289 hx hby hZ e289 P0 d12_11 <| c_iconst X289 hx hby 1 d12_12 rfl <| c_isub X289 hx hby d12_13 <| c_sh 14 [.int 2, .int 2] rfl rfl <| c_callS X289 hx hby hZ hown hml (gw hw 78 rfl) (gw hw 79 rfl) (gw hw 80 rfl) (gw hw 81 rfl) e289 (rmMN2 hw  h0 n0 Z0 ) pd_9 rfl d12_14 [] rfl 0 (by decide) rfl rfl fun o290 T290 L290 X290 hQ290 => ?_
 obtain ⟨rfl, N290q, e290⟩ := hQ290
 have N290 := Fr.app N289 N290q
 refine c_sh 17 [.int 2] rfl rfl <| c_istoreN X290 hx hby _ d12_17 rfl <| c_iloadN X290 hx hby d12_18 rfl <| c_ifNo X290 hx hby d12_19 (by decide) <| c_aloadN X290 hx hby d12_22 rfl rfl <| c_iloadN X290 hx hby d12_23 rfl <| c_bal X290 hx hby hZ e290 P0 (by decide) (.int y2) rfl d12_24 <| c_iloadN X290 hx hby d12_25 rfl <| c_i2b X290 hx hby d12_26 <| c_sh 27 [.int 46, .int y2] rfl rfl <| c_icmpYes X290 hx hby 32 d12_27 (feq hy2).2 (by decide) <| c_iinc X290 hx hby #[rv v1, iv 46, iv 2, iv 1] d12_32 rfl rfl <| c_goto X290 hx hby 18 d12_35 (by decide) <| c_iloadN X290 hx hby d12_18 rfl <| c_ifNo X290 hx hby d12_19 (by decide) <| c_aloadN X290 hx hby d12_22 rfl rfl <| c_iloadN X290 hx hby d12_23 rfl <| c_bal X290 hx hby hZ e290 P0 (by decide) (.int y1) rfl d12_24 <| c_iloadN X290 hx hby d12_25 rfl <| c_i2b X290 hx hby d12_26 <| c_sh 27 [.int 46, .int y1] rfl rfl <| c_icmpYes X290 hx hby 32 d12_27 (feq hy1).2 (by decide) <| c_iinc X290 hx hby #[rv v1, iv 46, iv 2, iv 0] d12_32 rfl rfl <| c_goto X290 hx hby 18 d12_35 (by decide) <| c_iloadN X290 hx hby d12_18 rfl <| c_ifNo X290 hx hby d12_19 (by decide) <| c_aloadN X290 hx hby d12_22 rfl rfl <| c_iloadN X290 hx hby d12_23 rfl <| c_bal X290 hx hby hZ e290 P0 (by decide) (.int y0) rfl d12_24 <| c_iloadN X290 hx hby d12_25 rfl <| c_i2b X290 hx hby d12_26 <| c_sh 27 [.int 46, .int y0] rfl rfl <| c_icmpNo X290 hx hby d12_27 (teq hy0).2 <| c_iloadN X290 hx hby d12_30 rfl ?_
 refine c_retI X290 hx hby hlk hret d12_31 rfl (by simp) (by decide) e290 ⟨rfl, N290, rfl⟩
def QLI3_0 (Z : State) (a1 : Addr) (w0 : Int32) (v1 : Addr) (k1 : ClassId) (y0 y1 y2 : Int32) (h0 : Heap) (n0 : Nat) (v : Option Value) (h : Heap) (L : List Loc) : Prop := v = some (.int (0 : Int32)) ∧ Fr n0 L ∧ h = h0
theorem rmLI3_0 {l : Launch} {Z : State} {a0 : Array Value} (hw : HW Z a0) (a1 : Addr) (w0 : Int32) (v1 : Addr) (k1 : ClassId) (y0 y1 y2 : Int32) (h0 : Heap) (n0 : Nat) (Z0 : n0 ≤ h0.size) (P0 : sCS Z w0) (P1 : Old Z n0 h0) (P2 : eS Z h0 a1) (P3 : fC Z h0 a1) (P4 : fV Z h0 a1 v1) (P5 : vB Z h0 v1 k1 3 [.int y0, .int y1, .int y2]) (hw0 : ¬ w0 = 0) (hy0 : y0 = (46 : Int32)) (hy1 : ¬ y1 = (46 : Int32)) (hy2 : ¬ y2 = (46 : Int32)) : own_M l Z ⟨"java/lang/String", "lastIndexOf", "(II)I"⟩ jdk_42_method_83_code 3 (some .int) (rmk 2 0 0 28) #[.ref a1, .int 46, .int 2] h0 (QLI3_0 Z a1 w0 v1 k1 y0 y1 y2 h0 n0) := by
 refine own_body rfl (plainFor_of_name pn_10) ?_
 intro p e s m below meth c s₁ hx hby hml hown hnm hlk hret X0 e0 hZ
 have N0 := Fr.nil n0
 show Go _ p e below s _ _ _ (s₁.setTop (mkF m 0 #[rv a1, iv 46, iv 2] []))
 refine c_aloadN X0 hx hby d10_0 rfl rfl <| c_callV X0 hx hby hZ hown hml (gw hw 66 rfl) (gw hw 67 rfl) (gw hw 69 rfl) (gw hw 68 rfl) (gw hw 70 rfl) (gw hw 4 rfl) P2 e0 (rm11 hw a1 w0 h0 n0 Z0 P0 P1 P3 hw0) pd_5 rfl d10_1 [] rfl 0 (by decide) rfl rfl fun o294 T294 L294 X294 hQ294 => ?_
 obtain ⟨rfl, N294q, e294⟩ := hQ294
 have N294 := Fr.app N0 N294q
 refine c_sh 4 [.int 1] rfl rfl <| c_ifNo X294 hx hby d10_4 (by decide) <| c_aloadN X294 hx hby d10_7 rfl rfl <| c_getf X294 hx hby hZ hown (gw hw 21 rfl) Via.refl e294 P4 d10_8 fun T295 X295 e295 => ?_
 refine c_sh 11 [.ref v1] rfl rfl <| c_iloadN X295 hx hby d10_11 rfl <| c_iloadN X295 hx hby d10_12 rfl <| c_callS X295 hx hby hZ hown hml (gw hw 71 rfl) (gw hw 72 rfl) (gw hw 73 rfl) (gw hw 74 rfl) e295 (rmLL3_0 hw v1 k1 y0 y1 y2 h0 n0 Z0 P5 hy0 hy1 hy2) pd_10 rfl d10_13 [] rfl 0 (by decide) rfl rfl fun o296 T296 L296 X296 hQ296 => ?_
 obtain ⟨rfl, N296q, e296⟩ := hQ296
 have N296 := Fr.app N294 N296q
 refine c_sh 16 [.int 0] rfl rfl <| c_goto X296 hx hby 28 d10_16 (by decide) ?_
 refine c_retI X296 hx hby hlk hret d10_28 rfl (by simp) (by decide) e296 ⟨rfl, N296, rfl⟩
def QLO3_0 (Z : State) (a1 : Addr) (w0 : Int32) (v1 : Addr) (k1 : ClassId) (y0 y1 y2 : Int32) (h0 : Heap) (n0 : Nat) (v : Option Value) (h : Heap) (L : List Loc) : Prop := v = some (.int (0 : Int32)) ∧ Fr n0 L ∧ h = h0
theorem rmLO3_0 {l : Launch} {Z : State} {a0 : Array Value} (hw : HW Z a0) (a1 : Addr) (w0 : Int32) (v1 : Addr) (k1 : ClassId) (y0 y1 y2 : Int32) (h0 : Heap) (n0 : Nat) (Z0 : n0 ≤ h0.size) (P0 : sCS Z w0) (P1 : Old Z n0 h0) (P2 : eS Z h0 a1) (P3 : fC Z h0 a1) (P4 : fV Z h0 a1 v1) (P5 : vB Z h0 v1 k1 3 [.int y0, .int y1, .int y2]) (hw0 : ¬ w0 = 0) (hy0 : y0 = (46 : Int32)) (hy1 : ¬ y1 = (46 : Int32)) (hy2 : ¬ y2 = (46 : Int32)) : own_M l Z ⟨"java/lang/String", "lastIndexOf", "(I)I"⟩ jdk_42_method_82_code 2 (some .int) (rmk 3 0 0 42) #[.ref a1, .int 46] h0 (QLO3_0 Z a1 w0 v1 k1 y0 y1 y2 h0 n0) := by
 refine own_body rfl (plainFor_of_name pn_7) ?_
 intro p e s m below meth c s₁ hx hby hml hown hnm hlk hret X0 e0 hZ
 have N0 := Fr.nil n0
 show Go _ p e below s _ _ _ (s₁.setTop (mkF m 0 #[rv a1, iv 46] []))
 refine c_aloadN X0 hx hby d7_0 rfl rfl <| c_iloadN X0 hx hby d7_1 rfl <| c_aloadN X0 hx hby d7_2 rfl rfl <| c_callV X0 hx hby hZ hown hml (gw hw 50 rfl) (gw hw 51 rfl) (gw hw 53 rfl) (gw hw 52 rfl) (gw hw 54 rfl) (gw hw 4 rfl) P2 e0 (rm8 hw a1 w0 v1 k1 (3 : Int32) [(.int y0), (.int y1), (.int y2)] h0 n0 Z0 P0 P1 P2 P3 P4 P5 hw0) pd_3 rfl d7_3 [.int 46, .ref a1] rfl 2 (by decide) rfl rfl fun o299 T299 L299 X299 hQ299 => ?_
 obtain ⟨rfl, N299q, e299⟩ := hQ299
 have N299 := Fr.app N0 N299q
 refine c_sh 6 [.int 3, .int 46, .ref a1] rfl rfl <| c_iconst X299 hx hby 1 d7_6 rfl <| c_isub X299 hx hby d7_7 <| c_sh 8 [.int 2, .int 46, .ref a1] rfl rfl <| c_callV X299 hx hby hZ hown hml (gw hw 61 rfl) (gw hw 62 rfl) (gw hw 64 rfl) (gw hw 63 rfl) (gw hw 65 rfl) (gw hw 4 rfl) P2 e299 (rmLI3_0 hw a1 w0 v1 k1 y0 y1 y2 h0 n0 Z0 P0 P1 P2 P3 P4 P5 hw0 hy0 hy1 hy2) pd_9 rfl d7_8 [] rfl 0 (by decide) rfl rfl fun o300 T300 L300 X300 hQ300 => ?_
 obtain ⟨rfl, N300q, e300⟩ := hQ300
 have N300 := Fr.app N299 N300q
 refine c_sh 11 [.int 0] rfl rfl ?_
 refine c_retI X300 hx hby hlk hret d7_11 rfl (by simp) (by decide) e300 ⟨rfl, N300, rfl⟩
def QLL3_1 (Z : State) (v1 : Addr) (k1 : ClassId) (y0 y1 y2 : Int32) (h0 : Heap) (n0 : Nat) (v : Option Value) (h : Heap) (L : List Loc) : Prop := v = some (.int (1 : Int32)) ∧ Fr n0 L ∧ h = h0
theorem rmLL3_1 {l : Launch} {Z : State} {a0 : Array Value} (hw : HW Z a0) (v1 : Addr) (k1 : ClassId) (y0 y1 y2 : Int32) (h0 : Heap) (n0 : Nat) (Z0 : n0 ≤ h0.size) (P0 : vB Z h0 v1 k1 3 [.int y0, .int y1, .int y2]) (hy1 : y1 = (46 : Int32)) (hy2 : ¬ y2 = (46 : Int32)) : own_M l Z ⟨"java/lang/StringLatin1", "lastIndexOf", "([BII)I"⟩ jdk_43_method_27_code 4 (some .int) (rmk 1 0 0 13) #[.ref v1, .int 46, .int 2] h0 (QLL3_1 Z v1 k1 y0 y1 y2 h0 n0) := by
 refine own_body rfl (plainFor_of_name pn_12) ?_
 intro p e s m below meth c s₁ hx hby hml hown hnm hlk hret X0 e0 hZ
 have N0 := Fr.nil n0
 show Go _ p e below s _ _ _ (s₁.setTop (mkF m 0 #[rv v1, iv 46, iv 2, .unset] []))
 refine c_iloadN X0 hx hby d12_0 rfl <| c_callS X0 hx hby hZ hown hml (gw hw 75 rfl) (gw hw 76 rfl) (gw hw 73 rfl) (gw hw 77 rfl) e0 (rmC46 hw  h0 n0 Z0 ) pd_8 rfl d12_1 [] rfl 0 (by decide) rfl rfl fun o303 T303 L303 X303 hQ303 => ?_
 obtain ⟨rfl, N303q, e303⟩ := hQ303
 have N303 := Fr.app N0 N303q
 refine c_sh 4 [.int 1] rfl rfl <| c_ifYes X303 hx hby 9 d12_4 (by decide) (by decide) <| c_iloadN X303 hx hby d12_9 rfl <| c_aloadN X303 hx hby d12_10 rfl rfl <| c_alen X303 hx hby hZ e303 P0 d12_11 <| c_iconst X303 hx hby 1 d12_12 rfl <| c_isub X303 hx hby d12_13 <| c_sh 14 [.int 2, .int 2] rfl rfl <| c_callS X303 hx hby hZ hown hml (gw hw 78 rfl) (gw hw 79 rfl) (gw hw 80 rfl) (gw hw 81 rfl) e303 (rmMN2 hw  h0 n0 Z0 ) pd_9 rfl d12_14 [] rfl 0 (by decide) rfl rfl fun o304 T304 L304 X304 hQ304 => ?_
 obtain ⟨rfl, N304q, e304⟩ := hQ304
 have N304 := Fr.app N303 N304q
 refine c_sh 17 [.int 2] rfl rfl <| c_istoreN X304 hx hby _ d12_17 rfl <| c_iloadN X304 hx hby d12_18 rfl <| c_ifNo X304 hx hby d12_19 (by decide) <| c_aloadN X304 hx hby d12_22 rfl rfl <| c_iloadN X304 hx hby d12_23 rfl <| c_bal X304 hx hby hZ e304 P0 (by decide) (.int y2) rfl d12_24 <| c_iloadN X304 hx hby d12_25 rfl <| c_i2b X304 hx hby d12_26 <| c_sh 27 [.int 46, .int y2] rfl rfl <| c_icmpYes X304 hx hby 32 d12_27 (feq hy2).2 (by decide) <| c_iinc X304 hx hby #[rv v1, iv 46, iv 2, iv 1] d12_32 rfl rfl <| c_goto X304 hx hby 18 d12_35 (by decide) <| c_iloadN X304 hx hby d12_18 rfl <| c_ifNo X304 hx hby d12_19 (by decide) <| c_aloadN X304 hx hby d12_22 rfl rfl <| c_iloadN X304 hx hby d12_23 rfl <| c_bal X304 hx hby hZ e304 P0 (by decide) (.int y1) rfl d12_24 <| c_iloadN X304 hx hby d12_25 rfl <| c_i2b X304 hx hby d12_26 <| c_sh 27 [.int 46, .int y1] rfl rfl <| c_icmpNo X304 hx hby d12_27 (teq hy1).2 <| c_iloadN X304 hx hby d12_30 rfl ?_
 refine c_retI X304 hx hby hlk hret d12_31 rfl (by simp) (by decide) e304 ⟨rfl, N304, rfl⟩
def QLI3_1 (Z : State) (a1 : Addr) (w0 : Int32) (v1 : Addr) (k1 : ClassId) (y0 y1 y2 : Int32) (h0 : Heap) (n0 : Nat) (v : Option Value) (h : Heap) (L : List Loc) : Prop := v = some (.int (1 : Int32)) ∧ Fr n0 L ∧ h = h0
theorem rmLI3_1 {l : Launch} {Z : State} {a0 : Array Value} (hw : HW Z a0) (a1 : Addr) (w0 : Int32) (v1 : Addr) (k1 : ClassId) (y0 y1 y2 : Int32) (h0 : Heap) (n0 : Nat) (Z0 : n0 ≤ h0.size) (P0 : sCS Z w0) (P1 : Old Z n0 h0) (P2 : eS Z h0 a1) (P3 : fC Z h0 a1) (P4 : fV Z h0 a1 v1) (P5 : vB Z h0 v1 k1 3 [.int y0, .int y1, .int y2]) (hw0 : ¬ w0 = 0) (hy1 : y1 = (46 : Int32)) (hy2 : ¬ y2 = (46 : Int32)) : own_M l Z ⟨"java/lang/String", "lastIndexOf", "(II)I"⟩ jdk_42_method_83_code 3 (some .int) (rmk 2 0 0 28) #[.ref a1, .int 46, .int 2] h0 (QLI3_1 Z a1 w0 v1 k1 y0 y1 y2 h0 n0) := by
 refine own_body rfl (plainFor_of_name pn_10) ?_
 intro p e s m below meth c s₁ hx hby hml hown hnm hlk hret X0 e0 hZ
 have N0 := Fr.nil n0
 show Go _ p e below s _ _ _ (s₁.setTop (mkF m 0 #[rv a1, iv 46, iv 2] []))
 refine c_aloadN X0 hx hby d10_0 rfl rfl <| c_callV X0 hx hby hZ hown hml (gw hw 66 rfl) (gw hw 67 rfl) (gw hw 69 rfl) (gw hw 68 rfl) (gw hw 70 rfl) (gw hw 4 rfl) P2 e0 (rm11 hw a1 w0 h0 n0 Z0 P0 P1 P3 hw0) pd_5 rfl d10_1 [] rfl 0 (by decide) rfl rfl fun o308 T308 L308 X308 hQ308 => ?_
 obtain ⟨rfl, N308q, e308⟩ := hQ308
 have N308 := Fr.app N0 N308q
 refine c_sh 4 [.int 1] rfl rfl <| c_ifNo X308 hx hby d10_4 (by decide) <| c_aloadN X308 hx hby d10_7 rfl rfl <| c_getf X308 hx hby hZ hown (gw hw 21 rfl) Via.refl e308 P4 d10_8 fun T309 X309 e309 => ?_
 refine c_sh 11 [.ref v1] rfl rfl <| c_iloadN X309 hx hby d10_11 rfl <| c_iloadN X309 hx hby d10_12 rfl <| c_callS X309 hx hby hZ hown hml (gw hw 71 rfl) (gw hw 72 rfl) (gw hw 73 rfl) (gw hw 74 rfl) e309 (rmLL3_1 hw v1 k1 y0 y1 y2 h0 n0 Z0 P5 hy1 hy2) pd_10 rfl d10_13 [] rfl 0 (by decide) rfl rfl fun o310 T310 L310 X310 hQ310 => ?_
 obtain ⟨rfl, N310q, e310⟩ := hQ310
 have N310 := Fr.app N308 N310q
 refine c_sh 16 [.int 1] rfl rfl <| c_goto X310 hx hby 28 d10_16 (by decide) ?_
 refine c_retI X310 hx hby hlk hret d10_28 rfl (by simp) (by decide) e310 ⟨rfl, N310, rfl⟩
def QLO3_1 (Z : State) (a1 : Addr) (w0 : Int32) (v1 : Addr) (k1 : ClassId) (y0 y1 y2 : Int32) (h0 : Heap) (n0 : Nat) (v : Option Value) (h : Heap) (L : List Loc) : Prop := v = some (.int (1 : Int32)) ∧ Fr n0 L ∧ h = h0
theorem rmLO3_1 {l : Launch} {Z : State} {a0 : Array Value} (hw : HW Z a0) (a1 : Addr) (w0 : Int32) (v1 : Addr) (k1 : ClassId) (y0 y1 y2 : Int32) (h0 : Heap) (n0 : Nat) (Z0 : n0 ≤ h0.size) (P0 : sCS Z w0) (P1 : Old Z n0 h0) (P2 : eS Z h0 a1) (P3 : fC Z h0 a1) (P4 : fV Z h0 a1 v1) (P5 : vB Z h0 v1 k1 3 [.int y0, .int y1, .int y2]) (hw0 : ¬ w0 = 0) (hy1 : y1 = (46 : Int32)) (hy2 : ¬ y2 = (46 : Int32)) : own_M l Z ⟨"java/lang/String", "lastIndexOf", "(I)I"⟩ jdk_42_method_82_code 2 (some .int) (rmk 3 0 0 42) #[.ref a1, .int 46] h0 (QLO3_1 Z a1 w0 v1 k1 y0 y1 y2 h0 n0) := by
 refine own_body rfl (plainFor_of_name pn_7) ?_
 intro p e s m below meth c s₁ hx hby hml hown hnm hlk hret X0 e0 hZ
 have N0 := Fr.nil n0
 show Go _ p e below s _ _ _ (s₁.setTop (mkF m 0 #[rv a1, iv 46] []))
 refine c_aloadN X0 hx hby d7_0 rfl rfl <| c_iloadN X0 hx hby d7_1 rfl <| c_aloadN X0 hx hby d7_2 rfl rfl <| c_callV X0 hx hby hZ hown hml (gw hw 50 rfl) (gw hw 51 rfl) (gw hw 53 rfl) (gw hw 52 rfl) (gw hw 54 rfl) (gw hw 4 rfl) P2 e0 (rm8 hw a1 w0 v1 k1 (3 : Int32) [(.int y0), (.int y1), (.int y2)] h0 n0 Z0 P0 P1 P2 P3 P4 P5 hw0) pd_3 rfl d7_3 [.int 46, .ref a1] rfl 2 (by decide) rfl rfl fun o313 T313 L313 X313 hQ313 => ?_
 obtain ⟨rfl, N313q, e313⟩ := hQ313
 have N313 := Fr.app N0 N313q
 refine c_sh 6 [.int 3, .int 46, .ref a1] rfl rfl <| c_iconst X313 hx hby 1 d7_6 rfl <| c_isub X313 hx hby d7_7 <| c_sh 8 [.int 2, .int 46, .ref a1] rfl rfl <| c_callV X313 hx hby hZ hown hml (gw hw 61 rfl) (gw hw 62 rfl) (gw hw 64 rfl) (gw hw 63 rfl) (gw hw 65 rfl) (gw hw 4 rfl) P2 e313 (rmLI3_1 hw a1 w0 v1 k1 y0 y1 y2 h0 n0 Z0 P0 P1 P2 P3 P4 P5 hw0 hy1 hy2) pd_9 rfl d7_8 [] rfl 0 (by decide) rfl rfl fun o314 T314 L314 X314 hQ314 => ?_
 obtain ⟨rfl, N314q, e314⟩ := hQ314
 have N314 := Fr.app N313 N314q
 refine c_sh 11 [.int 1] rfl rfl ?_
 refine c_retI X314 hx hby hlk hret d7_11 rfl (by simp) (by decide) e314 ⟨rfl, N314, rfl⟩
def QLL3_2 (Z : State) (v1 : Addr) (k1 : ClassId) (y0 y1 y2 : Int32) (h0 : Heap) (n0 : Nat) (v : Option Value) (h : Heap) (L : List Loc) : Prop := v = some (.int (2 : Int32)) ∧ Fr n0 L ∧ h = h0
theorem rmLL3_2 {l : Launch} {Z : State} {a0 : Array Value} (hw : HW Z a0) (v1 : Addr) (k1 : ClassId) (y0 y1 y2 : Int32) (h0 : Heap) (n0 : Nat) (Z0 : n0 ≤ h0.size) (P0 : vB Z h0 v1 k1 3 [.int y0, .int y1, .int y2]) (hy2 : y2 = (46 : Int32)) : own_M l Z ⟨"java/lang/StringLatin1", "lastIndexOf", "([BII)I"⟩ jdk_43_method_27_code 4 (some .int) (rmk 1 0 0 13) #[.ref v1, .int 46, .int 2] h0 (QLL3_2 Z v1 k1 y0 y1 y2 h0 n0) := by
 refine own_body rfl (plainFor_of_name pn_12) ?_
 intro p e s m below meth c s₁ hx hby hml hown hnm hlk hret X0 e0 hZ
 have N0 := Fr.nil n0
 show Go _ p e below s _ _ _ (s₁.setTop (mkF m 0 #[rv v1, iv 46, iv 2, .unset] []))
 refine c_iloadN X0 hx hby d12_0 rfl <| c_callS X0 hx hby hZ hown hml (gw hw 75 rfl) (gw hw 76 rfl) (gw hw 73 rfl) (gw hw 77 rfl) e0 (rmC46 hw  h0 n0 Z0 ) pd_8 rfl d12_1 [] rfl 0 (by decide) rfl rfl fun o317 T317 L317 X317 hQ317 => ?_
 obtain ⟨rfl, N317q, e317⟩ := hQ317
 have N317 := Fr.app N0 N317q
 refine c_sh 4 [.int 1] rfl rfl <| c_ifYes X317 hx hby 9 d12_4 (by decide) (by decide) <| c_iloadN X317 hx hby d12_9 rfl <| c_aloadN X317 hx hby d12_10 rfl rfl <| c_alen X317 hx hby hZ e317 P0 d12_11 <| c_iconst X317 hx hby 1 d12_12 rfl <| c_isub X317 hx hby d12_13 <| c_sh 14 [.int 2, .int 2] rfl rfl <| c_callS X317 hx hby hZ hown hml (gw hw 78 rfl) (gw hw 79 rfl) (gw hw 80 rfl) (gw hw 81 rfl) e317 (rmMN2 hw  h0 n0 Z0 ) pd_9 rfl d12_14 [] rfl 0 (by decide) rfl rfl fun o318 T318 L318 X318 hQ318 => ?_
 obtain ⟨rfl, N318q, e318⟩ := hQ318
 have N318 := Fr.app N317 N318q
 refine c_sh 17 [.int 2] rfl rfl <| c_istoreN X318 hx hby _ d12_17 rfl <| c_iloadN X318 hx hby d12_18 rfl <| c_ifNo X318 hx hby d12_19 (by decide) <| c_aloadN X318 hx hby d12_22 rfl rfl <| c_iloadN X318 hx hby d12_23 rfl <| c_bal X318 hx hby hZ e318 P0 (by decide) (.int y2) rfl d12_24 <| c_iloadN X318 hx hby d12_25 rfl <| c_i2b X318 hx hby d12_26 <| c_sh 27 [.int 46, .int y2] rfl rfl <| c_icmpNo X318 hx hby d12_27 (teq hy2).2 <| c_iloadN X318 hx hby d12_30 rfl <| c_shL #[rv v1, iv 46, iv 2, iv 2] rfl ?_
 refine c_retI X318 hx hby hlk hret d12_31 rfl (by simp) (by decide) e318 ⟨rfl, N318, rfl⟩
def QLI3_2 (Z : State) (a1 : Addr) (w0 : Int32) (v1 : Addr) (k1 : ClassId) (y0 y1 y2 : Int32) (h0 : Heap) (n0 : Nat) (v : Option Value) (h : Heap) (L : List Loc) : Prop := v = some (.int (2 : Int32)) ∧ Fr n0 L ∧ h = h0
theorem rmLI3_2 {l : Launch} {Z : State} {a0 : Array Value} (hw : HW Z a0) (a1 : Addr) (w0 : Int32) (v1 : Addr) (k1 : ClassId) (y0 y1 y2 : Int32) (h0 : Heap) (n0 : Nat) (Z0 : n0 ≤ h0.size) (P0 : sCS Z w0) (P1 : Old Z n0 h0) (P2 : eS Z h0 a1) (P3 : fC Z h0 a1) (P4 : fV Z h0 a1 v1) (P5 : vB Z h0 v1 k1 3 [.int y0, .int y1, .int y2]) (hw0 : ¬ w0 = 0) (hy2 : y2 = (46 : Int32)) : own_M l Z ⟨"java/lang/String", "lastIndexOf", "(II)I"⟩ jdk_42_method_83_code 3 (some .int) (rmk 2 0 0 28) #[.ref a1, .int 46, .int 2] h0 (QLI3_2 Z a1 w0 v1 k1 y0 y1 y2 h0 n0) := by
 refine own_body rfl (plainFor_of_name pn_10) ?_
 intro p e s m below meth c s₁ hx hby hml hown hnm hlk hret X0 e0 hZ
 have N0 := Fr.nil n0
 show Go _ p e below s _ _ _ (s₁.setTop (mkF m 0 #[rv a1, iv 46, iv 2] []))
 refine c_aloadN X0 hx hby d10_0 rfl rfl <| c_callV X0 hx hby hZ hown hml (gw hw 66 rfl) (gw hw 67 rfl) (gw hw 69 rfl) (gw hw 68 rfl) (gw hw 70 rfl) (gw hw 4 rfl) P2 e0 (rm11 hw a1 w0 h0 n0 Z0 P0 P1 P3 hw0) pd_5 rfl d10_1 [] rfl 0 (by decide) rfl rfl fun o322 T322 L322 X322 hQ322 => ?_
 obtain ⟨rfl, N322q, e322⟩ := hQ322
 have N322 := Fr.app N0 N322q
 refine c_sh 4 [.int 1] rfl rfl <| c_ifNo X322 hx hby d10_4 (by decide) <| c_aloadN X322 hx hby d10_7 rfl rfl <| c_getf X322 hx hby hZ hown (gw hw 21 rfl) Via.refl e322 P4 d10_8 fun T323 X323 e323 => ?_
 refine c_sh 11 [.ref v1] rfl rfl <| c_iloadN X323 hx hby d10_11 rfl <| c_iloadN X323 hx hby d10_12 rfl <| c_callS X323 hx hby hZ hown hml (gw hw 71 rfl) (gw hw 72 rfl) (gw hw 73 rfl) (gw hw 74 rfl) e323 (rmLL3_2 hw v1 k1 y0 y1 y2 h0 n0 Z0 P5 hy2) pd_10 rfl d10_13 [] rfl 0 (by decide) rfl rfl fun o324 T324 L324 X324 hQ324 => ?_
 obtain ⟨rfl, N324q, e324⟩ := hQ324
 have N324 := Fr.app N322 N324q
 refine c_sh 16 [.int 2] rfl rfl <| c_goto X324 hx hby 28 d10_16 (by decide) ?_
 refine c_retI X324 hx hby hlk hret d10_28 rfl (by simp) (by decide) e324 ⟨rfl, N324, rfl⟩
def QLO3_2 (Z : State) (a1 : Addr) (w0 : Int32) (v1 : Addr) (k1 : ClassId) (y0 y1 y2 : Int32) (h0 : Heap) (n0 : Nat) (v : Option Value) (h : Heap) (L : List Loc) : Prop := v = some (.int (2 : Int32)) ∧ Fr n0 L ∧ h = h0
theorem rmLO3_2 {l : Launch} {Z : State} {a0 : Array Value} (hw : HW Z a0) (a1 : Addr) (w0 : Int32) (v1 : Addr) (k1 : ClassId) (y0 y1 y2 : Int32) (h0 : Heap) (n0 : Nat) (Z0 : n0 ≤ h0.size) (P0 : sCS Z w0) (P1 : Old Z n0 h0) (P2 : eS Z h0 a1) (P3 : fC Z h0 a1) (P4 : fV Z h0 a1 v1) (P5 : vB Z h0 v1 k1 3 [.int y0, .int y1, .int y2]) (hw0 : ¬ w0 = 0) (hy2 : y2 = (46 : Int32)) : own_M l Z ⟨"java/lang/String", "lastIndexOf", "(I)I"⟩ jdk_42_method_82_code 2 (some .int) (rmk 3 0 0 42) #[.ref a1, .int 46] h0 (QLO3_2 Z a1 w0 v1 k1 y0 y1 y2 h0 n0) := by
 refine own_body rfl (plainFor_of_name pn_7) ?_
 intro p e s m below meth c s₁ hx hby hml hown hnm hlk hret X0 e0 hZ
 have N0 := Fr.nil n0
 show Go _ p e below s _ _ _ (s₁.setTop (mkF m 0 #[rv a1, iv 46] []))
 refine c_aloadN X0 hx hby d7_0 rfl rfl <| c_iloadN X0 hx hby d7_1 rfl <| c_aloadN X0 hx hby d7_2 rfl rfl <| c_callV X0 hx hby hZ hown hml (gw hw 50 rfl) (gw hw 51 rfl) (gw hw 53 rfl) (gw hw 52 rfl) (gw hw 54 rfl) (gw hw 4 rfl) P2 e0 (rm8 hw a1 w0 v1 k1 (3 : Int32) [(.int y0), (.int y1), (.int y2)] h0 n0 Z0 P0 P1 P2 P3 P4 P5 hw0) pd_3 rfl d7_3 [.int 46, .ref a1] rfl 2 (by decide) rfl rfl fun o327 T327 L327 X327 hQ327 => ?_
 obtain ⟨rfl, N327q, e327⟩ := hQ327
 have N327 := Fr.app N0 N327q
 refine c_sh 6 [.int 3, .int 46, .ref a1] rfl rfl <| c_iconst X327 hx hby 1 d7_6 rfl <| c_isub X327 hx hby d7_7 <| c_sh 8 [.int 2, .int 46, .ref a1] rfl rfl <| c_callV X327 hx hby hZ hown hml (gw hw 61 rfl) (gw hw 62 rfl) (gw hw 64 rfl) (gw hw 63 rfl) (gw hw 65 rfl) (gw hw 4 rfl) P2 e327 (rmLI3_2 hw a1 w0 v1 k1 y0 y1 y2 h0 n0 Z0 P0 P1 P2 P3 P4 P5 hw0 hy2) pd_9 rfl d7_8 [] rfl 0 (by decide) rfl rfl fun o328 T328 L328 X328 hQ328 => ?_
 obtain ⟨rfl, N328q, e328⟩ := hQ328
 have N328 := Fr.app N327 N328q
 refine c_sh 11 [.int 2] rfl rfl ?_
 refine c_retI X328 hx hby hlk hret d7_11 rfl (by simp) (by decide) e328 ⟨rfl, N328, rfl⟩
def QSB3_0 (Z : State) (a1 : Addr) (w0 : Int32) (f0 : Value) (v1 : Addr) (k1 : ClassId) (y0 y1 y2 : Int32) (h0 : Heap) (n0 : Nat) (v : Option Value) (h : Heap) (L : List Loc) : Prop := v = some (.ref a1) ∧ Fr n0 L ∧ h = h0
theorem rmSB3_0 {l : Launch} {Z : State} {a0 : Array Value} (hw : HW Z a0) (a1 : Addr) (w0 : Int32) (f0 : Value) (v1 : Addr) (k1 : ClassId) (y0 y1 y2 : Int32) (h0 : Heap) (n0 : Nat) (Z0 : n0 ≤ h0.size) (P0 : sCS Z w0) (P1 : sPF Z f0) (P2 : Old Z n0 h0) (P3 : eS Z h0 a1) (P4 : fC Z h0 a1) (P5 : fV Z h0 a1 v1) (P6 : vB Z h0 v1 k1 3 [.int y0, .int y1, .int y2]) (hw0 : ¬ w0 = 0) (hf : f0.isRef = true) : own_M l Z ⟨"java/lang/String", "substring", "(II)Ljava/lang/String;"⟩ jdk_42_method_92_code 5 (some (.object "java/lang/String")) (rmk 2 0 0 29) #[.ref a1, .int 0, .int 3] h0 (QSB3_0 Z a1 w0 f0 v1 k1 y0 y1 y2 h0 n0) := by
 refine own_body rfl (plainFor_of_name pn_16) ?_
 intro p e s m below meth c s₁ hx hby hml hown hnm hlk hret X0 e0 hZ
 have N0 := Fr.nil n0
 show Go _ p e below s _ _ _ (s₁.setTop (mkF m 0 #[rv a1, iv 0, iv 3, .unset, .unset] []))
 refine c_aloadN X0 hx hby d16_0 rfl rfl <| c_callV X0 hx hby hZ hown hml (gw hw 50 rfl) (gw hw 51 rfl) (gw hw 53 rfl) (gw hw 52 rfl) (gw hw 54 rfl) (gw hw 4 rfl) P3 e0 (rm8 hw a1 w0 v1 k1 (3 : Int32) [(.int y0), (.int y1), (.int y2)] h0 n0 Z0 P0 P2 P3 P4 P5 P6 hw0) pd_3 rfl d16_1 [] rfl 0 (by decide) rfl rfl fun o331 T331 L331 X331 hQ331 => ?_
 obtain ⟨rfl, N331q, e331⟩ := hQ331
 have N331 := Fr.app N0 N331q
 refine c_sh 4 [.int 3] rfl rfl <| c_istoreN X331 hx hby _ d16_4 rfl <| c_iloadN X331 hx hby d16_5 rfl <| c_iloadN X331 hx hby d16_6 rfl <| c_iloadN X331 hx hby d16_7 rfl <| c_shL #[rv a1, iv 0, iv 3, iv 3, .unset] rfl <| c_callS X331 hx hby hZ hown hml (gw hw 92 rfl) (gw hw 93 rfl) (gw hw 4 rfl) (gw hw 94 rfl) e331 (rm17 hw (0 : Int32) (3 : Int32) (3 : Int32) f0 h0 n0 Z0 P1 P2 (by decide) (by decide) (by decide) hf) pd_4 rfl d16_8 [] rfl 0 (by decide) rfl rfl fun o332 T332 L332 X332 hQ332 => ?_
 obtain ⟨rfl, N332q, e332⟩ := hQ332
 have N332 := Fr.app N331 N332q
 refine c_sh 11 [] rfl rfl <| c_iloadN X332 hx hby d16_11 rfl <| c_ifNo X332 hx hby d16_12 ((if0 _ _).trans (teq (rfl : (0 : Int32) = (0 : Int32))).2) <| c_iloadN X332 hx hby d16_15 rfl <| c_iloadN X332 hx hby d16_16 rfl <| c_icmpNo X332 hx hby d16_17 (teq (rfl : (3 : Int32) = (3 : Int32))).2 <| c_aloadN X332 hx hby d16_20 rfl rfl ?_
 exact c_retA X332 hx hby hlk hret d16_21 rfl ⟨rfl, rfl⟩ (by decide) e332 ⟨rfl, N332, rfl⟩
def QSU3_0 (Z : State) (a1 : Addr) (w0 : Int32) (f0 : Value) (v1 : Addr) (k1 : ClassId) (y0 y1 y2 : Int32) (h0 : Heap) (n0 : Nat) (v : Option Value) (h : Heap) (L : List Loc) : Prop := v = some (.ref a1) ∧ Fr n0 L ∧ h = h0
theorem rmSU3_0 {l : Launch} {Z : State} {a0 : Array Value} (hw : HW Z a0) (a1 : Addr) (w0 : Int32) (f0 : Value) (v1 : Addr) (k1 : ClassId) (y0 y1 y2 : Int32) (h0 : Heap) (n0 : Nat) (Z0 : n0 ≤ h0.size) (P0 : sCS Z w0) (P1 : sPF Z f0) (P2 : Old Z n0 h0) (P3 : eS Z h0 a1) (P4 : fC Z h0 a1) (P5 : fV Z h0 a1 v1) (P6 : vB Z h0 v1 k1 3 [.int y0, .int y1, .int y2]) (hw0 : ¬ w0 = 0) (hf : f0.isRef = true) : own_M l Z ⟨"java/lang/String", "substring", "(I)Ljava/lang/String;"⟩ jdk_42_method_91_code 2 (some (.object "java/lang/String")) (rmk 3 0 0 45) #[.ref a1, .int 0] h0 (QSU3_0 Z a1 w0 f0 v1 k1 y0 y1 y2 h0 n0) := by
 refine own_body rfl (plainFor_of_name pn_15) ?_
 intro p e s m below meth c s₁ hx hby hml hown hnm hlk hret X0 e0 hZ
 have N0 := Fr.nil n0
 show Go _ p e below s _ _ _ (s₁.setTop (mkF m 0 #[rv a1, iv 0] []))
 refine c_aloadN X0 hx hby d15_0 rfl rfl <| c_iloadN X0 hx hby d15_1 rfl <| c_aloadN X0 hx hby d15_2 rfl rfl <| c_callV X0 hx hby hZ hown hml (gw hw 50 rfl) (gw hw 51 rfl) (gw hw 53 rfl) (gw hw 52 rfl) (gw hw 54 rfl) (gw hw 4 rfl) P3 e0 (rm8 hw a1 w0 v1 k1 (3 : Int32) [(.int y0), (.int y1), (.int y2)] h0 n0 Z0 P0 P2 P3 P4 P5 P6 hw0) pd_3 rfl d15_3 [.int 0, .ref a1] rfl 2 (by decide) rfl rfl fun o335 T335 L335 X335 hQ335 => ?_
 obtain ⟨rfl, N335q, e335⟩ := hQ335
 have N335 := Fr.app N0 N335q
 refine c_sh 6 [.int 3, .int 0, .ref a1] rfl rfl <| c_callV X335 hx hby hZ hown hml (gw hw 87 rfl) (gw hw 88 rfl) (gw hw 90 rfl) (gw hw 89 rfl) (gw hw 91 rfl) (gw hw 4 rfl) P3 e335 (rmSB3_0 hw a1 w0 f0 v1 k1 y0 y1 y2 h0 n0 Z0 P0 P1 P2 P3 P4 P5 P6 hw0 hf) pd_7 rfl d15_6 [] rfl 0 (by decide) rfl rfl fun o336 T336 L336 X336 hQ336 => ?_
 obtain ⟨rfl, N336q, e336⟩ := hQ336
 have N336 := Fr.app N335 N336q
 refine c_sh 9 [.ref a1] rfl rfl ?_
 exact c_retA X336 hx hby hlk hret d15_9 rfl ⟨rfl, rfl⟩ (by decide) e336 ⟨rfl, N336, rfl⟩
def QCL1_3 (Z : State)  (h0 : Heap) (n0 : Nat) (v : Option Value) (h : Heap) (L : List Loc) : Prop := v = none ∧ Fr n0 L ∧ h = h0
theorem rmCL1_3 {l : Launch} {Z : State} {a0 : Array Value} (hw : HW Z a0)  (h0 : Heap) (n0 : Nat) (Z0 : n0 ≤ h0.size)  : own_M l Z ⟨"java/util/Arrays", "checkLength", "(II)V"⟩ jdk_65_method_131_code 2 none (rmk 0 0 0 0) #[.int 1, .int 3] h0 (QCL1_3 Z  h0 n0) := by
 refine own_body rfl (plainFor_of_name pn_30) ?_
 intro p e s m below meth c s₁ hx hby hml hown hnm hlk hret X0 e0 hZ
 have N0 := Fr.nil n0
 show Go _ p e below s _ _ _ (s₁.setTop (mkF m 0 #[iv 1, iv 3] []))
 refine c_iloadN X0 hx hby d30_0 rfl <| c_iloadN X0 hx hby d30_1 rfl <| c_icmpYes X0 hx hby 37 d30_2 (by decide) (by decide) ?_
 exact c_ret0 X0 hx hby hlk hret d30_37 (by decide) e0 ⟨rfl, N0, rfl⟩
def QRB3_1 (Z : State) (v1 : Addr) (k1 : ClassId) (y0 y1 y2 : Int32) (h0 : Heap) (n0 : Nat) (v : Option Value) (h : Heap) (L : List Loc) : Prop := ∃ (b : Addr), ∃ (kb : ClassId), v = some (.ref b) ∧ Fr n0 L ∧ h0.size ≤ b ∧ n0 ≤ b ∧ Keep h0 h [] ∧ Exa Z h b "[B" ∧ vB Z h b kb 2 [.int y1, .int y2]
theorem rmRB3_1 {l : Launch} {Z : State} {a0 : Array Value} (hw : HW Z a0) (v1 : Addr) (k1 : ClassId) (y0 y1 y2 : Int32) (h0 : Heap) (n0 : Nat) (Z0 : n0 ≤ h0.size) (P0 : vB Z h0 v1 k1 3 [.int y0, .int y1, .int y2]) : own_M l Z ⟨"java/util/Arrays", "copyOfRangeByte", "([BII)[B"⟩ jdk_65_method_133_code 5 (some (.array .byte)) (rmk 1 1 2 40) #[.ref v1, .int 1, .int 3] h0 (QRB3_1 Z v1 k1 y0 y1 y2 h0 n0) := by
 refine own_body rfl (plainFor_of_name pn_29) ?_
 intro p e s m below meth c s₁ hx hby hml hown hnm hlk hret X0 e0 hZ
 have N0 := Fr.nil n0
 show Go _ p e below s _ _ _ (s₁.setTop (mkF m 0 #[rv v1, iv 1, iv 3, .unset, .unset] []))
 refine c_iloadN X0 hx hby d29_0 rfl <| c_iloadN X0 hx hby d29_1 rfl <| c_callS X0 hx hby hZ hown hml (gw hw 139 rfl) (gw hw 140 rfl) (gw hw 134 rfl) (gw hw 141 rfl) e0 (rmCL1_3 hw  h0 n0 Z0 ) pd_11 rfl d29_2 [] rfl 0 (by decide) rfl rfl fun o344 T344 L344 X344 hQ344 => ?_
 obtain ⟨rfl, N344q, e344⟩ := hQ344
 have N344 := Fr.app N0 N344q
 refine c_sh 5 [] rfl rfl <| c_iloadN X344 hx hby d29_5 rfl <| c_iloadN X344 hx hby d29_6 rfl <| c_isub X344 hx hby d29_7 <| c_sh 8 [.int 2] rfl rfl <| c_istoreN X344 hx hby _ d29_8 rfl <| c_iloadN X344 hx hby d29_9 rfl <| c_shL #[rv v1, iv 1, iv 3, iv 2, .unset] rfl <| c_newP X344 hx hby hZ (gw hw 16 rfl) e344 d29_10 (by decide) 2 (by decide) (by decide) "[B" (by first | rfl | decide) fun T345 h345 k345 b345 g345 X345 e345 E345 A345 AE345 => ?_
 have G_b345 := Nat.le_trans Z0 (Nat.le_of_eq g345.symm)
 have KK345 := (Keep.refl h0 []).ext E345
 have ZN345 := Nat.le_trans Z0 E345.1
 have V345 : vB Z h345 b345 k345 2 [.int 0, .int 0] := (Arv.new A345 (by decide)).pad (pad_rep [] (.int (0 : Int32)) 2)
 refine c_sh 12 [.ref b345] rfl rfl <| c_astore X345 hx hby _ d29_12 rfl rfl <| c_aloadN X345 hx hby d29_14 rfl rfl <| c_iloadN X345 hx hby d29_15 rfl <| c_aload X345 hx hby d29_16 rfl rfl <| c_iconst X345 hx hby 0 d29_18 rfl <| c_aloadN X345 hx hby d29_19 rfl rfl <| c_shL #[rv v1, iv 1, iv 3, iv 2, rv b345] rfl ?_
 have cc346 := P0.ext E345
 refine c_alen X345 hx hby hZ e345 cc346 d29_20 <| c_iloadN X345 hx hby d29_21 rfl <| c_isub X345 hx hby d29_22 <| c_sh 23 [.int 2, .int 0, .ref b345, .int 1, .ref v1] rfl rfl <| c_iloadN X345 hx hby d29_23 rfl <| c_callS X345 hx hby hZ hown hml (gw hw 142 rfl) (gw hw 79 rfl) (gw hw 80 rfl) (gw hw 81 rfl) e345 (rmMN2 hw  h345 n0 ZN345 ) pd_9 rfl d29_24 [.int 0, .ref b345, .int 1, .ref v1] rfl 4 (by decide) rfl rfl fun o347 T347 L347 X347 hQ347 => ?_
 obtain ⟨rfl, N347q, e347⟩ := hQ347
 have N347 := Fr.app N344 N347q
 refine c_sh 27 [.int 2, .int 0, .ref b345, .int 1, .ref v1] rfl rfl ?_
 obtain ⟨T348, h348, L348, X348, e348, N348, K348, A348, st348⟩ := cpA X347 hx hZ hown (gw hw 143 rfl) (gw hw 146 rfl) (gw hw 144 rfl) (gw hw 145 rfl) e347 cc346 V345 (us := [(.int y1), (.int y2)]) (Or.inl ⟨rfl, rfl⟩) (by decide) (by decide) (by decide) (by decide) (by decide) rfl (by decide) N347 G_b345 (g := (mkF m 27 #[rv v1, iv 1, iv 3, iv 2, rv b345] [.int 2, .int 0, .ref b345, .int 1, .ref v1])) rfl (by rw [hml]; rfl) rfl (hb hby d29_27) (by decide) (W := 0) (by show 2 * 0 + _ ≤ _; exact Nat.le_of_eq rfl) (by decide)
 have V348 : vB Z h348 b345 k345 2 [.int y1, .int y2] := A348
 have ne349 : v1 ≠ b345 := (Nat.ne_of_lt (Nat.lt_of_lt_of_le P0.lt (Nat.le_of_eq g345.symm)))
 have KK348 : Keep h0 h348 [] := KK345.trans K348 (allS (P := fun x => x ∈ [] ∨ h0.size ≤ x) (Or.inr (Nat.le_trans (Keep.refl h0 []).1 (Nat.le_of_eq g345.symm))) all0)
 have ZN348 : n0 ≤ h348.size := Nat.le_trans ZN345 K348.1
 refine go st348 ?_
 show Go _ p e below s _ _ _ (T348.setTop (mkF m 30 #[rv v1, iv 1, iv 3, iv 2, rv b345] []))
 refine c_aload X348 hx hby d29_30 rfl rfl ?_
 have cc350 := AE345.keep K348
 exact c_retA X348 hx hby hlk hret d29_32 rfl ⟨rfl, rfl⟩ (by decide) e348 ⟨b345, k345, rfl, N348, (Nat.le_trans (Keep.refl h0 []).1 (Nat.le_of_eq g345.symm)), G_b345, KK348, cc350, V348⟩
def QRC3_1 (Z : State) (v1 : Addr) (k1 : ClassId) (y0 y1 y2 : Int32) (h0 : Heap) (n0 : Nat) (v : Option Value) (h : Heap) (L : List Loc) : Prop := ∃ (b : Addr), ∃ (kb : ClassId), v = some (.ref b) ∧ Fr n0 L ∧ h0.size ≤ b ∧ n0 ≤ b ∧ Keep h0 h [] ∧ Exa Z h b "[B" ∧ vB Z h b kb 2 [.int y1, .int y2]
theorem rmRC3_1 {l : Launch} {Z : State} {a0 : Array Value} (hw : HW Z a0) (v1 : Addr) (k1 : ClassId) (y0 y1 y2 : Int32) (h0 : Heap) (n0 : Nat) (Z0 : n0 ≤ h0.size) (P0 : vB Z h0 v1 k1 3 [.int y0, .int y1, .int y2]) : own_M l Z ⟨"java/util/Arrays", "copyOfRange", "([BII)[B"⟩ jdk_65_method_132_code 3 (some (.array .byte)) (rmk 2 1 2 56) #[.ref v1, .int 1, .int 3] h0 (QRC3_1 Z v1 k1 y0 y1 y2 h0 n0) := by
 refine own_body rfl (plainFor_of_name pn_28) ?_
 intro p e s m below meth c s₁ hx hby hml hown hnm hlk hret X0 e0 hZ
 have N0 := Fr.nil n0
 show Go _ p e below s _ _ _ (s₁.setTop (mkF m 0 #[rv v1, iv 1, iv 3] []))
 refine c_iloadN X0 hx hby d28_0 rfl <| c_ifYes X0 hx hby 10 d28_1 (by decide) (by decide) <| c_aloadN X0 hx hby d28_10 rfl rfl <| c_iloadN X0 hx hby d28_11 rfl <| c_iloadN X0 hx hby d28_12 rfl <| c_callS X0 hx hby hZ hown hml (gw hw 136 rfl) (gw hw 137 rfl) (gw hw 134 rfl) (gw hw 138 rfl) e0 (rmRB3_1 hw v1 k1 y0 y1 y2 h0 n0 Z0 P0) pd_12 rfl d28_13 [] rfl 0 (by decide) rfl rfl fun o352 T352 L352 X352 hQ352 => ?_
 obtain ⟨b352, kb352, rfl, N352q, u352_0, u352_1, K352, u352_3, u352_4⟩ := hQ352
 have N352 := Fr.app N0 N352q
 have G_b352 := Nat.le_trans Z0 u352_0
 have KK352 := (Keep.refl h0 []).trans K352 all0
 have ZN352 := Nat.le_trans Z0 K352.1
 refine c_sh 16 [.ref b352] rfl rfl ?_
 exact c_retA X352 hx hby hlk hret d28_16 rfl ⟨rfl, rfl⟩ (by decide) rfl ⟨b352, kb352, rfl, N352, (Nat.le_trans (Keep.refl h0 []).1 u352_0), u352_1, KK352, u352_3, u352_4⟩
def QNS3_1 (Z : State) (v1 : Addr) (k1 : ClassId) (y0 y1 y2 : Int32) (h0 : Heap) (n0 : Nat) (v : Option Value) (h : Heap) (L : List Loc) : Prop := ∃ (b : Addr), ∃ (bb : Addr), ∃ (kb : ClassId), v = some (.ref b) ∧ Fr n0 L ∧ h0.size ≤ b ∧ n0 ≤ b ∧ Keep h0 h [] ∧ eS Z h b ∧ fC Z h b ∧ fV Z h b bb ∧ vB Z h bb kb 2 [.int y1, .int y2]
theorem rmNS3_1 {l : Launch} {Z : State} {a0 : Array Value} (hw : HW Z a0) (v1 : Addr) (k1 : ClassId) (y0 y1 y2 : Int32) (h0 : Heap) (n0 : Nat) (Z0 : n0 ≤ h0.size) (P0 : vB Z h0 v1 k1 3 [.int y0, .int y1, .int y2]) : own_M l Z ⟨"java/lang/StringLatin1", "newString", "([BII)Ljava/lang/String;"⟩ jdk_43_method_47_code 3 (some (.object "java/lang/String")) (rmk 3 2 6 72) #[.ref v1, .int 1, .int 2] h0 (QNS3_1 Z v1 k1 y0 y1 y2 h0 n0) := by
 refine own_body rfl (plainFor_of_name pn_27) ?_
 intro p e s m below meth c s₁ hx hby hml hown hnm hlk hret X0 e0 hZ
 have N0 := Fr.nil n0
 show Go _ p e below s _ _ _ (s₁.setTop (mkF m 0 #[rv v1, iv 1, iv 2] []))
 refine c_iloadN X0 hx hby d27_0 rfl <| c_ifYes X0 hx hby 7 d27_1 (by decide) (by decide) <| c_new X0 hx hby hZ hown (gw hw 131 rfl) (gw hw 3 rfl) (gw hw 4 rfl) e0 d27_7 (by decide) fun T364 h364 b364 g364 X364 e364 E364 A364 D364 => ?_
 have G_b364 := Nat.le_trans Z0 (Nat.le_of_eq g364.symm)
 have KK364 := (Keep.refl h0 []).ext E364
 have ZN364 := Nat.le_trans Z0 E364.1
 refine c_sh 10 [.ref b364] rfl rfl <| c_dup X364 hx hby d27_10 rfl <| c_aloadN X364 hx hby d27_11 rfl rfl <| c_iloadN X364 hx hby d27_12 rfl <| c_iloadN X364 hx hby d27_13 rfl <| c_iloadN X364 hx hby d27_14 rfl <| c_iadd X364 hx hby d27_15 <| c_sh 16 [.int 3, .int 1, .ref v1, .ref b364, .ref b364] rfl rfl ?_
 have cc366 := P0.ext E364
 refine c_callS X364 hx hby hZ hown hml (gw hw 132 rfl) (gw hw 133 rfl) (gw hw 134 rfl) (gw hw 135 rfl) e364 (rmRC3_1 hw v1 k1 y0 y1 y2 h364 n0 ZN364 cc366) pd_12 rfl d27_16 [.ref b364, .ref b364] rfl 2 (by decide) rfl rfl fun o365 T365 L365 X365 hQ365 => ?_
 obtain ⟨b365, kb365, rfl, N365q, u365_0, u365_1, K365, u365_3, u365_4⟩ := hQ365
 have N365 := Fr.app N0 N365q
 have G_b365 := Nat.le_trans ZN364 u365_0
 have KK365 := KK364.trans K365 all0
 have ZN365 := Nat.le_trans ZN364 K365.1
 refine c_sh 19 [.ref b365, .ref b364, .ref b364] rfl rfl <| c_iconst X365 hx hby 0 d27_19 rfl ?_
 have cc368 := A364.keep K365
 have cc369 := (show Fld Z h364 b364 "java/lang/String" "value" "[B" .null from D364 (Or.inr (gw hw 17 rfl)) (ty := (.array .byte)) (by decide)).keep K365 nin0
 have cc370 := (show fC Z h364 b364 from D364 (Or.inr (gw hw 18 rfl)) (ty := .byte) (by decide)).keep K365 nin0
 refine c_init X365 hx hby hZ hown hml (gw hw 147 rfl) (gw hw 126 rfl) (gw hw 127 rfl) (gw hw 4 rfl) rfl rfl (rm26 hw b364 b365 .null (.int (0 : Int32)) (T365.heap) n0 ZN365 cc368 cc369 cc370 G_b364) pd_13 rfl d27_20 [.ref b364] rfl 1 (by decide) rfl rfl fun o367 T367 L367 X367 hQ367 => ?_
 obtain ⟨rfl, N367q, K367, u367_1, u367_2⟩ := hQ367
 have N367 := Fr.app N365 N367q
 have ne371 : v1 ≠ b364 := (Nat.ne_of_lt (Nat.lt_of_lt_of_le P0.lt (Nat.le_of_eq g364.symm)))
 have ne372 : b365 ≠ b364 := (Ne.symm (Nat.ne_of_lt (Nat.lt_of_lt_of_le A364.lt u365_0)))
 have KK367 := KK365.trans K367 (allS (P := fun x => x ∈ [] ∨ h0.size ≤ x) (Or.inr (Nat.le_trans (Keep.refl h0 []).1 (Nat.le_of_eq g364.symm))) all0)
 have ZN367 := Nat.le_trans ZN365 K367.1
 refine c_sh 23 [.ref b364] rfl rfl ?_
 have cc373 := cc368.keep K367
 have cc374 := u365_4.keep K367 (ninS ne372 nin0)
 exact c_retA X367 hx hby hlk hret d27_23 rfl ⟨rfl, rfl⟩ (by decide) rfl ⟨b364, b365, kb365, rfl, N367, (Nat.le_trans (Keep.refl h0 []).1 (Nat.le_of_eq g364.symm)), G_b364, KK367, cc373, u367_2, u367_1, cc374⟩
def QSB3_1 (Z : State) (a1 : Addr) (w0 : Int32) (f0 : Value) (v1 : Addr) (k1 : ClassId) (y0 y1 y2 : Int32) (h0 : Heap) (n0 : Nat) (v : Option Value) (h : Heap) (L : List Loc) : Prop := ∃ (b : Addr), ∃ (bb : Addr), ∃ (kb : ClassId), v = some (.ref b) ∧ Fr n0 L ∧ h0.size ≤ b ∧ n0 ≤ b ∧ Keep h0 h [] ∧ eS Z h b ∧ fC Z h b ∧ fV Z h b bb ∧ vB Z h bb kb 2 [.int y1, .int y2]
theorem rmSB3_1 {l : Launch} {Z : State} {a0 : Array Value} (hw : HW Z a0) (a1 : Addr) (w0 : Int32) (f0 : Value) (v1 : Addr) (k1 : ClassId) (y0 y1 y2 : Int32) (h0 : Heap) (n0 : Nat) (Z0 : n0 ≤ h0.size) (P0 : sCS Z w0) (P1 : sPF Z f0) (P2 : Old Z n0 h0) (P3 : eS Z h0 a1) (P4 : fC Z h0 a1) (P5 : fV Z h0 a1 v1) (P6 : vB Z h0 v1 k1 3 [.int y0, .int y1, .int y2]) (hw0 : ¬ w0 = 0) (hf : f0.isRef = true) : own_M l Z ⟨"java/lang/String", "substring", "(II)Ljava/lang/String;"⟩ jdk_42_method_92_code 5 (some (.object "java/lang/String")) (rmk 4 2 6 86) #[.ref a1, .int 1, .int 3] h0 (QSB3_1 Z a1 w0 f0 v1 k1 y0 y1 y2 h0 n0) := by
 refine own_body rfl (plainFor_of_name pn_16) ?_
 intro p e s m below meth c s₁ hx hby hml hown hnm hlk hret X0 e0 hZ
 have N0 := Fr.nil n0
 show Go _ p e below s _ _ _ (s₁.setTop (mkF m 0 #[rv a1, iv 1, iv 3, .unset, .unset] []))
 refine c_aloadN X0 hx hby d16_0 rfl rfl <| c_callV X0 hx hby hZ hown hml (gw hw 50 rfl) (gw hw 51 rfl) (gw hw 53 rfl) (gw hw 52 rfl) (gw hw 54 rfl) (gw hw 4 rfl) P3 e0 (rm8 hw a1 w0 v1 k1 (3 : Int32) [(.int y0), (.int y1), (.int y2)] h0 n0 Z0 P0 P2 P3 P4 P5 P6 hw0) pd_3 rfl d16_1 [] rfl 0 (by decide) rfl rfl fun o380 T380 L380 X380 hQ380 => ?_
 obtain ⟨rfl, N380q, e380⟩ := hQ380
 have N380 := Fr.app N0 N380q
 refine c_sh 4 [.int 3] rfl rfl <| c_istoreN X380 hx hby _ d16_4 rfl <| c_iloadN X380 hx hby d16_5 rfl <| c_iloadN X380 hx hby d16_6 rfl <| c_iloadN X380 hx hby d16_7 rfl <| c_shL #[rv a1, iv 1, iv 3, iv 3, .unset] rfl <| c_callS X380 hx hby hZ hown hml (gw hw 92 rfl) (gw hw 93 rfl) (gw hw 4 rfl) (gw hw 94 rfl) e380 (rm17 hw (1 : Int32) (3 : Int32) (3 : Int32) f0 h0 n0 Z0 P1 P2 (by decide) (by decide) (by decide) hf) pd_4 rfl d16_8 [] rfl 0 (by decide) rfl rfl fun o381 T381 L381 X381 hQ381 => ?_
 obtain ⟨rfl, N381q, e381⟩ := hQ381
 have N381 := Fr.app N380 N381q
 refine c_sh 11 [] rfl rfl <| c_iloadN X381 hx hby d16_11 rfl <| c_ifYes X381 hx hby 22 d16_12 (by decide) (by decide) <| c_iloadN X381 hx hby d16_22 rfl <| c_iloadN X381 hx hby d16_23 rfl <| c_isub X381 hx hby d16_24 <| c_sh 25 [.int 2] rfl rfl <| c_istore X381 hx hby _ d16_25 rfl <| c_aloadN X381 hx hby d16_27 rfl rfl <| c_shL #[rv a1, iv 1, iv 3, iv 3, iv 2] rfl <| c_callV X381 hx hby hZ hown hml (gw hw 66 rfl) (gw hw 67 rfl) (gw hw 69 rfl) (gw hw 68 rfl) (gw hw 70 rfl) (gw hw 4 rfl) P3 e381 (rm11 hw a1 w0 h0 n0 Z0 P0 P2 P4 hw0) pd_5 rfl d16_28 [] rfl 0 (by decide) rfl rfl fun o382 T382 L382 X382 hQ382 => ?_
 obtain ⟨rfl, N382q, e382⟩ := hQ382
 have N382 := Fr.app N381 N382q
 refine c_sh 31 [.int 1] rfl rfl <| c_ifNo X382 hx hby d16_31 (by decide) <| c_aloadN X382 hx hby d16_34 rfl rfl <| c_getf X382 hx hby hZ hown (gw hw 21 rfl) Via.refl e382 P5 d16_35 fun T383 X383 e383 => ?_
 refine c_sh 38 [.ref v1] rfl rfl <| c_iloadN X383 hx hby d16_38 rfl <| c_iload X383 hx hby d16_39 rfl <| c_callS X383 hx hby hZ hown hml (gw hw 128 rfl) (gw hw 129 rfl) (gw hw 73 rfl) (gw hw 130 rfl) e383 (rmNS3_1 hw v1 k1 y0 y1 y2 h0 n0 Z0 P6) pd_6 rfl d16_41 [] rfl 0 (by decide) rfl rfl fun o384 T384 L384 X384 hQ384 => ?_
 obtain ⟨b384, bb384, kb384, rfl, N384q, u384_0, u384_1, K384, u384_3, u384_4, u384_5, u384_6⟩ := hQ384
 have N384 := Fr.app N382 N384q
 have G_b384 := Nat.le_trans Z0 u384_0
 have KK384 := (Keep.refl h0 []).trans K384 all0
 have ZN384 := Nat.le_trans Z0 K384.1
 have OL384 := P2.keep K384 all0
 refine c_sh 44 [.ref b384] rfl rfl <| c_goto X384 hx hby 57 d16_44 (by decide) ?_
 exact c_retA X384 hx hby hlk hret d16_57 rfl ⟨rfl, rfl⟩ (by decide) rfl ⟨b384, bb384, kb384, rfl, N384, (Nat.le_trans (Keep.refl h0 []).1 u384_0), u384_1, KK384, u384_3, u384_4, u384_5, u384_6⟩
def QSU3_1 (Z : State) (a1 : Addr) (w0 : Int32) (f0 : Value) (v1 : Addr) (k1 : ClassId) (y0 y1 y2 : Int32) (h0 : Heap) (n0 : Nat) (v : Option Value) (h : Heap) (L : List Loc) : Prop := ∃ (b : Addr), ∃ (bb : Addr), ∃ (kb : ClassId), v = some (.ref b) ∧ Fr n0 L ∧ h0.size ≤ b ∧ n0 ≤ b ∧ Keep h0 h [] ∧ eS Z h b ∧ fC Z h b ∧ fV Z h b bb ∧ vB Z h bb kb 2 [.int y1, .int y2]
theorem rmSU3_1 {l : Launch} {Z : State} {a0 : Array Value} (hw : HW Z a0) (a1 : Addr) (w0 : Int32) (f0 : Value) (v1 : Addr) (k1 : ClassId) (y0 y1 y2 : Int32) (h0 : Heap) (n0 : Nat) (Z0 : n0 ≤ h0.size) (P0 : sCS Z w0) (P1 : sPF Z f0) (P2 : Old Z n0 h0) (P3 : eS Z h0 a1) (P4 : fC Z h0 a1) (P5 : fV Z h0 a1 v1) (P6 : vB Z h0 v1 k1 3 [.int y0, .int y1, .int y2]) (hw0 : ¬ w0 = 0) (hf : f0.isRef = true) : own_M l Z ⟨"java/lang/String", "substring", "(I)Ljava/lang/String;"⟩ jdk_42_method_91_code 2 (some (.object "java/lang/String")) (rmk 5 2 6 102) #[.ref a1, .int 1] h0 (QSU3_1 Z a1 w0 f0 v1 k1 y0 y1 y2 h0 n0) := by
 refine own_body rfl (plainFor_of_name pn_15) ?_
 intro p e s m below meth c s₁ hx hby hml hown hnm hlk hret X0 e0 hZ
 have N0 := Fr.nil n0
 show Go _ p e below s _ _ _ (s₁.setTop (mkF m 0 #[rv a1, iv 1] []))
 refine c_aloadN X0 hx hby d15_0 rfl rfl <| c_iloadN X0 hx hby d15_1 rfl <| c_aloadN X0 hx hby d15_2 rfl rfl <| c_callV X0 hx hby hZ hown hml (gw hw 50 rfl) (gw hw 51 rfl) (gw hw 53 rfl) (gw hw 52 rfl) (gw hw 54 rfl) (gw hw 4 rfl) P3 e0 (rm8 hw a1 w0 v1 k1 (3 : Int32) [(.int y0), (.int y1), (.int y2)] h0 n0 Z0 P0 P2 P3 P4 P5 P6 hw0) pd_3 rfl d15_3 [.int 1, .ref a1] rfl 2 (by decide) rfl rfl fun o387 T387 L387 X387 hQ387 => ?_
 obtain ⟨rfl, N387q, e387⟩ := hQ387
 have N387 := Fr.app N0 N387q
 refine c_sh 6 [.int 3, .int 1, .ref a1] rfl rfl <| c_callV X387 hx hby hZ hown hml (gw hw 87 rfl) (gw hw 88 rfl) (gw hw 90 rfl) (gw hw 89 rfl) (gw hw 91 rfl) (gw hw 4 rfl) P3 e387 (rmSB3_1 hw a1 w0 f0 v1 k1 y0 y1 y2 h0 n0 Z0 P0 P1 P2 P3 P4 P5 P6 hw0 hf) pd_7 rfl d15_6 [] rfl 0 (by decide) rfl rfl fun o388 T388 L388 X388 hQ388 => ?_
 obtain ⟨b388, bb388, kb388, rfl, N388q, u388_0, u388_1, K388, u388_3, u388_4, u388_5, u388_6⟩ := hQ388
 have N388 := Fr.app N387 N388q
 have G_b388 := Nat.le_trans Z0 u388_0
 have KK388 := (Keep.refl h0 []).trans K388 all0
 have ZN388 := Nat.le_trans Z0 K388.1
 have OL388 := P2.keep K388 all0
 refine c_sh 9 [.ref b388] rfl rfl ?_
 exact c_retA X388 hx hby hlk hret d15_9 rfl ⟨rfl, rfl⟩ (by decide) rfl ⟨b388, bb388, kb388, rfl, N388, (Nat.le_trans (Keep.refl h0 []).1 u388_0), u388_1, KK388, u388_3, u388_4, u388_5, u388_6⟩
def QCL2_3 (Z : State)  (h0 : Heap) (n0 : Nat) (v : Option Value) (h : Heap) (L : List Loc) : Prop := v = none ∧ Fr n0 L ∧ h = h0
theorem rmCL2_3 {l : Launch} {Z : State} {a0 : Array Value} (hw : HW Z a0)  (h0 : Heap) (n0 : Nat) (Z0 : n0 ≤ h0.size)  : own_M l Z ⟨"java/util/Arrays", "checkLength", "(II)V"⟩ jdk_65_method_131_code 2 none (rmk 0 0 0 0) #[.int 2, .int 3] h0 (QCL2_3 Z  h0 n0) := by
 refine own_body rfl (plainFor_of_name pn_30) ?_
 intro p e s m below meth c s₁ hx hby hml hown hnm hlk hret X0 e0 hZ
 have N0 := Fr.nil n0
 show Go _ p e below s _ _ _ (s₁.setTop (mkF m 0 #[iv 2, iv 3] []))
 refine c_iloadN X0 hx hby d30_0 rfl <| c_iloadN X0 hx hby d30_1 rfl <| c_icmpYes X0 hx hby 37 d30_2 (by decide) (by decide) ?_
 exact c_ret0 X0 hx hby hlk hret d30_37 (by decide) e0 ⟨rfl, N0, rfl⟩
def QRB3_2 (Z : State) (v1 : Addr) (k1 : ClassId) (y0 y1 y2 : Int32) (h0 : Heap) (n0 : Nat) (v : Option Value) (h : Heap) (L : List Loc) : Prop := ∃ (b : Addr), ∃ (kb : ClassId), v = some (.ref b) ∧ Fr n0 L ∧ h0.size ≤ b ∧ n0 ≤ b ∧ Keep h0 h [] ∧ Exa Z h b "[B" ∧ vB Z h b kb 1 [.int y2]
theorem rmRB3_2 {l : Launch} {Z : State} {a0 : Array Value} (hw : HW Z a0) (v1 : Addr) (k1 : ClassId) (y0 y1 y2 : Int32) (h0 : Heap) (n0 : Nat) (Z0 : n0 ≤ h0.size) (P0 : vB Z h0 v1 k1 3 [.int y0, .int y1, .int y2]) : own_M l Z ⟨"java/util/Arrays", "copyOfRangeByte", "([BII)[B"⟩ jdk_65_method_133_code 5 (some (.array .byte)) (rmk 1 1 1 40) #[.ref v1, .int 2, .int 3] h0 (QRB3_2 Z v1 k1 y0 y1 y2 h0 n0) := by
 refine own_body rfl (plainFor_of_name pn_29) ?_
 intro p e s m below meth c s₁ hx hby hml hown hnm hlk hret X0 e0 hZ
 have N0 := Fr.nil n0
 show Go _ p e below s _ _ _ (s₁.setTop (mkF m 0 #[rv v1, iv 2, iv 3, .unset, .unset] []))
 refine c_iloadN X0 hx hby d29_0 rfl <| c_iloadN X0 hx hby d29_1 rfl <| c_callS X0 hx hby hZ hown hml (gw hw 139 rfl) (gw hw 140 rfl) (gw hw 134 rfl) (gw hw 141 rfl) e0 (rmCL2_3 hw  h0 n0 Z0 ) pd_11 rfl d29_2 [] rfl 0 (by decide) rfl rfl fun o396 T396 L396 X396 hQ396 => ?_
 obtain ⟨rfl, N396q, e396⟩ := hQ396
 have N396 := Fr.app N0 N396q
 refine c_sh 5 [] rfl rfl <| c_iloadN X396 hx hby d29_5 rfl <| c_iloadN X396 hx hby d29_6 rfl <| c_isub X396 hx hby d29_7 <| c_sh 8 [.int 1] rfl rfl <| c_istoreN X396 hx hby _ d29_8 rfl <| c_iloadN X396 hx hby d29_9 rfl <| c_shL #[rv v1, iv 2, iv 3, iv 1, .unset] rfl <| c_newP X396 hx hby hZ (gw hw 16 rfl) e396 d29_10 (by decide) 1 (by decide) (by decide) "[B" (by first | rfl | decide) fun T397 h397 k397 b397 g397 X397 e397 E397 A397 AE397 => ?_
 have G_b397 := Nat.le_trans Z0 (Nat.le_of_eq g397.symm)
 have KK397 := (Keep.refl h0 []).ext E397
 have ZN397 := Nat.le_trans Z0 E397.1
 have V397 : vB Z h397 b397 k397 1 [.int 0] := (Arv.new A397 (by decide)).pad (pad_rep [] (.int (0 : Int32)) 1)
 refine c_sh 12 [.ref b397] rfl rfl <| c_astore X397 hx hby _ d29_12 rfl rfl <| c_aloadN X397 hx hby d29_14 rfl rfl <| c_iloadN X397 hx hby d29_15 rfl <| c_aload X397 hx hby d29_16 rfl rfl <| c_iconst X397 hx hby 0 d29_18 rfl <| c_aloadN X397 hx hby d29_19 rfl rfl <| c_shL #[rv v1, iv 2, iv 3, iv 1, rv b397] rfl ?_
 have cc398 := P0.ext E397
 refine c_alen X397 hx hby hZ e397 cc398 d29_20 <| c_iloadN X397 hx hby d29_21 rfl <| c_isub X397 hx hby d29_22 <| c_sh 23 [.int 1, .int 0, .ref b397, .int 2, .ref v1] rfl rfl <| c_iloadN X397 hx hby d29_23 rfl <| c_callS X397 hx hby hZ hown hml (gw hw 142 rfl) (gw hw 79 rfl) (gw hw 80 rfl) (gw hw 81 rfl) e397 (rmMN1 hw  h397 n0 ZN397 ) pd_9 rfl d29_24 [.int 0, .ref b397, .int 2, .ref v1] rfl 4 (by decide) rfl rfl fun o399 T399 L399 X399 hQ399 => ?_
 obtain ⟨rfl, N399q, e399⟩ := hQ399
 have N399 := Fr.app N396 N399q
 refine c_sh 27 [.int 1, .int 0, .ref b397, .int 2, .ref v1] rfl rfl ?_
 obtain ⟨T400, h400, L400, X400, e400, N400, K400, A400, st400⟩ := cpA X399 hx hZ hown (gw hw 143 rfl) (gw hw 146 rfl) (gw hw 144 rfl) (gw hw 145 rfl) e399 cc398 V397 (us := [(.int y2)]) (Or.inl ⟨rfl, rfl⟩) (by decide) (by decide) (by decide) (by decide) (by decide) rfl (by decide) N399 G_b397 (g := (mkF m 27 #[rv v1, iv 2, iv 3, iv 1, rv b397] [.int 1, .int 0, .ref b397, .int 2, .ref v1])) rfl (by rw [hml]; rfl) rfl (hb hby d29_27) (by decide) (W := 0) (by show 2 * 0 + _ ≤ _; exact Nat.le_of_eq rfl) (by decide)
 have V400 : vB Z h400 b397 k397 1 [.int y2] := A400
 have ne401 : v1 ≠ b397 := (Nat.ne_of_lt (Nat.lt_of_lt_of_le P0.lt (Nat.le_of_eq g397.symm)))
 have KK400 : Keep h0 h400 [] := KK397.trans K400 (allS (P := fun x => x ∈ [] ∨ h0.size ≤ x) (Or.inr (Nat.le_trans (Keep.refl h0 []).1 (Nat.le_of_eq g397.symm))) all0)
 have ZN400 : n0 ≤ h400.size := Nat.le_trans ZN397 K400.1
 refine go st400 ?_
 show Go _ p e below s _ _ _ (T400.setTop (mkF m 30 #[rv v1, iv 2, iv 3, iv 1, rv b397] []))
 refine c_aload X400 hx hby d29_30 rfl rfl ?_
 have cc402 := AE397.keep K400
 exact c_retA X400 hx hby hlk hret d29_32 rfl ⟨rfl, rfl⟩ (by decide) e400 ⟨b397, k397, rfl, N400, (Nat.le_trans (Keep.refl h0 []).1 (Nat.le_of_eq g397.symm)), G_b397, KK400, cc402, V400⟩
def QRC3_2 (Z : State) (v1 : Addr) (k1 : ClassId) (y0 y1 y2 : Int32) (h0 : Heap) (n0 : Nat) (v : Option Value) (h : Heap) (L : List Loc) : Prop := ∃ (b : Addr), ∃ (kb : ClassId), v = some (.ref b) ∧ Fr n0 L ∧ h0.size ≤ b ∧ n0 ≤ b ∧ Keep h0 h [] ∧ Exa Z h b "[B" ∧ vB Z h b kb 1 [.int y2]
theorem rmRC3_2 {l : Launch} {Z : State} {a0 : Array Value} (hw : HW Z a0) (v1 : Addr) (k1 : ClassId) (y0 y1 y2 : Int32) (h0 : Heap) (n0 : Nat) (Z0 : n0 ≤ h0.size) (P0 : vB Z h0 v1 k1 3 [.int y0, .int y1, .int y2]) : own_M l Z ⟨"java/util/Arrays", "copyOfRange", "([BII)[B"⟩ jdk_65_method_132_code 3 (some (.array .byte)) (rmk 2 1 1 56) #[.ref v1, .int 2, .int 3] h0 (QRC3_2 Z v1 k1 y0 y1 y2 h0 n0) := by
 refine own_body rfl (plainFor_of_name pn_28) ?_
 intro p e s m below meth c s₁ hx hby hml hown hnm hlk hret X0 e0 hZ
 have N0 := Fr.nil n0
 show Go _ p e below s _ _ _ (s₁.setTop (mkF m 0 #[rv v1, iv 2, iv 3] []))
 refine c_iloadN X0 hx hby d28_0 rfl <| c_ifYes X0 hx hby 10 d28_1 (by decide) (by decide) <| c_aloadN X0 hx hby d28_10 rfl rfl <| c_iloadN X0 hx hby d28_11 rfl <| c_iloadN X0 hx hby d28_12 rfl <| c_callS X0 hx hby hZ hown hml (gw hw 136 rfl) (gw hw 137 rfl) (gw hw 134 rfl) (gw hw 138 rfl) e0 (rmRB3_2 hw v1 k1 y0 y1 y2 h0 n0 Z0 P0) pd_12 rfl d28_13 [] rfl 0 (by decide) rfl rfl fun o404 T404 L404 X404 hQ404 => ?_
 obtain ⟨b404, kb404, rfl, N404q, u404_0, u404_1, K404, u404_3, u404_4⟩ := hQ404
 have N404 := Fr.app N0 N404q
 have G_b404 := Nat.le_trans Z0 u404_0
 have KK404 := (Keep.refl h0 []).trans K404 all0
 have ZN404 := Nat.le_trans Z0 K404.1
 refine c_sh 16 [.ref b404] rfl rfl ?_
 exact c_retA X404 hx hby hlk hret d28_16 rfl ⟨rfl, rfl⟩ (by decide) rfl ⟨b404, kb404, rfl, N404, (Nat.le_trans (Keep.refl h0 []).1 u404_0), u404_1, KK404, u404_3, u404_4⟩
def QNS3_2 (Z : State) (v1 : Addr) (k1 : ClassId) (y0 y1 y2 : Int32) (h0 : Heap) (n0 : Nat) (v : Option Value) (h : Heap) (L : List Loc) : Prop := ∃ (b : Addr), ∃ (bb : Addr), ∃ (kb : ClassId), v = some (.ref b) ∧ Fr n0 L ∧ h0.size ≤ b ∧ n0 ≤ b ∧ Keep h0 h [] ∧ eS Z h b ∧ fC Z h b ∧ fV Z h b bb ∧ vB Z h bb kb 1 [.int y2]
theorem rmNS3_2 {l : Launch} {Z : State} {a0 : Array Value} (hw : HW Z a0) (v1 : Addr) (k1 : ClassId) (y0 y1 y2 : Int32) (h0 : Heap) (n0 : Nat) (Z0 : n0 ≤ h0.size) (P0 : vB Z h0 v1 k1 3 [.int y0, .int y1, .int y2]) : own_M l Z ⟨"java/lang/StringLatin1", "newString", "([BII)Ljava/lang/String;"⟩ jdk_43_method_47_code 3 (some (.object "java/lang/String")) (rmk 3 2 5 72) #[.ref v1, .int 2, .int 1] h0 (QNS3_2 Z v1 k1 y0 y1 y2 h0 n0) := by
 refine own_body rfl (plainFor_of_name pn_27) ?_
 intro p e s m below meth c s₁ hx hby hml hown hnm hlk hret X0 e0 hZ
 have N0 := Fr.nil n0
 show Go _ p e below s _ _ _ (s₁.setTop (mkF m 0 #[rv v1, iv 2, iv 1] []))
 refine c_iloadN X0 hx hby d27_0 rfl <| c_ifYes X0 hx hby 7 d27_1 (by decide) (by decide) <| c_new X0 hx hby hZ hown (gw hw 131 rfl) (gw hw 3 rfl) (gw hw 4 rfl) e0 d27_7 (by decide) fun T416 h416 b416 g416 X416 e416 E416 A416 D416 => ?_
 have G_b416 := Nat.le_trans Z0 (Nat.le_of_eq g416.symm)
 have KK416 := (Keep.refl h0 []).ext E416
 have ZN416 := Nat.le_trans Z0 E416.1
 refine c_sh 10 [.ref b416] rfl rfl <| c_dup X416 hx hby d27_10 rfl <| c_aloadN X416 hx hby d27_11 rfl rfl <| c_iloadN X416 hx hby d27_12 rfl <| c_iloadN X416 hx hby d27_13 rfl <| c_iloadN X416 hx hby d27_14 rfl <| c_iadd X416 hx hby d27_15 <| c_sh 16 [.int 3, .int 2, .ref v1, .ref b416, .ref b416] rfl rfl ?_
 have cc418 := P0.ext E416
 refine c_callS X416 hx hby hZ hown hml (gw hw 132 rfl) (gw hw 133 rfl) (gw hw 134 rfl) (gw hw 135 rfl) e416 (rmRC3_2 hw v1 k1 y0 y1 y2 h416 n0 ZN416 cc418) pd_12 rfl d27_16 [.ref b416, .ref b416] rfl 2 (by decide) rfl rfl fun o417 T417 L417 X417 hQ417 => ?_
 obtain ⟨b417, kb417, rfl, N417q, u417_0, u417_1, K417, u417_3, u417_4⟩ := hQ417
 have N417 := Fr.app N0 N417q
 have G_b417 := Nat.le_trans ZN416 u417_0
 have KK417 := KK416.trans K417 all0
 have ZN417 := Nat.le_trans ZN416 K417.1
 refine c_sh 19 [.ref b417, .ref b416, .ref b416] rfl rfl <| c_iconst X417 hx hby 0 d27_19 rfl ?_
 have cc420 := A416.keep K417
 have cc421 := (show Fld Z h416 b416 "java/lang/String" "value" "[B" .null from D416 (Or.inr (gw hw 17 rfl)) (ty := (.array .byte)) (by decide)).keep K417 nin0
 have cc422 := (show fC Z h416 b416 from D416 (Or.inr (gw hw 18 rfl)) (ty := .byte) (by decide)).keep K417 nin0
 refine c_init X417 hx hby hZ hown hml (gw hw 147 rfl) (gw hw 126 rfl) (gw hw 127 rfl) (gw hw 4 rfl) rfl rfl (rm26 hw b416 b417 .null (.int (0 : Int32)) (T417.heap) n0 ZN417 cc420 cc421 cc422 G_b416) pd_13 rfl d27_20 [.ref b416] rfl 1 (by decide) rfl rfl fun o419 T419 L419 X419 hQ419 => ?_
 obtain ⟨rfl, N419q, K419, u419_1, u419_2⟩ := hQ419
 have N419 := Fr.app N417 N419q
 have ne423 : v1 ≠ b416 := (Nat.ne_of_lt (Nat.lt_of_lt_of_le P0.lt (Nat.le_of_eq g416.symm)))
 have ne424 : b417 ≠ b416 := (Ne.symm (Nat.ne_of_lt (Nat.lt_of_lt_of_le A416.lt u417_0)))
 have KK419 := KK417.trans K419 (allS (P := fun x => x ∈ [] ∨ h0.size ≤ x) (Or.inr (Nat.le_trans (Keep.refl h0 []).1 (Nat.le_of_eq g416.symm))) all0)
 have ZN419 := Nat.le_trans ZN417 K419.1
 refine c_sh 23 [.ref b416] rfl rfl ?_
 have cc425 := cc420.keep K419
 have cc426 := u417_4.keep K419 (ninS ne424 nin0)
 exact c_retA X419 hx hby hlk hret d27_23 rfl ⟨rfl, rfl⟩ (by decide) rfl ⟨b416, b417, kb417, rfl, N419, (Nat.le_trans (Keep.refl h0 []).1 (Nat.le_of_eq g416.symm)), G_b416, KK419, cc425, u419_2, u419_1, cc426⟩
def QSB3_2 (Z : State) (a1 : Addr) (w0 : Int32) (f0 : Value) (v1 : Addr) (k1 : ClassId) (y0 y1 y2 : Int32) (h0 : Heap) (n0 : Nat) (v : Option Value) (h : Heap) (L : List Loc) : Prop := ∃ (b : Addr), ∃ (bb : Addr), ∃ (kb : ClassId), v = some (.ref b) ∧ Fr n0 L ∧ h0.size ≤ b ∧ n0 ≤ b ∧ Keep h0 h [] ∧ eS Z h b ∧ fC Z h b ∧ fV Z h b bb ∧ vB Z h bb kb 1 [.int y2]
theorem rmSB3_2 {l : Launch} {Z : State} {a0 : Array Value} (hw : HW Z a0) (a1 : Addr) (w0 : Int32) (f0 : Value) (v1 : Addr) (k1 : ClassId) (y0 y1 y2 : Int32) (h0 : Heap) (n0 : Nat) (Z0 : n0 ≤ h0.size) (P0 : sCS Z w0) (P1 : sPF Z f0) (P2 : Old Z n0 h0) (P3 : eS Z h0 a1) (P4 : fC Z h0 a1) (P5 : fV Z h0 a1 v1) (P6 : vB Z h0 v1 k1 3 [.int y0, .int y1, .int y2]) (hw0 : ¬ w0 = 0) (hf : f0.isRef = true) : own_M l Z ⟨"java/lang/String", "substring", "(II)Ljava/lang/String;"⟩ jdk_42_method_92_code 5 (some (.object "java/lang/String")) (rmk 4 2 5 86) #[.ref a1, .int 2, .int 3] h0 (QSB3_2 Z a1 w0 f0 v1 k1 y0 y1 y2 h0 n0) := by
 refine own_body rfl (plainFor_of_name pn_16) ?_
 intro p e s m below meth c s₁ hx hby hml hown hnm hlk hret X0 e0 hZ
 have N0 := Fr.nil n0
 show Go _ p e below s _ _ _ (s₁.setTop (mkF m 0 #[rv a1, iv 2, iv 3, .unset, .unset] []))
 refine c_aloadN X0 hx hby d16_0 rfl rfl <| c_callV X0 hx hby hZ hown hml (gw hw 50 rfl) (gw hw 51 rfl) (gw hw 53 rfl) (gw hw 52 rfl) (gw hw 54 rfl) (gw hw 4 rfl) P3 e0 (rm8 hw a1 w0 v1 k1 (3 : Int32) [(.int y0), (.int y1), (.int y2)] h0 n0 Z0 P0 P2 P3 P4 P5 P6 hw0) pd_3 rfl d16_1 [] rfl 0 (by decide) rfl rfl fun o432 T432 L432 X432 hQ432 => ?_
 obtain ⟨rfl, N432q, e432⟩ := hQ432
 have N432 := Fr.app N0 N432q
 refine c_sh 4 [.int 3] rfl rfl <| c_istoreN X432 hx hby _ d16_4 rfl <| c_iloadN X432 hx hby d16_5 rfl <| c_iloadN X432 hx hby d16_6 rfl <| c_iloadN X432 hx hby d16_7 rfl <| c_shL #[rv a1, iv 2, iv 3, iv 3, .unset] rfl <| c_callS X432 hx hby hZ hown hml (gw hw 92 rfl) (gw hw 93 rfl) (gw hw 4 rfl) (gw hw 94 rfl) e432 (rm17 hw (2 : Int32) (3 : Int32) (3 : Int32) f0 h0 n0 Z0 P1 P2 (by decide) (by decide) (by decide) hf) pd_4 rfl d16_8 [] rfl 0 (by decide) rfl rfl fun o433 T433 L433 X433 hQ433 => ?_
 obtain ⟨rfl, N433q, e433⟩ := hQ433
 have N433 := Fr.app N432 N433q
 refine c_sh 11 [] rfl rfl <| c_iloadN X433 hx hby d16_11 rfl <| c_ifYes X433 hx hby 22 d16_12 (by decide) (by decide) <| c_iloadN X433 hx hby d16_22 rfl <| c_iloadN X433 hx hby d16_23 rfl <| c_isub X433 hx hby d16_24 <| c_sh 25 [.int 1] rfl rfl <| c_istore X433 hx hby _ d16_25 rfl <| c_aloadN X433 hx hby d16_27 rfl rfl <| c_shL #[rv a1, iv 2, iv 3, iv 3, iv 1] rfl <| c_callV X433 hx hby hZ hown hml (gw hw 66 rfl) (gw hw 67 rfl) (gw hw 69 rfl) (gw hw 68 rfl) (gw hw 70 rfl) (gw hw 4 rfl) P3 e433 (rm11 hw a1 w0 h0 n0 Z0 P0 P2 P4 hw0) pd_5 rfl d16_28 [] rfl 0 (by decide) rfl rfl fun o434 T434 L434 X434 hQ434 => ?_
 obtain ⟨rfl, N434q, e434⟩ := hQ434
 have N434 := Fr.app N433 N434q
 refine c_sh 31 [.int 1] rfl rfl <| c_ifNo X434 hx hby d16_31 (by decide) <| c_aloadN X434 hx hby d16_34 rfl rfl <| c_getf X434 hx hby hZ hown (gw hw 21 rfl) Via.refl e434 P5 d16_35 fun T435 X435 e435 => ?_
 refine c_sh 38 [.ref v1] rfl rfl <| c_iloadN X435 hx hby d16_38 rfl <| c_iload X435 hx hby d16_39 rfl <| c_callS X435 hx hby hZ hown hml (gw hw 128 rfl) (gw hw 129 rfl) (gw hw 73 rfl) (gw hw 130 rfl) e435 (rmNS3_2 hw v1 k1 y0 y1 y2 h0 n0 Z0 P6) pd_6 rfl d16_41 [] rfl 0 (by decide) rfl rfl fun o436 T436 L436 X436 hQ436 => ?_
 obtain ⟨b436, bb436, kb436, rfl, N436q, u436_0, u436_1, K436, u436_3, u436_4, u436_5, u436_6⟩ := hQ436
 have N436 := Fr.app N434 N436q
 have G_b436 := Nat.le_trans Z0 u436_0
 have KK436 := (Keep.refl h0 []).trans K436 all0
 have ZN436 := Nat.le_trans Z0 K436.1
 have OL436 := P2.keep K436 all0
 refine c_sh 44 [.ref b436] rfl rfl <| c_goto X436 hx hby 57 d16_44 (by decide) ?_
 exact c_retA X436 hx hby hlk hret d16_57 rfl ⟨rfl, rfl⟩ (by decide) rfl ⟨b436, bb436, kb436, rfl, N436, (Nat.le_trans (Keep.refl h0 []).1 u436_0), u436_1, KK436, u436_3, u436_4, u436_5, u436_6⟩
def QSU3_2 (Z : State) (a1 : Addr) (w0 : Int32) (f0 : Value) (v1 : Addr) (k1 : ClassId) (y0 y1 y2 : Int32) (h0 : Heap) (n0 : Nat) (v : Option Value) (h : Heap) (L : List Loc) : Prop := ∃ (b : Addr), ∃ (bb : Addr), ∃ (kb : ClassId), v = some (.ref b) ∧ Fr n0 L ∧ h0.size ≤ b ∧ n0 ≤ b ∧ Keep h0 h [] ∧ eS Z h b ∧ fC Z h b ∧ fV Z h b bb ∧ vB Z h bb kb 1 [.int y2]
theorem rmSU3_2 {l : Launch} {Z : State} {a0 : Array Value} (hw : HW Z a0) (a1 : Addr) (w0 : Int32) (f0 : Value) (v1 : Addr) (k1 : ClassId) (y0 y1 y2 : Int32) (h0 : Heap) (n0 : Nat) (Z0 : n0 ≤ h0.size) (P0 : sCS Z w0) (P1 : sPF Z f0) (P2 : Old Z n0 h0) (P3 : eS Z h0 a1) (P4 : fC Z h0 a1) (P5 : fV Z h0 a1 v1) (P6 : vB Z h0 v1 k1 3 [.int y0, .int y1, .int y2]) (hw0 : ¬ w0 = 0) (hf : f0.isRef = true) : own_M l Z ⟨"java/lang/String", "substring", "(I)Ljava/lang/String;"⟩ jdk_42_method_91_code 2 (some (.object "java/lang/String")) (rmk 5 2 5 102) #[.ref a1, .int 2] h0 (QSU3_2 Z a1 w0 f0 v1 k1 y0 y1 y2 h0 n0) := by
 refine own_body rfl (plainFor_of_name pn_15) ?_
 intro p e s m below meth c s₁ hx hby hml hown hnm hlk hret X0 e0 hZ
 have N0 := Fr.nil n0
 show Go _ p e below s _ _ _ (s₁.setTop (mkF m 0 #[rv a1, iv 2] []))
 refine c_aloadN X0 hx hby d15_0 rfl rfl <| c_iloadN X0 hx hby d15_1 rfl <| c_aloadN X0 hx hby d15_2 rfl rfl <| c_callV X0 hx hby hZ hown hml (gw hw 50 rfl) (gw hw 51 rfl) (gw hw 53 rfl) (gw hw 52 rfl) (gw hw 54 rfl) (gw hw 4 rfl) P3 e0 (rm8 hw a1 w0 v1 k1 (3 : Int32) [(.int y0), (.int y1), (.int y2)] h0 n0 Z0 P0 P2 P3 P4 P5 P6 hw0) pd_3 rfl d15_3 [.int 2, .ref a1] rfl 2 (by decide) rfl rfl fun o439 T439 L439 X439 hQ439 => ?_
 obtain ⟨rfl, N439q, e439⟩ := hQ439
 have N439 := Fr.app N0 N439q
 refine c_sh 6 [.int 3, .int 2, .ref a1] rfl rfl <| c_callV X439 hx hby hZ hown hml (gw hw 87 rfl) (gw hw 88 rfl) (gw hw 90 rfl) (gw hw 89 rfl) (gw hw 91 rfl) (gw hw 4 rfl) P3 e439 (rmSB3_2 hw a1 w0 f0 v1 k1 y0 y1 y2 h0 n0 Z0 P0 P1 P2 P3 P4 P5 P6 hw0 hf) pd_7 rfl d15_6 [] rfl 0 (by decide) rfl rfl fun o440 T440 L440 X440 hQ440 => ?_
 obtain ⟨b440, bb440, kb440, rfl, N440q, u440_0, u440_1, K440, u440_3, u440_4, u440_5, u440_6⟩ := hQ440
 have N440 := Fr.app N439 N440q
 have G_b440 := Nat.le_trans Z0 u440_0
 have KK440 := (Keep.refl h0 []).trans K440 all0
 have ZN440 := Nat.le_trans Z0 K440.1
 have OL440 := P2.keep K440 all0
 refine c_sh 9 [.ref b440] rfl rfl ?_
 exact c_retA X440 hx hby hlk hret d15_9 rfl ⟨rfl, rfl⟩ (by decide) rfl ⟨b440, bb440, kb440, rfl, N440, (Nat.le_trans (Keep.refl h0 []).1 u440_0), u440_1, KK440, u440_3, u440_4, u440_5, u440_6⟩
def QMN3 (Z : State)  (h0 : Heap) (n0 : Nat) (v : Option Value) (h : Heap) (L : List Loc) : Prop := v = some (.int (3 : Int32)) ∧ Fr n0 L ∧ h = h0
theorem rmMN3 {l : Launch} {Z : State} {a0 : Array Value} (hw : HW Z a0)  (h0 : Heap) (n0 : Nat) (Z0 : n0 ≤ h0.size)  : own_M l Z ⟨"java/lang/Math", "min", "(II)I"⟩ jdk_29_method_69_code 2 (some .int) (rmk 0 0 0 0) #[.int 3, .int 3] h0 (QMN3 Z  h0 n0) := by
 refine own_body rfl (Jvm.Free.JP.mathPlain rfl (by decide +kernel)) ?_
 intro p e s m below meth c s₁ hx hby hml hown hnm hlk hret X0 e0 hZ
 have N0 := Fr.nil n0
 show Go _ p e below s _ _ _ (s₁.setTop (mkF m 0 #[iv 3, iv 3] []))
 refine c_iloadN X0 hx hby d14_0 rfl <| c_iloadN X0 hx hby d14_1 rfl <| c_icmpNo X0 hx hby d14_2 (by decide) <| c_iloadN X0 hx hby d14_5 rfl <| c_goto X0 hx hby 10 d14_6 (by decide) ?_
 refine c_retI X0 hx hby hlk hret d14_10 rfl (by simp) (by decide) e0 ⟨rfl, N0, rfl⟩
def QLL4_m1 (Z : State) (v1 : Addr) (k1 : ClassId) (y0 y1 y2 y3 : Int32) (h0 : Heap) (n0 : Nat) (v : Option Value) (h : Heap) (L : List Loc) : Prop := v = some (.int (-1 : Int32)) ∧ Fr n0 L ∧ h = h0
theorem rmLL4_m1 {l : Launch} {Z : State} {a0 : Array Value} (hw : HW Z a0) (v1 : Addr) (k1 : ClassId) (y0 y1 y2 y3 : Int32) (h0 : Heap) (n0 : Nat) (Z0 : n0 ≤ h0.size) (P0 : vB Z h0 v1 k1 4 [.int y0, .int y1, .int y2, .int y3]) (hy0 : ¬ y0 = (46 : Int32)) (hy1 : ¬ y1 = (46 : Int32)) (hy2 : ¬ y2 = (46 : Int32)) (hy3 : ¬ y3 = (46 : Int32)) : own_M l Z ⟨"java/lang/StringLatin1", "lastIndexOf", "([BII)I"⟩ jdk_43_method_27_code 4 (some .int) (rmk 1 0 0 13) #[.ref v1, .int 46, .int 3] h0 (QLL4_m1 Z v1 k1 y0 y1 y2 y3 h0 n0) := by
 refine own_body rfl (plainFor_of_name pn_12) ?_
 intro p e s m below meth c s₁ hx hby hml hown hnm hlk hret X0 e0 hZ
 have N0 := Fr.nil n0
 show Go _ p e below s _ _ _ (s₁.setTop (mkF m 0 #[rv v1, iv 46, iv 3, .unset] []))
 refine c_iloadN X0 hx hby d12_0 rfl <| c_callS X0 hx hby hZ hown hml (gw hw 75 rfl) (gw hw 76 rfl) (gw hw 73 rfl) (gw hw 77 rfl) e0 (rmC46 hw  h0 n0 Z0 ) pd_8 rfl d12_1 [] rfl 0 (by decide) rfl rfl fun o443 T443 L443 X443 hQ443 => ?_
 obtain ⟨rfl, N443q, e443⟩ := hQ443
 have N443 := Fr.app N0 N443q
 refine c_sh 4 [.int 1] rfl rfl <| c_ifYes X443 hx hby 9 d12_4 (by decide) (by decide) <| c_iloadN X443 hx hby d12_9 rfl <| c_aloadN X443 hx hby d12_10 rfl rfl <| c_alen X443 hx hby hZ e443 P0 d12_11 <| c_iconst X443 hx hby 1 d12_12 rfl <| c_isub X443 hx hby d12_13 <| c_sh 14 [.int 3, .int 3] rfl rfl <| c_callS X443 hx hby hZ hown hml (gw hw 78 rfl) (gw hw 79 rfl) (gw hw 80 rfl) (gw hw 81 rfl) e443 (rmMN3 hw  h0 n0 Z0 ) pd_9 rfl d12_14 [] rfl 0 (by decide) rfl rfl fun o444 T444 L444 X444 hQ444 => ?_
 obtain ⟨rfl, N444q, e444⟩ := hQ444
 have N444 := Fr.app N443 N444q
 refine c_sh 17 [.int 3] rfl rfl <| c_istoreN X444 hx hby _ d12_17 rfl <| c_iloadN X444 hx hby d12_18 rfl <| c_ifNo X444 hx hby d12_19 (by decide) <| c_aloadN X444 hx hby d12_22 rfl rfl <| c_iloadN X444 hx hby d12_23 rfl <| c_bal X444 hx hby hZ e444 P0 (by decide) (.int y3) rfl d12_24 <| c_iloadN X444 hx hby d12_25 rfl <| c_i2b X444 hx hby d12_26 <| c_sh 27 [.int 46, .int y3] rfl rfl <| c_icmpYes X444 hx hby 32 d12_27 (feq hy3).2 (by decide) <| c_iinc X444 hx hby #[rv v1, iv 46, iv 3, iv 2] d12_32 rfl rfl <| c_goto X444 hx hby 18 d12_35 (by decide) <| c_iloadN X444 hx hby d12_18 rfl <| c_ifNo X444 hx hby d12_19 (by decide) <| c_aloadN X444 hx hby d12_22 rfl rfl <| c_iloadN X444 hx hby d12_23 rfl <| c_bal X444 hx hby hZ e444 P0 (by decide) (.int y2) rfl d12_24 <| c_iloadN X444 hx hby d12_25 rfl <| c_i2b X444 hx hby d12_26 <| c_sh 27 [.int 46, .int y2] rfl rfl <| c_icmpYes X444 hx hby 32 d12_27 (feq hy2).2 (by decide) <| c_iinc X444 hx hby #[rv v1, iv 46, iv 3, iv 1] d12_32 rfl rfl <| c_goto X444 hx hby 18 d12_35 (by decide) <| c_iloadN X444 hx hby d12_18 rfl <| c_ifNo X444 hx hby d12_19 (by decide) <| c_aloadN X444 hx hby d12_22 rfl rfl <| c_iloadN X444 hx hby d12_23 rfl <| c_bal X444 hx hby hZ e444 P0 (by decide) (.int y1) rfl d12_24 <| c_iloadN X444 hx hby d12_25 rfl <| c_i2b X444 hx hby d12_26 <| c_sh 27 [.int 46, .int y1] rfl rfl <| c_icmpYes X444 hx hby 32 d12_27 (feq hy1).2 (by decide) <| c_iinc X444 hx hby #[rv v1, iv 46, iv 3, iv 0] d12_32 rfl rfl <| c_goto X444 hx hby 18 d12_35 (by decide) <| c_iloadN X444 hx hby d12_18 rfl <| c_ifNo X444 hx hby d12_19 (by decide) <| c_aloadN X444 hx hby d12_22 rfl rfl <| c_iloadN X444 hx hby d12_23 rfl <| c_bal X444 hx hby hZ e444 P0 (by decide) (.int y0) rfl d12_24 <| c_iloadN X444 hx hby d12_25 rfl <| c_i2b X444 hx hby d12_26 <| c_sh 27 [.int 46, .int y0] rfl rfl <| c_icmpYes X444 hx hby 32 d12_27 (feq hy0).2 (by decide) <| c_iinc X444 hx hby #[rv v1, iv 46, iv 3, iv (-1)] d12_32 rfl rfl <| c_goto X444 hx hby 18 d12_35 (by decide) <| c_iloadN X444 hx hby d12_18 rfl <| c_ifYes X444 hx hby 38 d12_19 (by decide) (by decide) <| c_iconst X444 hx hby (-1) d12_38 rfl ?_
 refine c_retI X444 hx hby hlk hret d12_39 rfl (by simp) (by decide) e444 ⟨rfl, N444, rfl⟩
def QLI4_m1 (Z : State) (a1 : Addr) (w0 : Int32) (v1 : Addr) (k1 : ClassId) (y0 y1 y2 y3 : Int32) (h0 : Heap) (n0 : Nat) (v : Option Value) (h : Heap) (L : List Loc) : Prop := v = some (.int (-1 : Int32)) ∧ Fr n0 L ∧ h = h0
theorem rmLI4_m1 {l : Launch} {Z : State} {a0 : Array Value} (hw : HW Z a0) (a1 : Addr) (w0 : Int32) (v1 : Addr) (k1 : ClassId) (y0 y1 y2 y3 : Int32) (h0 : Heap) (n0 : Nat) (Z0 : n0 ≤ h0.size) (P0 : sCS Z w0) (P1 : Old Z n0 h0) (P2 : eS Z h0 a1) (P3 : fC Z h0 a1) (P4 : fV Z h0 a1 v1) (P5 : vB Z h0 v1 k1 4 [.int y0, .int y1, .int y2, .int y3]) (hw0 : ¬ w0 = 0) (hy0 : ¬ y0 = (46 : Int32)) (hy1 : ¬ y1 = (46 : Int32)) (hy2 : ¬ y2 = (46 : Int32)) (hy3 : ¬ y3 = (46 : Int32)) : own_M l Z ⟨"java/lang/String", "lastIndexOf", "(II)I"⟩ jdk_42_method_83_code 3 (some .int) (rmk 2 0 0 28) #[.ref a1, .int 46, .int 3] h0 (QLI4_m1 Z a1 w0 v1 k1 y0 y1 y2 y3 h0 n0) := by
 refine own_body rfl (plainFor_of_name pn_10) ?_
 intro p e s m below meth c s₁ hx hby hml hown hnm hlk hret X0 e0 hZ
 have N0 := Fr.nil n0
 show Go _ p e below s _ _ _ (s₁.setTop (mkF m 0 #[rv a1, iv 46, iv 3] []))
 refine c_aloadN X0 hx hby d10_0 rfl rfl <| c_callV X0 hx hby hZ hown hml (gw hw 66 rfl) (gw hw 67 rfl) (gw hw 69 rfl) (gw hw 68 rfl) (gw hw 70 rfl) (gw hw 4 rfl) P2 e0 (rm11 hw a1 w0 h0 n0 Z0 P0 P1 P3 hw0) pd_5 rfl d10_1 [] rfl 0 (by decide) rfl rfl fun o448 T448 L448 X448 hQ448 => ?_
 obtain ⟨rfl, N448q, e448⟩ := hQ448
 have N448 := Fr.app N0 N448q
 refine c_sh 4 [.int 1] rfl rfl <| c_ifNo X448 hx hby d10_4 (by decide) <| c_aloadN X448 hx hby d10_7 rfl rfl <| c_getf X448 hx hby hZ hown (gw hw 21 rfl) Via.refl e448 P4 d10_8 fun T449 X449 e449 => ?_
 refine c_sh 11 [.ref v1] rfl rfl <| c_iloadN X449 hx hby d10_11 rfl <| c_iloadN X449 hx hby d10_12 rfl <| c_callS X449 hx hby hZ hown hml (gw hw 71 rfl) (gw hw 72 rfl) (gw hw 73 rfl) (gw hw 74 rfl) e449 (rmLL4_m1 hw v1 k1 y0 y1 y2 y3 h0 n0 Z0 P5 hy0 hy1 hy2 hy3) pd_10 rfl d10_13 [] rfl 0 (by decide) rfl rfl fun o450 T450 L450 X450 hQ450 => ?_
 obtain ⟨rfl, N450q, e450⟩ := hQ450
 have N450 := Fr.app N448 N450q
 refine c_sh 16 [.int (-1)] rfl rfl <| c_goto X450 hx hby 28 d10_16 (by decide) ?_
 refine c_retI X450 hx hby hlk hret d10_28 rfl (by simp) (by decide) e450 ⟨rfl, N450, rfl⟩
def QLO4_m1 (Z : State) (a1 : Addr) (w0 : Int32) (v1 : Addr) (k1 : ClassId) (y0 y1 y2 y3 : Int32) (h0 : Heap) (n0 : Nat) (v : Option Value) (h : Heap) (L : List Loc) : Prop := v = some (.int (-1 : Int32)) ∧ Fr n0 L ∧ h = h0
theorem rmLO4_m1 {l : Launch} {Z : State} {a0 : Array Value} (hw : HW Z a0) (a1 : Addr) (w0 : Int32) (v1 : Addr) (k1 : ClassId) (y0 y1 y2 y3 : Int32) (h0 : Heap) (n0 : Nat) (Z0 : n0 ≤ h0.size) (P0 : sCS Z w0) (P1 : Old Z n0 h0) (P2 : eS Z h0 a1) (P3 : fC Z h0 a1) (P4 : fV Z h0 a1 v1) (P5 : vB Z h0 v1 k1 4 [.int y0, .int y1, .int y2, .int y3]) (hw0 : ¬ w0 = 0) (hy0 : ¬ y0 = (46 : Int32)) (hy1 : ¬ y1 = (46 : Int32)) (hy2 : ¬ y2 = (46 : Int32)) (hy3 : ¬ y3 = (46 : Int32)) : own_M l Z ⟨"java/lang/String", "lastIndexOf", "(I)I"⟩ jdk_42_method_82_code 2 (some .int) (rmk 3 0 0 42) #[.ref a1, .int 46] h0 (QLO4_m1 Z a1 w0 v1 k1 y0 y1 y2 y3 h0 n0) := by
 refine own_body rfl (plainFor_of_name pn_7) ?_
 intro p e s m below meth c s₁ hx hby hml hown hnm hlk hret X0 e0 hZ
 have N0 := Fr.nil n0
 show Go _ p e below s _ _ _ (s₁.setTop (mkF m 0 #[rv a1, iv 46] []))
 refine c_aloadN X0 hx hby d7_0 rfl rfl <| c_iloadN X0 hx hby d7_1 rfl <| c_aloadN X0 hx hby d7_2 rfl rfl <| c_callV X0 hx hby hZ hown hml (gw hw 50 rfl) (gw hw 51 rfl) (gw hw 53 rfl) (gw hw 52 rfl) (gw hw 54 rfl) (gw hw 4 rfl) P2 e0 (rm8 hw a1 w0 v1 k1 (4 : Int32) [(.int y0), (.int y1), (.int y2), (.int y3)] h0 n0 Z0 P0 P1 P2 P3 P4 P5 hw0) pd_3 rfl d7_3 [.int 46, .ref a1] rfl 2 (by decide) rfl rfl fun o453 T453 L453 X453 hQ453 => ?_
 obtain ⟨rfl, N453q, e453⟩ := hQ453
 have N453 := Fr.app N0 N453q
 refine c_sh 6 [.int 4, .int 46, .ref a1] rfl rfl <| c_iconst X453 hx hby 1 d7_6 rfl <| c_isub X453 hx hby d7_7 <| c_sh 8 [.int 3, .int 46, .ref a1] rfl rfl <| c_callV X453 hx hby hZ hown hml (gw hw 61 rfl) (gw hw 62 rfl) (gw hw 64 rfl) (gw hw 63 rfl) (gw hw 65 rfl) (gw hw 4 rfl) P2 e453 (rmLI4_m1 hw a1 w0 v1 k1 y0 y1 y2 y3 h0 n0 Z0 P0 P1 P2 P3 P4 P5 hw0 hy0 hy1 hy2 hy3) pd_9 rfl d7_8 [] rfl 0 (by decide) rfl rfl fun o454 T454 L454 X454 hQ454 => ?_
 obtain ⟨rfl, N454q, e454⟩ := hQ454
 have N454 := Fr.app N453 N454q
 refine c_sh 11 [.int (-1)] rfl rfl ?_
 refine c_retI X454 hx hby hlk hret d7_11 rfl (by simp) (by decide) e454 ⟨rfl, N454, rfl⟩
def QLL4_0 (Z : State) (v1 : Addr) (k1 : ClassId) (y0 y1 y2 y3 : Int32) (h0 : Heap) (n0 : Nat) (v : Option Value) (h : Heap) (L : List Loc) : Prop := v = some (.int (0 : Int32)) ∧ Fr n0 L ∧ h = h0
theorem rmLL4_0 {l : Launch} {Z : State} {a0 : Array Value} (hw : HW Z a0) (v1 : Addr) (k1 : ClassId) (y0 y1 y2 y3 : Int32) (h0 : Heap) (n0 : Nat) (Z0 : n0 ≤ h0.size) (P0 : vB Z h0 v1 k1 4 [.int y0, .int y1, .int y2, .int y3]) (hy0 : y0 = (46 : Int32)) (hy1 : ¬ y1 = (46 : Int32)) (hy2 : ¬ y2 = (46 : Int32)) (hy3 : ¬ y3 = (46 : Int32)) : own_M l Z ⟨"java/lang/StringLatin1", "lastIndexOf", "([BII)I"⟩ jdk_43_method_27_code 4 (some .int) (rmk 1 0 0 13) #[.ref v1, .int 46, .int 3] h0 (QLL4_0 Z v1 k1 y0 y1 y2 y3 h0 n0) := by
 refine own_body rfl (plainFor_of_name pn_12) ?_
 intro p e s m below meth c s₁ hx hby hml hown hnm hlk hret X0 e0 hZ
 have N0 := Fr.nil n0
 show Go _ p e below s _ _ _ (s₁.setTop (mkF m 0 #[rv v1, iv 46, iv 3, .unset] []))
 refine c_iloadN X0 hx hby d12_0 rfl <| c_callS X0 hx hby hZ hown hml (gw hw 75 rfl) (gw hw 76 rfl) (gw hw 73 rfl) (gw hw 77 rfl) e0 (rmC46 hw  h0 n0 Z0 ) pd_8 rfl d12_1 [] rfl 0 (by decide) rfl rfl fun o457 T457 L457 X457 hQ457 => ?_
 obtain ⟨rfl, N457q, e457⟩ := hQ457
 have N457 := Fr.app N0 N457q
 refine c_sh 4 [.int 1] rfl rfl <| c_ifYes X457 hx hby 9 d12_4 (by decide) (by decide) <| c_iloadN X457 hx hby d12_9 rfl <| c_aloadN X457 hx hby d12_10 rfl rfl <| c_alen X457 hx hby hZ e457 P0 d12_11 <| c_iconst X457 hx hby 1 d12_12 rfl <| c_isub X457 hx hby d12_13 <| c_sh 14 [.int 3, .int 3] rfl rfl <| c_callS X457 hx hby hZ hown hml (gw hw 78 rfl) (gw hw 79 rfl) (gw hw 80 rfl) (gw hw 81 rfl) e457 (rmMN3 hw  h0 n0 Z0 ) pd_9 rfl d12_14 [] rfl 0 (by decide) rfl rfl fun o458 T458 L458 X458 hQ458 => ?_
 obtain ⟨rfl, N458q, e458⟩ := hQ458
 have N458 := Fr.app N457 N458q
 refine c_sh 17 [.int 3] rfl rfl <| c_istoreN X458 hx hby _ d12_17 rfl <| c_iloadN X458 hx hby d12_18 rfl <| c_ifNo X458 hx hby d12_19 (by decide) <| c_aloadN X458 hx hby d12_22 rfl rfl <| c_iloadN X458 hx hby d12_23 rfl <| c_bal X458 hx hby hZ e458 P0 (by decide) (.int y3) rfl d12_24 <| c_iloadN X458 hx hby d12_25 rfl <| c_i2b X458 hx hby d12_26 <| c_sh 27 [.int 46, .int y3] rfl rfl <| c_icmpYes X458 hx hby 32 d12_27 (feq hy3).2 (by decide) <| c_iinc X458 hx hby #[rv v1, iv 46, iv 3, iv 2] d12_32 rfl rfl <| c_goto X458 hx hby 18 d12_35 (by decide) <| c_iloadN X458 hx hby d12_18 rfl <| c_ifNo X458 hx hby d12_19 (by decide) <| c_aloadN X458 hx hby d12_22 rfl rfl <| c_iloadN X458 hx hby d12_23 rfl <| c_bal X458 hx hby hZ e458 P0 (by decide) (.int y2) rfl d12_24 <| c_iloadN X458 hx hby d12_25 rfl <| c_i2b X458 hx hby d12_26 <| c_sh 27 [.int 46, .int y2] rfl rfl <| c_icmpYes X458 hx hby 32 d12_27 (feq hy2).2 (by decide) <| c_iinc X458 hx hby #[rv v1, iv 46, iv 3, iv 1] d12_32 rfl rfl <| c_goto X458 hx hby 18 d12_35 (by decide) <| c_iloadN X458 hx hby d12_18 rfl <| c_ifNo X458 hx hby d12_19 (by decide) <| c_aloadN X458 hx hby d12_22 rfl rfl <| c_iloadN X458 hx hby d12_23 rfl <| c_bal X458 hx hby hZ e458 P0 (by decide) (.int y1) rfl d12_24 <| c_iloadN X458 hx hby d12_25 rfl <| c_i2b X458 hx hby d12_26 <| c_sh 27 [.int 46, .int y1] rfl rfl <| c_icmpYes X458 hx hby 32 d12_27 (feq hy1).2 (by decide) <| c_iinc X458 hx hby #[rv v1, iv 46, iv 3, iv 0] d12_32 rfl rfl <| c_goto X458 hx hby 18 d12_35 (by decide) <| c_iloadN X458 hx hby d12_18 rfl <| c_ifNo X458 hx hby d12_19 (by decide) <| c_aloadN X458 hx hby d12_22 rfl rfl <| c_iloadN X458 hx hby d12_23 rfl <| c_bal X458 hx hby hZ e458 P0 (by decide) (.int y0) rfl d12_24 <| c_iloadN X458 hx hby d12_25 rfl <| c_i2b X458 hx hby d12_26 <| c_sh 27 [.int 46, .int y0] rfl rfl <| c_icmpNo X458 hx hby d12_27 (teq hy0).2 <| c_iloadN X458 hx hby d12_30 rfl ?_
 refine c_retI X458 hx hby hlk hret d12_31 rfl (by simp) (by decide) e458 ⟨rfl, N458, rfl⟩
def QLI4_0 (Z : State) (a1 : Addr) (w0 : Int32) (v1 : Addr) (k1 : ClassId) (y0 y1 y2 y3 : Int32) (h0 : Heap) (n0 : Nat) (v : Option Value) (h : Heap) (L : List Loc) : Prop := v = some (.int (0 : Int32)) ∧ Fr n0 L ∧ h = h0
theorem rmLI4_0 {l : Launch} {Z : State} {a0 : Array Value} (hw : HW Z a0) (a1 : Addr) (w0 : Int32) (v1 : Addr) (k1 : ClassId) (y0 y1 y2 y3 : Int32) (h0 : Heap) (n0 : Nat) (Z0 : n0 ≤ h0.size) (P0 : sCS Z w0) (P1 : Old Z n0 h0) (P2 : eS Z h0 a1) (P3 : fC Z h0 a1) (P4 : fV Z h0 a1 v1) (P5 : vB Z h0 v1 k1 4 [.int y0, .int y1, .int y2, .int y3]) (hw0 : ¬ w0 = 0) (hy0 : y0 = (46 : Int32)) (hy1 : ¬ y1 = (46 : Int32)) (hy2 : ¬ y2 = (46 : Int32)) (hy3 : ¬ y3 = (46 : Int32)) : own_M l Z ⟨"java/lang/String", "lastIndexOf", "(II)I"⟩ jdk_42_method_83_code 3 (some .int) (rmk 2 0 0 28) #[.ref a1, .int 46, .int 3] h0 (QLI4_0 Z a1 w0 v1 k1 y0 y1 y2 y3 h0 n0) := by
 refine own_body rfl (plainFor_of_name pn_10) ?_
 intro p e s m below meth c s₁ hx hby hml hown hnm hlk hret X0 e0 hZ
 have N0 := Fr.nil n0
 show Go _ p e below s _ _ _ (s₁.setTop (mkF m 0 #[rv a1, iv 46, iv 3] []))
 refine c_aloadN X0 hx hby d10_0 rfl rfl <| c_callV X0 hx hby hZ hown hml (gw hw 66 rfl) (gw hw 67 rfl) (gw hw 69 rfl) (gw hw 68 rfl) (gw hw 70 rfl) (gw hw 4 rfl) P2 e0 (rm11 hw a1 w0 h0 n0 Z0 P0 P1 P3 hw0) pd_5 rfl d10_1 [] rfl 0 (by decide) rfl rfl fun o462 T462 L462 X462 hQ462 => ?_
 obtain ⟨rfl, N462q, e462⟩ := hQ462
 have N462 := Fr.app N0 N462q
 refine c_sh 4 [.int 1] rfl rfl <| c_ifNo X462 hx hby d10_4 (by decide) <| c_aloadN X462 hx hby d10_7 rfl rfl <| c_getf X462 hx hby hZ hown (gw hw 21 rfl) Via.refl e462 P4 d10_8 fun T463 X463 e463 => ?_
 refine c_sh 11 [.ref v1] rfl rfl <| c_iloadN X463 hx hby d10_11 rfl <| c_iloadN X463 hx hby d10_12 rfl <| c_callS X463 hx hby hZ hown hml (gw hw 71 rfl) (gw hw 72 rfl) (gw hw 73 rfl) (gw hw 74 rfl) e463 (rmLL4_0 hw v1 k1 y0 y1 y2 y3 h0 n0 Z0 P5 hy0 hy1 hy2 hy3) pd_10 rfl d10_13 [] rfl 0 (by decide) rfl rfl fun o464 T464 L464 X464 hQ464 => ?_
 obtain ⟨rfl, N464q, e464⟩ := hQ464
 have N464 := Fr.app N462 N464q
 refine c_sh 16 [.int 0] rfl rfl <| c_goto X464 hx hby 28 d10_16 (by decide) ?_
 refine c_retI X464 hx hby hlk hret d10_28 rfl (by simp) (by decide) e464 ⟨rfl, N464, rfl⟩
def QLO4_0 (Z : State) (a1 : Addr) (w0 : Int32) (v1 : Addr) (k1 : ClassId) (y0 y1 y2 y3 : Int32) (h0 : Heap) (n0 : Nat) (v : Option Value) (h : Heap) (L : List Loc) : Prop := v = some (.int (0 : Int32)) ∧ Fr n0 L ∧ h = h0
theorem rmLO4_0 {l : Launch} {Z : State} {a0 : Array Value} (hw : HW Z a0) (a1 : Addr) (w0 : Int32) (v1 : Addr) (k1 : ClassId) (y0 y1 y2 y3 : Int32) (h0 : Heap) (n0 : Nat) (Z0 : n0 ≤ h0.size) (P0 : sCS Z w0) (P1 : Old Z n0 h0) (P2 : eS Z h0 a1) (P3 : fC Z h0 a1) (P4 : fV Z h0 a1 v1) (P5 : vB Z h0 v1 k1 4 [.int y0, .int y1, .int y2, .int y3]) (hw0 : ¬ w0 = 0) (hy0 : y0 = (46 : Int32)) (hy1 : ¬ y1 = (46 : Int32)) (hy2 : ¬ y2 = (46 : Int32)) (hy3 : ¬ y3 = (46 : Int32)) : own_M l Z ⟨"java/lang/String", "lastIndexOf", "(I)I"⟩ jdk_42_method_82_code 2 (some .int) (rmk 3 0 0 42) #[.ref a1, .int 46] h0 (QLO4_0 Z a1 w0 v1 k1 y0 y1 y2 y3 h0 n0) := by
 refine own_body rfl (plainFor_of_name pn_7) ?_
 intro p e s m below meth c s₁ hx hby hml hown hnm hlk hret X0 e0 hZ
 have N0 := Fr.nil n0
 show Go _ p e below s _ _ _ (s₁.setTop (mkF m 0 #[rv a1, iv 46] []))
 refine c_aloadN X0 hx hby d7_0 rfl rfl <| c_iloadN X0 hx hby d7_1 rfl <| c_aloadN X0 hx hby d7_2 rfl rfl <| c_callV X0 hx hby hZ hown hml (gw hw 50 rfl) (gw hw 51 rfl) (gw hw 53 rfl) (gw hw 52 rfl) (gw hw 54 rfl) (gw hw 4 rfl) P2 e0 (rm8 hw a1 w0 v1 k1 (4 : Int32) [(.int y0), (.int y1), (.int y2), (.int y3)] h0 n0 Z0 P0 P1 P2 P3 P4 P5 hw0) pd_3 rfl d7_3 [.int 46, .ref a1] rfl 2 (by decide) rfl rfl fun o467 T467 L467 X467 hQ467 => ?_
 obtain ⟨rfl, N467q, e467⟩ := hQ467
 have N467 := Fr.app N0 N467q
 refine c_sh 6 [.int 4, .int 46, .ref a1] rfl rfl <| c_iconst X467 hx hby 1 d7_6 rfl <| c_isub X467 hx hby d7_7 <| c_sh 8 [.int 3, .int 46, .ref a1] rfl rfl <| c_callV X467 hx hby hZ hown hml (gw hw 61 rfl) (gw hw 62 rfl) (gw hw 64 rfl) (gw hw 63 rfl) (gw hw 65 rfl) (gw hw 4 rfl) P2 e467 (rmLI4_0 hw a1 w0 v1 k1 y0 y1 y2 y3 h0 n0 Z0 P0 P1 P2 P3 P4 P5 hw0 hy0 hy1 hy2 hy3) pd_9 rfl d7_8 [] rfl 0 (by decide) rfl rfl fun o468 T468 L468 X468 hQ468 => ?_
 obtain ⟨rfl, N468q, e468⟩ := hQ468
 have N468 := Fr.app N467 N468q
 refine c_sh 11 [.int 0] rfl rfl ?_
 refine c_retI X468 hx hby hlk hret d7_11 rfl (by simp) (by decide) e468 ⟨rfl, N468, rfl⟩
def QLL4_1 (Z : State) (v1 : Addr) (k1 : ClassId) (y0 y1 y2 y3 : Int32) (h0 : Heap) (n0 : Nat) (v : Option Value) (h : Heap) (L : List Loc) : Prop := v = some (.int (1 : Int32)) ∧ Fr n0 L ∧ h = h0
theorem rmLL4_1 {l : Launch} {Z : State} {a0 : Array Value} (hw : HW Z a0) (v1 : Addr) (k1 : ClassId) (y0 y1 y2 y3 : Int32) (h0 : Heap) (n0 : Nat) (Z0 : n0 ≤ h0.size) (P0 : vB Z h0 v1 k1 4 [.int y0, .int y1, .int y2, .int y3]) (hy1 : y1 = (46 : Int32)) (hy2 : ¬ y2 = (46 : Int32)) (hy3 : ¬ y3 = (46 : Int32)) : own_M l Z ⟨"java/lang/StringLatin1", "lastIndexOf", "([BII)I"⟩ jdk_43_method_27_code 4 (some .int) (rmk 1 0 0 13) #[.ref v1, .int 46, .int 3] h0 (QLL4_1 Z v1 k1 y0 y1 y2 y3 h0 n0) := by
 refine own_body rfl (plainFor_of_name pn_12) ?_
 intro p e s m below meth c s₁ hx hby hml hown hnm hlk hret X0 e0 hZ
 have N0 := Fr.nil n0
 show Go _ p e below s _ _ _ (s₁.setTop (mkF m 0 #[rv v1, iv 46, iv 3, .unset] []))
 refine c_iloadN X0 hx hby d12_0 rfl <| c_callS X0 hx hby hZ hown hml (gw hw 75 rfl) (gw hw 76 rfl) (gw hw 73 rfl) (gw hw 77 rfl) e0 (rmC46 hw  h0 n0 Z0 ) pd_8 rfl d12_1 [] rfl 0 (by decide) rfl rfl fun o471 T471 L471 X471 hQ471 => ?_
 obtain ⟨rfl, N471q, e471⟩ := hQ471
 have N471 := Fr.app N0 N471q
 refine c_sh 4 [.int 1] rfl rfl <| c_ifYes X471 hx hby 9 d12_4 (by decide) (by decide) <| c_iloadN X471 hx hby d12_9 rfl <| c_aloadN X471 hx hby d12_10 rfl rfl <| c_alen X471 hx hby hZ e471 P0 d12_11 <| c_iconst X471 hx hby 1 d12_12 rfl <| c_isub X471 hx hby d12_13 <| c_sh 14 [.int 3, .int 3] rfl rfl <| c_callS X471 hx hby hZ hown hml (gw hw 78 rfl) (gw hw 79 rfl) (gw hw 80 rfl) (gw hw 81 rfl) e471 (rmMN3 hw  h0 n0 Z0 ) pd_9 rfl d12_14 [] rfl 0 (by decide) rfl rfl fun o472 T472 L472 X472 hQ472 => ?_
 obtain ⟨rfl, N472q, e472⟩ := hQ472
 have N472 := Fr.app N471 N472q
 refine c_sh 17 [.int 3] rfl rfl <| c_istoreN X472 hx hby _ d12_17 rfl <| c_iloadN X472 hx hby d12_18 rfl <| c_ifNo X472 hx hby d12_19 (by decide) <| c_aloadN X472 hx hby d12_22 rfl rfl <| c_iloadN X472 hx hby d12_23 rfl <| c_bal X472 hx hby hZ e472 P0 (by decide) (.int y3) rfl d12_24 <| c_iloadN X472 hx hby d12_25 rfl <| c_i2b X472 hx hby d12_26 <| c_sh 27 [.int 46, .int y3] rfl rfl <| c_icmpYes X472 hx hby 32 d12_27 (feq hy3).2 (by decide) <| c_iinc X472 hx hby #[rv v1, iv 46, iv 3, iv 2] d12_32 rfl rfl <| c_goto X472 hx hby 18 d12_35 (by decide) <| c_iloadN X472 hx hby d12_18 rfl <| c_ifNo X472 hx hby d12_19 (by decide) <| c_aloadN X472 hx hby d12_22 rfl rfl <| c_iloadN X472 hx hby d12_23 rfl <| c_bal X472 hx hby hZ e472 P0 (by decide) (.int y2) rfl d12_24 <| c_iloadN X472 hx hby d12_25 rfl <| c_i2b X472 hx hby d12_26 <| c_sh 27 [.int 46, .int y2] rfl rfl <| c_icmpYes X472 hx hby 32 d12_27 (feq hy2).2 (by decide) <| c_iinc X472 hx hby #[rv v1, iv 46, iv 3, iv 1] d12_32 rfl rfl <| c_goto X472 hx hby 18 d12_35 (by decide) <| c_iloadN X472 hx hby d12_18 rfl <| c_ifNo X472 hx hby d12_19 (by decide) <| c_aloadN X472 hx hby d12_22 rfl rfl <| c_iloadN X472 hx hby d12_23 rfl <| c_bal X472 hx hby hZ e472 P0 (by decide) (.int y1) rfl d12_24 <| c_iloadN X472 hx hby d12_25 rfl <| c_i2b X472 hx hby d12_26 <| c_sh 27 [.int 46, .int y1] rfl rfl <| c_icmpNo X472 hx hby d12_27 (teq hy1).2 <| c_iloadN X472 hx hby d12_30 rfl ?_
 refine c_retI X472 hx hby hlk hret d12_31 rfl (by simp) (by decide) e472 ⟨rfl, N472, rfl⟩
def QLI4_1 (Z : State) (a1 : Addr) (w0 : Int32) (v1 : Addr) (k1 : ClassId) (y0 y1 y2 y3 : Int32) (h0 : Heap) (n0 : Nat) (v : Option Value) (h : Heap) (L : List Loc) : Prop := v = some (.int (1 : Int32)) ∧ Fr n0 L ∧ h = h0
theorem rmLI4_1 {l : Launch} {Z : State} {a0 : Array Value} (hw : HW Z a0) (a1 : Addr) (w0 : Int32) (v1 : Addr) (k1 : ClassId) (y0 y1 y2 y3 : Int32) (h0 : Heap) (n0 : Nat) (Z0 : n0 ≤ h0.size) (P0 : sCS Z w0) (P1 : Old Z n0 h0) (P2 : eS Z h0 a1) (P3 : fC Z h0 a1) (P4 : fV Z h0 a1 v1) (P5 : vB Z h0 v1 k1 4 [.int y0, .int y1, .int y2, .int y3]) (hw0 : ¬ w0 = 0) (hy1 : y1 = (46 : Int32)) (hy2 : ¬ y2 = (46 : Int32)) (hy3 : ¬ y3 = (46 : Int32)) : own_M l Z ⟨"java/lang/String", "lastIndexOf", "(II)I"⟩ jdk_42_method_83_code 3 (some .int) (rmk 2 0 0 28) #[.ref a1, .int 46, .int 3] h0 (QLI4_1 Z a1 w0 v1 k1 y0 y1 y2 y3 h0 n0) := by
 refine own_body rfl (plainFor_of_name pn_10) ?_
 intro p e s m below meth c s₁ hx hby hml hown hnm hlk hret X0 e0 hZ
 have N0 := Fr.nil n0
 show Go _ p e below s _ _ _ (s₁.setTop (mkF m 0 #[rv a1, iv 46, iv 3] []))
 refine c_aloadN X0 hx hby d10_0 rfl rfl <| c_callV X0 hx hby hZ hown hml (gw hw 66 rfl) (gw hw 67 rfl) (gw hw 69 rfl) (gw hw 68 rfl) (gw hw 70 rfl) (gw hw 4 rfl) P2 e0 (rm11 hw a1 w0 h0 n0 Z0 P0 P1 P3 hw0) pd_5 rfl d10_1 [] rfl 0 (by decide) rfl rfl fun o476 T476 L476 X476 hQ476 => ?_
 obtain ⟨rfl, N476q, e476⟩ := hQ476
 have N476 := Fr.app N0 N476q
 refine c_sh 4 [.int 1] rfl rfl <| c_ifNo X476 hx hby d10_4 (by decide) <| c_aloadN X476 hx hby d10_7 rfl rfl <| c_getf X476 hx hby hZ hown (gw hw 21 rfl) Via.refl e476 P4 d10_8 fun T477 X477 e477 => ?_
 refine c_sh 11 [.ref v1] rfl rfl <| c_iloadN X477 hx hby d10_11 rfl <| c_iloadN X477 hx hby d10_12 rfl <| c_callS X477 hx hby hZ hown hml (gw hw 71 rfl) (gw hw 72 rfl) (gw hw 73 rfl) (gw hw 74 rfl) e477 (rmLL4_1 hw v1 k1 y0 y1 y2 y3 h0 n0 Z0 P5 hy1 hy2 hy3) pd_10 rfl d10_13 [] rfl 0 (by decide) rfl rfl fun o478 T478 L478 X478 hQ478 => ?_
 obtain ⟨rfl, N478q, e478⟩ := hQ478
 have N478 := Fr.app N476 N478q
 refine c_sh 16 [.int 1] rfl rfl <| c_goto X478 hx hby 28 d10_16 (by decide) ?_
 refine c_retI X478 hx hby hlk hret d10_28 rfl (by simp) (by decide) e478 ⟨rfl, N478, rfl⟩
def QLO4_1 (Z : State) (a1 : Addr) (w0 : Int32) (v1 : Addr) (k1 : ClassId) (y0 y1 y2 y3 : Int32) (h0 : Heap) (n0 : Nat) (v : Option Value) (h : Heap) (L : List Loc) : Prop := v = some (.int (1 : Int32)) ∧ Fr n0 L ∧ h = h0
theorem rmLO4_1 {l : Launch} {Z : State} {a0 : Array Value} (hw : HW Z a0) (a1 : Addr) (w0 : Int32) (v1 : Addr) (k1 : ClassId) (y0 y1 y2 y3 : Int32) (h0 : Heap) (n0 : Nat) (Z0 : n0 ≤ h0.size) (P0 : sCS Z w0) (P1 : Old Z n0 h0) (P2 : eS Z h0 a1) (P3 : fC Z h0 a1) (P4 : fV Z h0 a1 v1) (P5 : vB Z h0 v1 k1 4 [.int y0, .int y1, .int y2, .int y3]) (hw0 : ¬ w0 = 0) (hy1 : y1 = (46 : Int32)) (hy2 : ¬ y2 = (46 : Int32)) (hy3 : ¬ y3 = (46 : Int32)) : own_M l Z ⟨"java/lang/String", "lastIndexOf", "(I)I"⟩ jdk_42_method_82_code 2 (some .int) (rmk 3 0 0 42) #[.ref a1, .int 46] h0 (QLO4_1 Z a1 w0 v1 k1 y0 y1 y2 y3 h0 n0) := by
 refine own_body rfl (plainFor_of_name pn_7) ?_
 intro p e s m below meth c s₁ hx hby hml hown hnm hlk hret X0 e0 hZ
 have N0 := Fr.nil n0
 show Go _ p e below s _ _ _ (s₁.setTop (mkF m 0 #[rv a1, iv 46] []))
 refine c_aloadN X0 hx hby d7_0 rfl rfl <| c_iloadN X0 hx hby d7_1 rfl <| c_aloadN X0 hx hby d7_2 rfl rfl <| c_callV X0 hx hby hZ hown hml (gw hw 50 rfl) (gw hw 51 rfl) (gw hw 53 rfl) (gw hw 52 rfl) (gw hw 54 rfl) (gw hw 4 rfl) P2 e0 (rm8 hw a1 w0 v1 k1 (4 : Int32) [(.int y0), (.int y1), (.int y2), (.int y3)] h0 n0 Z0 P0 P1 P2 P3 P4 P5 hw0) pd_3 rfl d7_3 [.int 46, .ref a1] rfl 2 (by decide) rfl rfl fun o481 T481 L481 X481 hQ481 => ?_
 obtain ⟨rfl, N481q, e481⟩ := hQ481
 have N481 := Fr.app N0 N481q
 refine c_sh 6 [.int 4, .int 46, .ref a1] rfl rfl <| c_iconst X481 hx hby 1 d7_6 rfl <| c_isub X481 hx hby d7_7 <| c_sh 8 [.int 3, .int 46, .ref a1] rfl rfl <| c_callV X481 hx hby hZ hown hml (gw hw 61 rfl) (gw hw 62 rfl) (gw hw 64 rfl) (gw hw 63 rfl) (gw hw 65 rfl) (gw hw 4 rfl) P2 e481 (rmLI4_1 hw a1 w0 v1 k1 y0 y1 y2 y3 h0 n0 Z0 P0 P1 P2 P3 P4 P5 hw0 hy1 hy2 hy3) pd_9 rfl d7_8 [] rfl 0 (by decide) rfl rfl fun o482 T482 L482 X482 hQ482 => ?_
 obtain ⟨rfl, N482q, e482⟩ := hQ482
 have N482 := Fr.app N481 N482q
 refine c_sh 11 [.int 1] rfl rfl ?_
 refine c_retI X482 hx hby hlk hret d7_11 rfl (by simp) (by decide) e482 ⟨rfl, N482, rfl⟩
def QLL4_2 (Z : State) (v1 : Addr) (k1 : ClassId) (y0 y1 y2 y3 : Int32) (h0 : Heap) (n0 : Nat) (v : Option Value) (h : Heap) (L : List Loc) : Prop := v = some (.int (2 : Int32)) ∧ Fr n0 L ∧ h = h0
theorem rmLL4_2 {l : Launch} {Z : State} {a0 : Array Value} (hw : HW Z a0) (v1 : Addr) (k1 : ClassId) (y0 y1 y2 y3 : Int32) (h0 : Heap) (n0 : Nat) (Z0 : n0 ≤ h0.size) (P0 : vB Z h0 v1 k1 4 [.int y0, .int y1, .int y2, .int y3]) (hy2 : y2 = (46 : Int32)) (hy3 : ¬ y3 = (46 : Int32)) : own_M l Z ⟨"java/lang/StringLatin1", "lastIndexOf", "([BII)I"⟩ jdk_43_method_27_code 4 (some .int) (rmk 1 0 0 13) #[.ref v1, .int 46, .int 3] h0 (QLL4_2 Z v1 k1 y0 y1 y2 y3 h0 n0) := by
 refine own_body rfl (plainFor_of_name pn_12) ?_
 intro p e s m below meth c s₁ hx hby hml hown hnm hlk hret X0 e0 hZ
 have N0 := Fr.nil n0
 show Go _ p e below s _ _ _ (s₁.setTop (mkF m 0 #[rv v1, iv 46, iv 3, .unset] []))
 refine c_iloadN X0 hx hby d12_0 rfl <| c_callS X0 hx hby hZ hown hml (gw hw 75 rfl) (gw hw 76 rfl) (gw hw 73 rfl) (gw hw 77 rfl) e0 (rmC46 hw  h0 n0 Z0 ) pd_8 rfl d12_1 [] rfl 0 (by decide) rfl rfl fun o485 T485 L485 X485 hQ485 => ?_
 obtain ⟨rfl, N485q, e485⟩ := hQ485
 have N485 := Fr.app N0 N485q
 refine c_sh 4 [.int 1] rfl rfl <| c_ifYes X485 hx hby 9 d12_4 (by decide) (by decide) <| c_iloadN X485 hx hby d12_9 rfl <| c_aloadN X485 hx hby d12_10 rfl rfl <| c_alen X485 hx hby hZ e485 P0 d12_11 <| c_iconst X485 hx hby 1 d12_12 rfl <| c_isub X485 hx hby d12_13 <| c_sh 14 [.int 3, .int 3] rfl rfl <| c_callS X485 hx hby hZ hown hml (gw hw 78 rfl) (gw hw 79 rfl) (gw hw 80 rfl) (gw hw 81 rfl) e485 (rmMN3 hw  h0 n0 Z0 ) pd_9 rfl d12_14 [] rfl 0 (by decide) rfl rfl fun o486 T486 L486 X486 hQ486 => ?_
 obtain ⟨rfl, N486q, e486⟩ := hQ486
 have N486 := Fr.app N485 N486q
 refine c_sh 17 [.int 3] rfl rfl <| c_istoreN X486 hx hby _ d12_17 rfl <| c_iloadN X486 hx hby d12_18 rfl <| c_ifNo X486 hx hby d12_19 (by decide) <| c_aloadN X486 hx hby d12_22 rfl rfl <| c_iloadN X486 hx hby d12_23 rfl <| c_bal X486 hx hby hZ e486 P0 (by decide) (.int y3) rfl d12_24 <| c_iloadN X486 hx hby d12_25 rfl <| c_i2b X486 hx hby d12_26 <| c_sh 27 [.int 46, .int y3] rfl rfl <| c_icmpYes X486 hx hby 32 d12_27 (feq hy3).2 (by decide) <| c_iinc X486 hx hby #[rv v1, iv 46, iv 3, iv 2] d12_32 rfl rfl <| c_goto X486 hx hby 18 d12_35 (by decide) <| c_iloadN X486 hx hby d12_18 rfl <| c_ifNo X486 hx hby d12_19 (by decide) <| c_aloadN X486 hx hby d12_22 rfl rfl <| c_iloadN X486 hx hby d12_23 rfl <| c_bal X486 hx hby hZ e486 P0 (by decide) (.int y2) rfl d12_24 <| c_iloadN X486 hx hby d12_25 rfl <| c_i2b X486 hx hby d12_26 <| c_sh 27 [.int 46, .int y2] rfl rfl <| c_icmpNo X486 hx hby d12_27 (teq hy2).2 <| c_iloadN X486 hx hby d12_30 rfl ?_
 refine c_retI X486 hx hby hlk hret d12_31 rfl (by simp) (by decide) e486 ⟨rfl, N486, rfl⟩
def QLI4_2 (Z : State) (a1 : Addr) (w0 : Int32) (v1 : Addr) (k1 : ClassId) (y0 y1 y2 y3 : Int32) (h0 : Heap) (n0 : Nat) (v : Option Value) (h : Heap) (L : List Loc) : Prop := v = some (.int (2 : Int32)) ∧ Fr n0 L ∧ h = h0
theorem rmLI4_2 {l : Launch} {Z : State} {a0 : Array Value} (hw : HW Z a0) (a1 : Addr) (w0 : Int32) (v1 : Addr) (k1 : ClassId) (y0 y1 y2 y3 : Int32) (h0 : Heap) (n0 : Nat) (Z0 : n0 ≤ h0.size) (P0 : sCS Z w0) (P1 : Old Z n0 h0) (P2 : eS Z h0 a1) (P3 : fC Z h0 a1) (P4 : fV Z h0 a1 v1) (P5 : vB Z h0 v1 k1 4 [.int y0, .int y1, .int y2, .int y3]) (hw0 : ¬ w0 = 0) (hy2 : y2 = (46 : Int32)) (hy3 : ¬ y3 = (46 : Int32)) : own_M l Z ⟨"java/lang/String", "lastIndexOf", "(II)I"⟩ jdk_42_method_83_code 3 (some .int) (rmk 2 0 0 28) #[.ref a1, .int 46, .int 3] h0 (QLI4_2 Z a1 w0 v1 k1 y0 y1 y2 y3 h0 n0) := by
 refine own_body rfl (plainFor_of_name pn_10) ?_
 intro p e s m below meth c s₁ hx hby hml hown hnm hlk hret X0 e0 hZ
 have N0 := Fr.nil n0
 show Go _ p e below s _ _ _ (s₁.setTop (mkF m 0 #[rv a1, iv 46, iv 3] []))
 refine c_aloadN X0 hx hby d10_0 rfl rfl <| c_callV X0 hx hby hZ hown hml (gw hw 66 rfl) (gw hw 67 rfl) (gw hw 69 rfl) (gw hw 68 rfl) (gw hw 70 rfl) (gw hw 4 rfl) P2 e0 (rm11 hw a1 w0 h0 n0 Z0 P0 P1 P3 hw0) pd_5 rfl d10_1 [] rfl 0 (by decide) rfl rfl fun o490 T490 L490 X490 hQ490 => ?_
 obtain ⟨rfl, N490q, e490⟩ := hQ490
 have N490 := Fr.app N0 N490q
 refine c_sh 4 [.int 1] rfl rfl <| c_ifNo X490 hx hby d10_4 (by decide) <| c_aloadN X490 hx hby d10_7 rfl rfl <| c_getf X490 hx hby hZ hown (gw hw 21 rfl) Via.refl e490 P4 d10_8 fun T491 X491 e491 => ?_
 refine c_sh 11 [.ref v1] rfl rfl <| c_iloadN X491 hx hby d10_11 rfl <| c_iloadN X491 hx hby d10_12 rfl <| c_callS X491 hx hby hZ hown hml (gw hw 71 rfl) (gw hw 72 rfl) (gw hw 73 rfl) (gw hw 74 rfl) e491 (rmLL4_2 hw v1 k1 y0 y1 y2 y3 h0 n0 Z0 P5 hy2 hy3) pd_10 rfl d10_13 [] rfl 0 (by decide) rfl rfl fun o492 T492 L492 X492 hQ492 => ?_
 obtain ⟨rfl, N492q, e492⟩ := hQ492
 have N492 := Fr.app N490 N492q
 refine c_sh 16 [.int 2] rfl rfl <| c_goto X492 hx hby 28 d10_16 (by decide) ?_
 refine c_retI X492 hx hby hlk hret d10_28 rfl (by simp) (by decide) e492 ⟨rfl, N492, rfl⟩
def QLO4_2 (Z : State) (a1 : Addr) (w0 : Int32) (v1 : Addr) (k1 : ClassId) (y0 y1 y2 y3 : Int32) (h0 : Heap) (n0 : Nat) (v : Option Value) (h : Heap) (L : List Loc) : Prop := v = some (.int (2 : Int32)) ∧ Fr n0 L ∧ h = h0
theorem rmLO4_2 {l : Launch} {Z : State} {a0 : Array Value} (hw : HW Z a0) (a1 : Addr) (w0 : Int32) (v1 : Addr) (k1 : ClassId) (y0 y1 y2 y3 : Int32) (h0 : Heap) (n0 : Nat) (Z0 : n0 ≤ h0.size) (P0 : sCS Z w0) (P1 : Old Z n0 h0) (P2 : eS Z h0 a1) (P3 : fC Z h0 a1) (P4 : fV Z h0 a1 v1) (P5 : vB Z h0 v1 k1 4 [.int y0, .int y1, .int y2, .int y3]) (hw0 : ¬ w0 = 0) (hy2 : y2 = (46 : Int32)) (hy3 : ¬ y3 = (46 : Int32)) : own_M l Z ⟨"java/lang/String", "lastIndexOf", "(I)I"⟩ jdk_42_method_82_code 2 (some .int) (rmk 3 0 0 42) #[.ref a1, .int 46] h0 (QLO4_2 Z a1 w0 v1 k1 y0 y1 y2 y3 h0 n0) := by
 refine own_body rfl (plainFor_of_name pn_7) ?_
 intro p e s m below meth c s₁ hx hby hml hown hnm hlk hret X0 e0 hZ
 have N0 := Fr.nil n0
 show Go _ p e below s _ _ _ (s₁.setTop (mkF m 0 #[rv a1, iv 46] []))
 refine c_aloadN X0 hx hby d7_0 rfl rfl <| c_iloadN X0 hx hby d7_1 rfl <| c_aloadN X0 hx hby d7_2 rfl rfl <| c_callV X0 hx hby hZ hown hml (gw hw 50 rfl) (gw hw 51 rfl) (gw hw 53 rfl) (gw hw 52 rfl) (gw hw 54 rfl) (gw hw 4 rfl) P2 e0 (rm8 hw a1 w0 v1 k1 (4 : Int32) [(.int y0), (.int y1), (.int y2), (.int y3)] h0 n0 Z0 P0 P1 P2 P3 P4 P5 hw0) pd_3 rfl d7_3 [.int 46, .ref a1] rfl 2 (by decide) rfl rfl fun o495 T495 L495 X495 hQ495 => ?_
 obtain ⟨rfl, N495q, e495⟩ := hQ495
 have N495 := Fr.app N0 N495q
 refine c_sh 6 [.int 4, .int 46, .ref a1] rfl rfl <| c_iconst X495 hx hby 1 d7_6 rfl <| c_isub X495 hx hby d7_7 <| c_sh 8 [.int 3, .int 46, .ref a1] rfl rfl <| c_callV X495 hx hby hZ hown hml (gw hw 61 rfl) (gw hw 62 rfl) (gw hw 64 rfl) (gw hw 63 rfl) (gw hw 65 rfl) (gw hw 4 rfl) P2 e495 (rmLI4_2 hw a1 w0 v1 k1 y0 y1 y2 y3 h0 n0 Z0 P0 P1 P2 P3 P4 P5 hw0 hy2 hy3) pd_9 rfl d7_8 [] rfl 0 (by decide) rfl rfl fun o496 T496 L496 X496 hQ496 => ?_
 obtain ⟨rfl, N496q, e496⟩ := hQ496
 have N496 := Fr.app N495 N496q
 refine c_sh 11 [.int 2] rfl rfl ?_
 refine c_retI X496 hx hby hlk hret d7_11 rfl (by simp) (by decide) e496 ⟨rfl, N496, rfl⟩
def QLL4_3 (Z : State) (v1 : Addr) (k1 : ClassId) (y0 y1 y2 y3 : Int32) (h0 : Heap) (n0 : Nat) (v : Option Value) (h : Heap) (L : List Loc) : Prop := v = some (.int (3 : Int32)) ∧ Fr n0 L ∧ h = h0
theorem rmLL4_3 {l : Launch} {Z : State} {a0 : Array Value} (hw : HW Z a0) (v1 : Addr) (k1 : ClassId) (y0 y1 y2 y3 : Int32) (h0 : Heap) (n0 : Nat) (Z0 : n0 ≤ h0.size) (P0 : vB Z h0 v1 k1 4 [.int y0, .int y1, .int y2, .int y3]) (hy3 : y3 = (46 : Int32)) : own_M l Z ⟨"java/lang/StringLatin1", "lastIndexOf", "([BII)I"⟩ jdk_43_method_27_code 4 (some .int) (rmk 1 0 0 13) #[.ref v1, .int 46, .int 3] h0 (QLL4_3 Z v1 k1 y0 y1 y2 y3 h0 n0) := by
 refine own_body rfl (plainFor_of_name pn_12) ?_
 intro p e s m below meth c s₁ hx hby hml hown hnm hlk hret X0 e0 hZ
 have N0 := Fr.nil n0
 show Go _ p e below s _ _ _ (s₁.setTop (mkF m 0 #[rv v1, iv 46, iv 3, .unset] []))
 refine c_iloadN X0 hx hby d12_0 rfl <| c_callS X0 hx hby hZ hown hml (gw hw 75 rfl) (gw hw 76 rfl) (gw hw 73 rfl) (gw hw 77 rfl) e0 (rmC46 hw  h0 n0 Z0 ) pd_8 rfl d12_1 [] rfl 0 (by decide) rfl rfl fun o499 T499 L499 X499 hQ499 => ?_
 obtain ⟨rfl, N499q, e499⟩ := hQ499
 have N499 := Fr.app N0 N499q
 refine c_sh 4 [.int 1] rfl rfl <| c_ifYes X499 hx hby 9 d12_4 (by decide) (by decide) <| c_iloadN X499 hx hby d12_9 rfl <| c_aloadN X499 hx hby d12_10 rfl rfl <| c_alen X499 hx hby hZ e499 P0 d12_11 <| c_iconst X499 hx hby 1 d12_12 rfl <| c_isub X499 hx hby d12_13 <| c_sh 14 [.int 3, .int 3] rfl rfl <| c_callS X499 hx hby hZ hown hml (gw hw 78 rfl) (gw hw 79 rfl) (gw hw 80 rfl) (gw hw 81 rfl) e499 (rmMN3 hw  h0 n0 Z0 ) pd_9 rfl d12_14 [] rfl 0 (by decide) rfl rfl fun o500 T500 L500 X500 hQ500 => ?_
 obtain ⟨rfl, N500q, e500⟩ := hQ500
 have N500 := Fr.app N499 N500q
 refine c_sh 17 [.int 3] rfl rfl <| c_istoreN X500 hx hby _ d12_17 rfl <| c_iloadN X500 hx hby d12_18 rfl <| c_ifNo X500 hx hby d12_19 (by decide) <| c_aloadN X500 hx hby d12_22 rfl rfl <| c_iloadN X500 hx hby d12_23 rfl <| c_bal X500 hx hby hZ e500 P0 (by decide) (.int y3) rfl d12_24 <| c_iloadN X500 hx hby d12_25 rfl <| c_i2b X500 hx hby d12_26 <| c_sh 27 [.int 46, .int y3] rfl rfl <| c_icmpNo X500 hx hby d12_27 (teq hy3).2 <| c_iloadN X500 hx hby d12_30 rfl <| c_shL #[rv v1, iv 46, iv 3, iv 3] rfl ?_
 refine c_retI X500 hx hby hlk hret d12_31 rfl (by simp) (by decide) e500 ⟨rfl, N500, rfl⟩
def QLI4_3 (Z : State) (a1 : Addr) (w0 : Int32) (v1 : Addr) (k1 : ClassId) (y0 y1 y2 y3 : Int32) (h0 : Heap) (n0 : Nat) (v : Option Value) (h : Heap) (L : List Loc) : Prop := v = some (.int (3 : Int32)) ∧ Fr n0 L ∧ h = h0
theorem rmLI4_3 {l : Launch} {Z : State} {a0 : Array Value} (hw : HW Z a0) (a1 : Addr) (w0 : Int32) (v1 : Addr) (k1 : ClassId) (y0 y1 y2 y3 : Int32) (h0 : Heap) (n0 : Nat) (Z0 : n0 ≤ h0.size) (P0 : sCS Z w0) (P1 : Old Z n0 h0) (P2 : eS Z h0 a1) (P3 : fC Z h0 a1) (P4 : fV Z h0 a1 v1) (P5 : vB Z h0 v1 k1 4 [.int y0, .int y1, .int y2, .int y3]) (hw0 : ¬ w0 = 0) (hy3 : y3 = (46 : Int32)) : own_M l Z ⟨"java/lang/String", "lastIndexOf", "(II)I"⟩ jdk_42_method_83_code 3 (some .int) (rmk 2 0 0 28) #[.ref a1, .int 46, .int 3] h0 (QLI4_3 Z a1 w0 v1 k1 y0 y1 y2 y3 h0 n0) := by
 refine own_body rfl (plainFor_of_name pn_10) ?_
 intro p e s m below meth c s₁ hx hby hml hown hnm hlk hret X0 e0 hZ
 have N0 := Fr.nil n0
 show Go _ p e below s _ _ _ (s₁.setTop (mkF m 0 #[rv a1, iv 46, iv 3] []))
 refine c_aloadN X0 hx hby d10_0 rfl rfl <| c_callV X0 hx hby hZ hown hml (gw hw 66 rfl) (gw hw 67 rfl) (gw hw 69 rfl) (gw hw 68 rfl) (gw hw 70 rfl) (gw hw 4 rfl) P2 e0 (rm11 hw a1 w0 h0 n0 Z0 P0 P1 P3 hw0) pd_5 rfl d10_1 [] rfl 0 (by decide) rfl rfl fun o504 T504 L504 X504 hQ504 => ?_
 obtain ⟨rfl, N504q, e504⟩ := hQ504
 have N504 := Fr.app N0 N504q
 refine c_sh 4 [.int 1] rfl rfl <| c_ifNo X504 hx hby d10_4 (by decide) <| c_aloadN X504 hx hby d10_7 rfl rfl <| c_getf X504 hx hby hZ hown (gw hw 21 rfl) Via.refl e504 P4 d10_8 fun T505 X505 e505 => ?_
 refine c_sh 11 [.ref v1] rfl rfl <| c_iloadN X505 hx hby d10_11 rfl <| c_iloadN X505 hx hby d10_12 rfl <| c_callS X505 hx hby hZ hown hml (gw hw 71 rfl) (gw hw 72 rfl) (gw hw 73 rfl) (gw hw 74 rfl) e505 (rmLL4_3 hw v1 k1 y0 y1 y2 y3 h0 n0 Z0 P5 hy3) pd_10 rfl d10_13 [] rfl 0 (by decide) rfl rfl fun o506 T506 L506 X506 hQ506 => ?_
 obtain ⟨rfl, N506q, e506⟩ := hQ506
 have N506 := Fr.app N504 N506q
 refine c_sh 16 [.int 3] rfl rfl <| c_goto X506 hx hby 28 d10_16 (by decide) ?_
 refine c_retI X506 hx hby hlk hret d10_28 rfl (by simp) (by decide) e506 ⟨rfl, N506, rfl⟩
def QLO4_3 (Z : State) (a1 : Addr) (w0 : Int32) (v1 : Addr) (k1 : ClassId) (y0 y1 y2 y3 : Int32) (h0 : Heap) (n0 : Nat) (v : Option Value) (h : Heap) (L : List Loc) : Prop := v = some (.int (3 : Int32)) ∧ Fr n0 L ∧ h = h0
theorem rmLO4_3 {l : Launch} {Z : State} {a0 : Array Value} (hw : HW Z a0) (a1 : Addr) (w0 : Int32) (v1 : Addr) (k1 : ClassId) (y0 y1 y2 y3 : Int32) (h0 : Heap) (n0 : Nat) (Z0 : n0 ≤ h0.size) (P0 : sCS Z w0) (P1 : Old Z n0 h0) (P2 : eS Z h0 a1) (P3 : fC Z h0 a1) (P4 : fV Z h0 a1 v1) (P5 : vB Z h0 v1 k1 4 [.int y0, .int y1, .int y2, .int y3]) (hw0 : ¬ w0 = 0) (hy3 : y3 = (46 : Int32)) : own_M l Z ⟨"java/lang/String", "lastIndexOf", "(I)I"⟩ jdk_42_method_82_code 2 (some .int) (rmk 3 0 0 42) #[.ref a1, .int 46] h0 (QLO4_3 Z a1 w0 v1 k1 y0 y1 y2 y3 h0 n0) := by
 refine own_body rfl (plainFor_of_name pn_7) ?_
 intro p e s m below meth c s₁ hx hby hml hown hnm hlk hret X0 e0 hZ
 have N0 := Fr.nil n0
 show Go _ p e below s _ _ _ (s₁.setTop (mkF m 0 #[rv a1, iv 46] []))
 refine c_aloadN X0 hx hby d7_0 rfl rfl <| c_iloadN X0 hx hby d7_1 rfl <| c_aloadN X0 hx hby d7_2 rfl rfl <| c_callV X0 hx hby hZ hown hml (gw hw 50 rfl) (gw hw 51 rfl) (gw hw 53 rfl) (gw hw 52 rfl) (gw hw 54 rfl) (gw hw 4 rfl) P2 e0 (rm8 hw a1 w0 v1 k1 (4 : Int32) [(.int y0), (.int y1), (.int y2), (.int y3)] h0 n0 Z0 P0 P1 P2 P3 P4 P5 hw0) pd_3 rfl d7_3 [.int 46, .ref a1] rfl 2 (by decide) rfl rfl fun o509 T509 L509 X509 hQ509 => ?_
 obtain ⟨rfl, N509q, e509⟩ := hQ509
 have N509 := Fr.app N0 N509q
 refine c_sh 6 [.int 4, .int 46, .ref a1] rfl rfl <| c_iconst X509 hx hby 1 d7_6 rfl <| c_isub X509 hx hby d7_7 <| c_sh 8 [.int 3, .int 46, .ref a1] rfl rfl <| c_callV X509 hx hby hZ hown hml (gw hw 61 rfl) (gw hw 62 rfl) (gw hw 64 rfl) (gw hw 63 rfl) (gw hw 65 rfl) (gw hw 4 rfl) P2 e509 (rmLI4_3 hw a1 w0 v1 k1 y0 y1 y2 y3 h0 n0 Z0 P0 P1 P2 P3 P4 P5 hw0 hy3) pd_9 rfl d7_8 [] rfl 0 (by decide) rfl rfl fun o510 T510 L510 X510 hQ510 => ?_
 obtain ⟨rfl, N510q, e510⟩ := hQ510
 have N510 := Fr.app N509 N510q
 refine c_sh 11 [.int 3] rfl rfl ?_
 refine c_retI X510 hx hby hlk hret d7_11 rfl (by simp) (by decide) e510 ⟨rfl, N510, rfl⟩
def QSB4_0 (Z : State) (a1 : Addr) (w0 : Int32) (f0 : Value) (v1 : Addr) (k1 : ClassId) (y0 y1 y2 y3 : Int32) (h0 : Heap) (n0 : Nat) (v : Option Value) (h : Heap) (L : List Loc) : Prop := v = some (.ref a1) ∧ Fr n0 L ∧ h = h0
theorem rmSB4_0 {l : Launch} {Z : State} {a0 : Array Value} (hw : HW Z a0) (a1 : Addr) (w0 : Int32) (f0 : Value) (v1 : Addr) (k1 : ClassId) (y0 y1 y2 y3 : Int32) (h0 : Heap) (n0 : Nat) (Z0 : n0 ≤ h0.size) (P0 : sCS Z w0) (P1 : sPF Z f0) (P2 : Old Z n0 h0) (P3 : eS Z h0 a1) (P4 : fC Z h0 a1) (P5 : fV Z h0 a1 v1) (P6 : vB Z h0 v1 k1 4 [.int y0, .int y1, .int y2, .int y3]) (hw0 : ¬ w0 = 0) (hf : f0.isRef = true) : own_M l Z ⟨"java/lang/String", "substring", "(II)Ljava/lang/String;"⟩ jdk_42_method_92_code 5 (some (.object "java/lang/String")) (rmk 2 0 0 29) #[.ref a1, .int 0, .int 4] h0 (QSB4_0 Z a1 w0 f0 v1 k1 y0 y1 y2 y3 h0 n0) := by
 refine own_body rfl (plainFor_of_name pn_16) ?_
 intro p e s m below meth c s₁ hx hby hml hown hnm hlk hret X0 e0 hZ
 have N0 := Fr.nil n0
 show Go _ p e below s _ _ _ (s₁.setTop (mkF m 0 #[rv a1, iv 0, iv 4, .unset, .unset] []))
 refine c_aloadN X0 hx hby d16_0 rfl rfl <| c_callV X0 hx hby hZ hown hml (gw hw 50 rfl) (gw hw 51 rfl) (gw hw 53 rfl) (gw hw 52 rfl) (gw hw 54 rfl) (gw hw 4 rfl) P3 e0 (rm8 hw a1 w0 v1 k1 (4 : Int32) [(.int y0), (.int y1), (.int y2), (.int y3)] h0 n0 Z0 P0 P2 P3 P4 P5 P6 hw0) pd_3 rfl d16_1 [] rfl 0 (by decide) rfl rfl fun o513 T513 L513 X513 hQ513 => ?_
 obtain ⟨rfl, N513q, e513⟩ := hQ513
 have N513 := Fr.app N0 N513q
 refine c_sh 4 [.int 4] rfl rfl <| c_istoreN X513 hx hby _ d16_4 rfl <| c_iloadN X513 hx hby d16_5 rfl <| c_iloadN X513 hx hby d16_6 rfl <| c_iloadN X513 hx hby d16_7 rfl <| c_shL #[rv a1, iv 0, iv 4, iv 4, .unset] rfl <| c_callS X513 hx hby hZ hown hml (gw hw 92 rfl) (gw hw 93 rfl) (gw hw 4 rfl) (gw hw 94 rfl) e513 (rm17 hw (0 : Int32) (4 : Int32) (4 : Int32) f0 h0 n0 Z0 P1 P2 (by decide) (by decide) (by decide) hf) pd_4 rfl d16_8 [] rfl 0 (by decide) rfl rfl fun o514 T514 L514 X514 hQ514 => ?_
 obtain ⟨rfl, N514q, e514⟩ := hQ514
 have N514 := Fr.app N513 N514q
 refine c_sh 11 [] rfl rfl <| c_iloadN X514 hx hby d16_11 rfl <| c_ifNo X514 hx hby d16_12 ((if0 _ _).trans (teq (rfl : (0 : Int32) = (0 : Int32))).2) <| c_iloadN X514 hx hby d16_15 rfl <| c_iloadN X514 hx hby d16_16 rfl <| c_icmpNo X514 hx hby d16_17 (teq (rfl : (4 : Int32) = (4 : Int32))).2 <| c_aloadN X514 hx hby d16_20 rfl rfl ?_
 exact c_retA X514 hx hby hlk hret d16_21 rfl ⟨rfl, rfl⟩ (by decide) e514 ⟨rfl, N514, rfl⟩
def QSU4_0 (Z : State) (a1 : Addr) (w0 : Int32) (f0 : Value) (v1 : Addr) (k1 : ClassId) (y0 y1 y2 y3 : Int32) (h0 : Heap) (n0 : Nat) (v : Option Value) (h : Heap) (L : List Loc) : Prop := v = some (.ref a1) ∧ Fr n0 L ∧ h = h0
theorem rmSU4_0 {l : Launch} {Z : State} {a0 : Array Value} (hw : HW Z a0) (a1 : Addr) (w0 : Int32) (f0 : Value) (v1 : Addr) (k1 : ClassId) (y0 y1 y2 y3 : Int32) (h0 : Heap) (n0 : Nat) (Z0 : n0 ≤ h0.size) (P0 : sCS Z w0) (P1 : sPF Z f0) (P2 : Old Z n0 h0) (P3 : eS Z h0 a1) (P4 : fC Z h0 a1) (P5 : fV Z h0 a1 v1) (P6 : vB Z h0 v1 k1 4 [.int y0, .int y1, .int y2, .int y3]) (hw0 : ¬ w0 = 0) (hf : f0.isRef = true) : own_M l Z ⟨"java/lang/String", "substring", "(I)Ljava/lang/String;"⟩ jdk_42_method_91_code 2 (some (.object "java/lang/String")) (rmk 3 0 0 45) #[.ref a1, .int 0] h0 (QSU4_0 Z a1 w0 f0 v1 k1 y0 y1 y2 y3 h0 n0) := by
 refine own_body rfl (plainFor_of_name pn_15) ?_
 intro p e s m below meth c s₁ hx hby hml hown hnm hlk hret X0 e0 hZ
 have N0 := Fr.nil n0
 show Go _ p e below s _ _ _ (s₁.setTop (mkF m 0 #[rv a1, iv 0] []))
 refine c_aloadN X0 hx hby d15_0 rfl rfl <| c_iloadN X0 hx hby d15_1 rfl <| c_aloadN X0 hx hby d15_2 rfl rfl <| c_callV X0 hx hby hZ hown hml (gw hw 50 rfl) (gw hw 51 rfl) (gw hw 53 rfl) (gw hw 52 rfl) (gw hw 54 rfl) (gw hw 4 rfl) P3 e0 (rm8 hw a1 w0 v1 k1 (4 : Int32) [(.int y0), (.int y1), (.int y2), (.int y3)] h0 n0 Z0 P0 P2 P3 P4 P5 P6 hw0) pd_3 rfl d15_3 [.int 0, .ref a1] rfl 2 (by decide) rfl rfl fun o517 T517 L517 X517 hQ517 => ?_
 obtain ⟨rfl, N517q, e517⟩ := hQ517
 have N517 := Fr.app N0 N517q
 refine c_sh 6 [.int 4, .int 0, .ref a1] rfl rfl <| c_callV X517 hx hby hZ hown hml (gw hw 87 rfl) (gw hw 88 rfl) (gw hw 90 rfl) (gw hw 89 rfl) (gw hw 91 rfl) (gw hw 4 rfl) P3 e517 (rmSB4_0 hw a1 w0 f0 v1 k1 y0 y1 y2 y3 h0 n0 Z0 P0 P1 P2 P3 P4 P5 P6 hw0 hf) pd_7 rfl d15_6 [] rfl 0 (by decide) rfl rfl fun o518 T518 L518 X518 hQ518 => ?_
 obtain ⟨rfl, N518q, e518⟩ := hQ518
 have N518 := Fr.app N517 N518q
 refine c_sh 9 [.ref a1] rfl rfl ?_
 exact c_retA X518 hx hby hlk hret d15_9 rfl ⟨rfl, rfl⟩ (by decide) e518 ⟨rfl, N518, rfl⟩
def QCL1_4 (Z : State)  (h0 : Heap) (n0 : Nat) (v : Option Value) (h : Heap) (L : List Loc) : Prop := v = none ∧ Fr n0 L ∧ h = h0
theorem rmCL1_4 {l : Launch} {Z : State} {a0 : Array Value} (hw : HW Z a0)  (h0 : Heap) (n0 : Nat) (Z0 : n0 ≤ h0.size)  : own_M l Z ⟨"java/util/Arrays", "checkLength", "(II)V"⟩ jdk_65_method_131_code 2 none (rmk 0 0 0 0) #[.int 1, .int 4] h0 (QCL1_4 Z  h0 n0) := by
 refine own_body rfl (plainFor_of_name pn_30) ?_
 intro p e s m below meth c s₁ hx hby hml hown hnm hlk hret X0 e0 hZ
 have N0 := Fr.nil n0
 show Go _ p e below s _ _ _ (s₁.setTop (mkF m 0 #[iv 1, iv 4] []))
 refine c_iloadN X0 hx hby d30_0 rfl <| c_iloadN X0 hx hby d30_1 rfl <| c_icmpYes X0 hx hby 37 d30_2 (by decide) (by decide) ?_
 exact c_ret0 X0 hx hby hlk hret d30_37 (by decide) e0 ⟨rfl, N0, rfl⟩
def QRB4_1 (Z : State) (v1 : Addr) (k1 : ClassId) (y0 y1 y2 y3 : Int32) (h0 : Heap) (n0 : Nat) (v : Option Value) (h : Heap) (L : List Loc) : Prop := ∃ (b : Addr), ∃ (kb : ClassId), v = some (.ref b) ∧ Fr n0 L ∧ h0.size ≤ b ∧ n0 ≤ b ∧ Keep h0 h [] ∧ Exa Z h b "[B" ∧ vB Z h b kb 3 [.int y1, .int y2, .int y3]
theorem rmRB4_1 {l : Launch} {Z : State} {a0 : Array Value} (hw : HW Z a0) (v1 : Addr) (k1 : ClassId) (y0 y1 y2 y3 : Int32) (h0 : Heap) (n0 : Nat) (Z0 : n0 ≤ h0.size) (P0 : vB Z h0 v1 k1 4 [.int y0, .int y1, .int y2, .int y3]) : own_M l Z ⟨"java/util/Arrays", "copyOfRangeByte", "([BII)[B"⟩ jdk_65_method_133_code 5 (some (.array .byte)) (rmk 1 1 3 40) #[.ref v1, .int 1, .int 4] h0 (QRB4_1 Z v1 k1 y0 y1 y2 y3 h0 n0) := by
 refine own_body rfl (plainFor_of_name pn_29) ?_
 intro p e s m below meth c s₁ hx hby hml hown hnm hlk hret X0 e0 hZ
 have N0 := Fr.nil n0
 show Go _ p e below s _ _ _ (s₁.setTop (mkF m 0 #[rv v1, iv 1, iv 4, .unset, .unset] []))
 refine c_iloadN X0 hx hby d29_0 rfl <| c_iloadN X0 hx hby d29_1 rfl <| c_callS X0 hx hby hZ hown hml (gw hw 139 rfl) (gw hw 140 rfl) (gw hw 134 rfl) (gw hw 141 rfl) e0 (rmCL1_4 hw  h0 n0 Z0 ) pd_11 rfl d29_2 [] rfl 0 (by decide) rfl rfl fun o526 T526 L526 X526 hQ526 => ?_
 obtain ⟨rfl, N526q, e526⟩ := hQ526
 have N526 := Fr.app N0 N526q
 refine c_sh 5 [] rfl rfl <| c_iloadN X526 hx hby d29_5 rfl <| c_iloadN X526 hx hby d29_6 rfl <| c_isub X526 hx hby d29_7 <| c_sh 8 [.int 3] rfl rfl <| c_istoreN X526 hx hby _ d29_8 rfl <| c_iloadN X526 hx hby d29_9 rfl <| c_shL #[rv v1, iv 1, iv 4, iv 3, .unset] rfl <| c_newP X526 hx hby hZ (gw hw 16 rfl) e526 d29_10 (by decide) 3 (by decide) (by decide) "[B" (by first | rfl | decide) fun T527 h527 k527 b527 g527 X527 e527 E527 A527 AE527 => ?_
 have G_b527 := Nat.le_trans Z0 (Nat.le_of_eq g527.symm)
 have KK527 := (Keep.refl h0 []).ext E527
 have ZN527 := Nat.le_trans Z0 E527.1
 have V527 : vB Z h527 b527 k527 3 [.int 0, .int 0, .int 0] := (Arv.new A527 (by decide)).pad (pad_rep [] (.int (0 : Int32)) 3)
 refine c_sh 12 [.ref b527] rfl rfl <| c_astore X527 hx hby _ d29_12 rfl rfl <| c_aloadN X527 hx hby d29_14 rfl rfl <| c_iloadN X527 hx hby d29_15 rfl <| c_aload X527 hx hby d29_16 rfl rfl <| c_iconst X527 hx hby 0 d29_18 rfl <| c_aloadN X527 hx hby d29_19 rfl rfl <| c_shL #[rv v1, iv 1, iv 4, iv 3, rv b527] rfl ?_
 have cc528 := P0.ext E527
 refine c_alen X527 hx hby hZ e527 cc528 d29_20 <| c_iloadN X527 hx hby d29_21 rfl <| c_isub X527 hx hby d29_22 <| c_sh 23 [.int 3, .int 0, .ref b527, .int 1, .ref v1] rfl rfl <| c_iloadN X527 hx hby d29_23 rfl <| c_callS X527 hx hby hZ hown hml (gw hw 142 rfl) (gw hw 79 rfl) (gw hw 80 rfl) (gw hw 81 rfl) e527 (rmMN3 hw  h527 n0 ZN527 ) pd_9 rfl d29_24 [.int 0, .ref b527, .int 1, .ref v1] rfl 4 (by decide) rfl rfl fun o529 T529 L529 X529 hQ529 => ?_
 obtain ⟨rfl, N529q, e529⟩ := hQ529
 have N529 := Fr.app N526 N529q
 refine c_sh 27 [.int 3, .int 0, .ref b527, .int 1, .ref v1] rfl rfl ?_
 obtain ⟨T530, h530, L530, X530, e530, N530, K530, A530, st530⟩ := cpA X529 hx hZ hown (gw hw 143 rfl) (gw hw 146 rfl) (gw hw 144 rfl) (gw hw 145 rfl) e529 cc528 V527 (us := [(.int y1), (.int y2), (.int y3)]) (Or.inl ⟨rfl, rfl⟩) (by decide) (by decide) (by decide) (by decide) (by decide) rfl (by decide) N529 G_b527 (g := (mkF m 27 #[rv v1, iv 1, iv 4, iv 3, rv b527] [.int 3, .int 0, .ref b527, .int 1, .ref v1])) rfl (by rw [hml]; rfl) rfl (hb hby d29_27) (by decide) (W := 0) (by show 2 * 0 + _ ≤ _; exact Nat.le_of_eq rfl) (by decide)
 have V530 : vB Z h530 b527 k527 3 [.int y1, .int y2, .int y3] := A530
 have ne531 : v1 ≠ b527 := (Nat.ne_of_lt (Nat.lt_of_lt_of_le P0.lt (Nat.le_of_eq g527.symm)))
 have KK530 : Keep h0 h530 [] := KK527.trans K530 (allS (P := fun x => x ∈ [] ∨ h0.size ≤ x) (Or.inr (Nat.le_trans (Keep.refl h0 []).1 (Nat.le_of_eq g527.symm))) all0)
 have ZN530 : n0 ≤ h530.size := Nat.le_trans ZN527 K530.1
 refine go st530 ?_
 show Go _ p e below s _ _ _ (T530.setTop (mkF m 30 #[rv v1, iv 1, iv 4, iv 3, rv b527] []))
 refine c_aload X530 hx hby d29_30 rfl rfl ?_
 have cc532 := AE527.keep K530
 exact c_retA X530 hx hby hlk hret d29_32 rfl ⟨rfl, rfl⟩ (by decide) e530 ⟨b527, k527, rfl, N530, (Nat.le_trans (Keep.refl h0 []).1 (Nat.le_of_eq g527.symm)), G_b527, KK530, cc532, V530⟩
def QRC4_1 (Z : State) (v1 : Addr) (k1 : ClassId) (y0 y1 y2 y3 : Int32) (h0 : Heap) (n0 : Nat) (v : Option Value) (h : Heap) (L : List Loc) : Prop := ∃ (b : Addr), ∃ (kb : ClassId), v = some (.ref b) ∧ Fr n0 L ∧ h0.size ≤ b ∧ n0 ≤ b ∧ Keep h0 h [] ∧ Exa Z h b "[B" ∧ vB Z h b kb 3 [.int y1, .int y2, .int y3]
theorem rmRC4_1 {l : Launch} {Z : State} {a0 : Array Value} (hw : HW Z a0) (v1 : Addr) (k1 : ClassId) (y0 y1 y2 y3 : Int32) (h0 : Heap) (n0 : Nat) (Z0 : n0 ≤ h0.size) (P0 : vB Z h0 v1 k1 4 [.int y0, .int y1, .int y2, .int y3]) : own_M l Z ⟨"java/util/Arrays", "copyOfRange", "([BII)[B"⟩ jdk_65_method_132_code 3 (some (.array .byte)) (rmk 2 1 3 56) #[.ref v1, .int 1, .int 4] h0 (QRC4_1 Z v1 k1 y0 y1 y2 y3 h0 n0) := by
 refine own_body rfl (plainFor_of_name pn_28) ?_
 intro p e s m below meth c s₁ hx hby hml hown hnm hlk hret X0 e0 hZ
 have N0 := Fr.nil n0
 show Go _ p e below s _ _ _ (s₁.setTop (mkF m 0 #[rv v1, iv 1, iv 4] []))
 refine c_iloadN X0 hx hby d28_0 rfl <| c_ifYes X0 hx hby 10 d28_1 (by decide) (by decide) <| c_aloadN X0 hx hby d28_10 rfl rfl <| c_iloadN X0 hx hby d28_11 rfl <| c_iloadN X0 hx hby d28_12 rfl <| c_callS X0 hx hby hZ hown hml (gw hw 136 rfl) (gw hw 137 rfl) (gw hw 134 rfl) (gw hw 138 rfl) e0 (rmRB4_1 hw v1 k1 y0 y1 y2 y3 h0 n0 Z0 P0) pd_12 rfl d28_13 [] rfl 0 (by decide) rfl rfl fun o534 T534 L534 X534 hQ534 => ?_
 obtain ⟨b534, kb534, rfl, N534q, u534_0, u534_1, K534, u534_3, u534_4⟩ := hQ534
 have N534 := Fr.app N0 N534q
 have G_b534 := Nat.le_trans Z0 u534_0
 have KK534 := (Keep.refl h0 []).trans K534 all0
 have ZN534 := Nat.le_trans Z0 K534.1
 refine c_sh 16 [.ref b534] rfl rfl ?_
 exact c_retA X534 hx hby hlk hret d28_16 rfl ⟨rfl, rfl⟩ (by decide) rfl ⟨b534, kb534, rfl, N534, (Nat.le_trans (Keep.refl h0 []).1 u534_0), u534_1, KK534, u534_3, u534_4⟩
def QNS4_1 (Z : State) (v1 : Addr) (k1 : ClassId) (y0 y1 y2 y3 : Int32) (h0 : Heap) (n0 : Nat) (v : Option Value) (h : Heap) (L : List Loc) : Prop := ∃ (b : Addr), ∃ (bb : Addr), ∃ (kb : ClassId), v = some (.ref b) ∧ Fr n0 L ∧ h0.size ≤ b ∧ n0 ≤ b ∧ Keep h0 h [] ∧ eS Z h b ∧ fC Z h b ∧ fV Z h b bb ∧ vB Z h bb kb 3 [.int y1, .int y2, .int y3]
theorem rmNS4_1 {l : Launch} {Z : State} {a0 : Array Value} (hw : HW Z a0) (v1 : Addr) (k1 : ClassId) (y0 y1 y2 y3 : Int32) (h0 : Heap) (n0 : Nat) (Z0 : n0 ≤ h0.size) (P0 : vB Z h0 v1 k1 4 [.int y0, .int y1, .int y2, .int y3]) : own_M l Z ⟨"java/lang/StringLatin1", "newString", "([BII)Ljava/lang/String;"⟩ jdk_43_method_47_code 3 (some (.object "java/lang/String")) (rmk 3 2 7 72) #[.ref v1, .int 1, .int 3] h0 (QNS4_1 Z v1 k1 y0 y1 y2 y3 h0 n0) := by
 refine own_body rfl (plainFor_of_name pn_27) ?_
 intro p e s m below meth c s₁ hx hby hml hown hnm hlk hret X0 e0 hZ
 have N0 := Fr.nil n0
 show Go _ p e below s _ _ _ (s₁.setTop (mkF m 0 #[rv v1, iv 1, iv 3] []))
 refine c_iloadN X0 hx hby d27_0 rfl <| c_ifYes X0 hx hby 7 d27_1 (by decide) (by decide) <| c_new X0 hx hby hZ hown (gw hw 131 rfl) (gw hw 3 rfl) (gw hw 4 rfl) e0 d27_7 (by decide) fun T546 h546 b546 g546 X546 e546 E546 A546 D546 => ?_
 have G_b546 := Nat.le_trans Z0 (Nat.le_of_eq g546.symm)
 have KK546 := (Keep.refl h0 []).ext E546
 have ZN546 := Nat.le_trans Z0 E546.1
 refine c_sh 10 [.ref b546] rfl rfl <| c_dup X546 hx hby d27_10 rfl <| c_aloadN X546 hx hby d27_11 rfl rfl <| c_iloadN X546 hx hby d27_12 rfl <| c_iloadN X546 hx hby d27_13 rfl <| c_iloadN X546 hx hby d27_14 rfl <| c_iadd X546 hx hby d27_15 <| c_sh 16 [.int 4, .int 1, .ref v1, .ref b546, .ref b546] rfl rfl ?_
 have cc548 := P0.ext E546
 refine c_callS X546 hx hby hZ hown hml (gw hw 132 rfl) (gw hw 133 rfl) (gw hw 134 rfl) (gw hw 135 rfl) e546 (rmRC4_1 hw v1 k1 y0 y1 y2 y3 h546 n0 ZN546 cc548) pd_12 rfl d27_16 [.ref b546, .ref b546] rfl 2 (by decide) rfl rfl fun o547 T547 L547 X547 hQ547 => ?_
 obtain ⟨b547, kb547, rfl, N547q, u547_0, u547_1, K547, u547_3, u547_4⟩ := hQ547
 have N547 := Fr.app N0 N547q
 have G_b547 := Nat.le_trans ZN546 u547_0
 have KK547 := KK546.trans K547 all0
 have ZN547 := Nat.le_trans ZN546 K547.1
 refine c_sh 19 [.ref b547, .ref b546, .ref b546] rfl rfl <| c_iconst X547 hx hby 0 d27_19 rfl ?_
 have cc550 := A546.keep K547
 have cc551 := (show Fld Z h546 b546 "java/lang/String" "value" "[B" .null from D546 (Or.inr (gw hw 17 rfl)) (ty := (.array .byte)) (by decide)).keep K547 nin0
 have cc552 := (show fC Z h546 b546 from D546 (Or.inr (gw hw 18 rfl)) (ty := .byte) (by decide)).keep K547 nin0
 refine c_init X547 hx hby hZ hown hml (gw hw 147 rfl) (gw hw 126 rfl) (gw hw 127 rfl) (gw hw 4 rfl) rfl rfl (rm26 hw b546 b547 .null (.int (0 : Int32)) (T547.heap) n0 ZN547 cc550 cc551 cc552 G_b546) pd_13 rfl d27_20 [.ref b546] rfl 1 (by decide) rfl rfl fun o549 T549 L549 X549 hQ549 => ?_
 obtain ⟨rfl, N549q, K549, u549_1, u549_2⟩ := hQ549
 have N549 := Fr.app N547 N549q
 have ne553 : v1 ≠ b546 := (Nat.ne_of_lt (Nat.lt_of_lt_of_le P0.lt (Nat.le_of_eq g546.symm)))
 have ne554 : b547 ≠ b546 := (Ne.symm (Nat.ne_of_lt (Nat.lt_of_lt_of_le A546.lt u547_0)))
 have KK549 := KK547.trans K549 (allS (P := fun x => x ∈ [] ∨ h0.size ≤ x) (Or.inr (Nat.le_trans (Keep.refl h0 []).1 (Nat.le_of_eq g546.symm))) all0)
 have ZN549 := Nat.le_trans ZN547 K549.1
 refine c_sh 23 [.ref b546] rfl rfl ?_
 have cc555 := cc550.keep K549
 have cc556 := u547_4.keep K549 (ninS ne554 nin0)
 exact c_retA X549 hx hby hlk hret d27_23 rfl ⟨rfl, rfl⟩ (by decide) rfl ⟨b546, b547, kb547, rfl, N549, (Nat.le_trans (Keep.refl h0 []).1 (Nat.le_of_eq g546.symm)), G_b546, KK549, cc555, u549_2, u549_1, cc556⟩
def QSB4_1 (Z : State) (a1 : Addr) (w0 : Int32) (f0 : Value) (v1 : Addr) (k1 : ClassId) (y0 y1 y2 y3 : Int32) (h0 : Heap) (n0 : Nat) (v : Option Value) (h : Heap) (L : List Loc) : Prop := ∃ (b : Addr), ∃ (bb : Addr), ∃ (kb : ClassId), v = some (.ref b) ∧ Fr n0 L ∧ h0.size ≤ b ∧ n0 ≤ b ∧ Keep h0 h [] ∧ eS Z h b ∧ fC Z h b ∧ fV Z h b bb ∧ vB Z h bb kb 3 [.int y1, .int y2, .int y3]
theorem rmSB4_1 {l : Launch} {Z : State} {a0 : Array Value} (hw : HW Z a0) (a1 : Addr) (w0 : Int32) (f0 : Value) (v1 : Addr) (k1 : ClassId) (y0 y1 y2 y3 : Int32) (h0 : Heap) (n0 : Nat) (Z0 : n0 ≤ h0.size) (P0 : sCS Z w0) (P1 : sPF Z f0) (P2 : Old Z n0 h0) (P3 : eS Z h0 a1) (P4 : fC Z h0 a1) (P5 : fV Z h0 a1 v1) (P6 : vB Z h0 v1 k1 4 [.int y0, .int y1, .int y2, .int y3]) (hw0 : ¬ w0 = 0) (hf : f0.isRef = true) : own_M l Z ⟨"java/lang/String", "substring", "(II)Ljava/lang/String;"⟩ jdk_42_method_92_code 5 (some (.object "java/lang/String")) (rmk 4 2 7 86) #[.ref a1, .int 1, .int 4] h0 (QSB4_1 Z a1 w0 f0 v1 k1 y0 y1 y2 y3 h0 n0) := by
 refine own_body rfl (plainFor_of_name pn_16) ?_
 intro p e s m below meth c s₁ hx hby hml hown hnm hlk hret X0 e0 hZ
 have N0 := Fr.nil n0
 show Go _ p e below s _ _ _ (s₁.setTop (mkF m 0 #[rv a1, iv 1, iv 4, .unset, .unset] []))
 refine c_aloadN X0 hx hby d16_0 rfl rfl <| c_callV X0 hx hby hZ hown hml (gw hw 50 rfl) (gw hw 51 rfl) (gw hw 53 rfl) (gw hw 52 rfl) (gw hw 54 rfl) (gw hw 4 rfl) P3 e0 (rm8 hw a1 w0 v1 k1 (4 : Int32) [(.int y0), (.int y1), (.int y2), (.int y3)] h0 n0 Z0 P0 P2 P3 P4 P5 P6 hw0) pd_3 rfl d16_1 [] rfl 0 (by decide) rfl rfl fun o562 T562 L562 X562 hQ562 => ?_
 obtain ⟨rfl, N562q, e562⟩ := hQ562
 have N562 := Fr.app N0 N562q
 refine c_sh 4 [.int 4] rfl rfl <| c_istoreN X562 hx hby _ d16_4 rfl <| c_iloadN X562 hx hby d16_5 rfl <| c_iloadN X562 hx hby d16_6 rfl <| c_iloadN X562 hx hby d16_7 rfl <| c_shL #[rv a1, iv 1, iv 4, iv 4, .unset] rfl <| c_callS X562 hx hby hZ hown hml (gw hw 92 rfl) (gw hw 93 rfl) (gw hw 4 rfl) (gw hw 94 rfl) e562 (rm17 hw (1 : Int32) (4 : Int32) (4 : Int32) f0 h0 n0 Z0 P1 P2 (by decide) (by decide) (by decide) hf) pd_4 rfl d16_8 [] rfl 0 (by decide) rfl rfl fun o563 T563 L563 X563 hQ563 => ?_
 obtain ⟨rfl, N563q, e563⟩ := hQ563
 have N563 := Fr.app N562 N563q
 refine c_sh 11 [] rfl rfl <| c_iloadN X563 hx hby d16_11 rfl <| c_ifYes X563 hx hby 22 d16_12 (by decide) (by decide) <| c_iloadN X563 hx hby d16_22 rfl <| c_iloadN X563 hx hby d16_23 rfl <| c_isub X563 hx hby d16_24 <| c_sh 25 [.int 3] rfl rfl <| c_istore X563 hx hby _ d16_25 rfl <| c_aloadN X563 hx hby d16_27 rfl rfl <| c_shL #[rv a1, iv 1, iv 4, iv 4, iv 3] rfl <| c_callV X563 hx hby hZ hown hml (gw hw 66 rfl) (gw hw 67 rfl) (gw hw 69 rfl) (gw hw 68 rfl) (gw hw 70 rfl) (gw hw 4 rfl) P3 e563 (rm11 hw a1 w0 h0 n0 Z0 P0 P2 P4 hw0) pd_5 rfl d16_28 [] rfl 0 (by decide) rfl rfl fun o564 T564 L564 X564 hQ564 => ?_
 obtain ⟨rfl, N564q, e564⟩ := hQ564
 have N564 := Fr.app N563 N564q
 refine c_sh 31 [.int 1] rfl rfl <| c_ifNo X564 hx hby d16_31 (by decide) <| c_aloadN X564 hx hby d16_34 rfl rfl <| c_getf X564 hx hby hZ hown (gw hw 21 rfl) Via.refl e564 P5 d16_35 fun T565 X565 e565 => ?_
 refine c_sh 38 [.ref v1] rfl rfl <| c_iloadN X565 hx hby d16_38 rfl <| c_iload X565 hx hby d16_39 rfl <| c_callS X565 hx hby hZ hown hml (gw hw 128 rfl) (gw hw 129 rfl) (gw hw 73 rfl) (gw hw 130 rfl) e565 (rmNS4_1 hw v1 k1 y0 y1 y2 y3 h0 n0 Z0 P6) pd_6 rfl d16_41 [] rfl 0 (by decide) rfl rfl fun o566 T566 L566 X566 hQ566 => ?_
 obtain ⟨b566, bb566, kb566, rfl, N566q, u566_0, u566_1, K566, u566_3, u566_4, u566_5, u566_6⟩ := hQ566
 have N566 := Fr.app N564 N566q
 have G_b566 := Nat.le_trans Z0 u566_0
 have KK566 := (Keep.refl h0 []).trans K566 all0
 have ZN566 := Nat.le_trans Z0 K566.1
 have OL566 := P2.keep K566 all0
 refine c_sh 44 [.ref b566] rfl rfl <| c_goto X566 hx hby 57 d16_44 (by decide) ?_
 exact c_retA X566 hx hby hlk hret d16_57 rfl ⟨rfl, rfl⟩ (by decide) rfl ⟨b566, bb566, kb566, rfl, N566, (Nat.le_trans (Keep.refl h0 []).1 u566_0), u566_1, KK566, u566_3, u566_4, u566_5, u566_6⟩
def QSU4_1 (Z : State) (a1 : Addr) (w0 : Int32) (f0 : Value) (v1 : Addr) (k1 : ClassId) (y0 y1 y2 y3 : Int32) (h0 : Heap) (n0 : Nat) (v : Option Value) (h : Heap) (L : List Loc) : Prop := ∃ (b : Addr), ∃ (bb : Addr), ∃ (kb : ClassId), v = some (.ref b) ∧ Fr n0 L ∧ h0.size ≤ b ∧ n0 ≤ b ∧ Keep h0 h [] ∧ eS Z h b ∧ fC Z h b ∧ fV Z h b bb ∧ vB Z h bb kb 3 [.int y1, .int y2, .int y3]
theorem rmSU4_1 {l : Launch} {Z : State} {a0 : Array Value} (hw : HW Z a0) (a1 : Addr) (w0 : Int32) (f0 : Value) (v1 : Addr) (k1 : ClassId) (y0 y1 y2 y3 : Int32) (h0 : Heap) (n0 : Nat) (Z0 : n0 ≤ h0.size) (P0 : sCS Z w0) (P1 : sPF Z f0) (P2 : Old Z n0 h0) (P3 : eS Z h0 a1) (P4 : fC Z h0 a1) (P5 : fV Z h0 a1 v1) (P6 : vB Z h0 v1 k1 4 [.int y0, .int y1, .int y2, .int y3]) (hw0 : ¬ w0 = 0) (hf : f0.isRef = true) : own_M l Z ⟨"java/lang/String", "substring", "(I)Ljava/lang/String;"⟩ jdk_42_method_91_code 2 (some (.object "java/lang/String")) (rmk 5 2 7 102) #[.ref a1, .int 1] h0 (QSU4_1 Z a1 w0 f0 v1 k1 y0 y1 y2 y3 h0 n0) := by
 refine own_body rfl (plainFor_of_name pn_15) ?_
 intro p e s m below meth c s₁ hx hby hml hown hnm hlk hret X0 e0 hZ
 have N0 := Fr.nil n0
 show Go _ p e below s _ _ _ (s₁.setTop (mkF m 0 #[rv a1, iv 1] []))
 refine c_aloadN X0 hx hby d15_0 rfl rfl <| c_iloadN X0 hx hby d15_1 rfl <| c_aloadN X0 hx hby d15_2 rfl rfl <| c_callV X0 hx hby hZ hown hml (gw hw 50 rfl) (gw hw 51 rfl) (gw hw 53 rfl) (gw hw 52 rfl) (gw hw 54 rfl) (gw hw 4 rfl) P3 e0 (rm8 hw a1 w0 v1 k1 (4 : Int32) [(.int y0), (.int y1), (.int y2), (.int y3)] h0 n0 Z0 P0 P2 P3 P4 P5 P6 hw0) pd_3 rfl d15_3 [.int 1, .ref a1] rfl 2 (by decide) rfl rfl fun o569 T569 L569 X569 hQ569 => ?_
 obtain ⟨rfl, N569q, e569⟩ := hQ569
 have N569 := Fr.app N0 N569q
 refine c_sh 6 [.int 4, .int 1, .ref a1] rfl rfl <| c_callV X569 hx hby hZ hown hml (gw hw 87 rfl) (gw hw 88 rfl) (gw hw 90 rfl) (gw hw 89 rfl) (gw hw 91 rfl) (gw hw 4 rfl) P3 e569 (rmSB4_1 hw a1 w0 f0 v1 k1 y0 y1 y2 y3 h0 n0 Z0 P0 P1 P2 P3 P4 P5 P6 hw0 hf) pd_7 rfl d15_6 [] rfl 0 (by decide) rfl rfl fun o570 T570 L570 X570 hQ570 => ?_
 obtain ⟨b570, bb570, kb570, rfl, N570q, u570_0, u570_1, K570, u570_3, u570_4, u570_5, u570_6⟩ := hQ570
 have N570 := Fr.app N569 N570q
 have G_b570 := Nat.le_trans Z0 u570_0
 have KK570 := (Keep.refl h0 []).trans K570 all0
 have ZN570 := Nat.le_trans Z0 K570.1
 have OL570 := P2.keep K570 all0
 refine c_sh 9 [.ref b570] rfl rfl ?_
 exact c_retA X570 hx hby hlk hret d15_9 rfl ⟨rfl, rfl⟩ (by decide) rfl ⟨b570, bb570, kb570, rfl, N570, (Nat.le_trans (Keep.refl h0 []).1 u570_0), u570_1, KK570, u570_3, u570_4, u570_5, u570_6⟩
def QCL2_4 (Z : State)  (h0 : Heap) (n0 : Nat) (v : Option Value) (h : Heap) (L : List Loc) : Prop := v = none ∧ Fr n0 L ∧ h = h0
theorem rmCL2_4 {l : Launch} {Z : State} {a0 : Array Value} (hw : HW Z a0)  (h0 : Heap) (n0 : Nat) (Z0 : n0 ≤ h0.size)  : own_M l Z ⟨"java/util/Arrays", "checkLength", "(II)V"⟩ jdk_65_method_131_code 2 none (rmk 0 0 0 0) #[.int 2, .int 4] h0 (QCL2_4 Z  h0 n0) := by
 refine own_body rfl (plainFor_of_name pn_30) ?_
 intro p e s m below meth c s₁ hx hby hml hown hnm hlk hret X0 e0 hZ
 have N0 := Fr.nil n0
 show Go _ p e below s _ _ _ (s₁.setTop (mkF m 0 #[iv 2, iv 4] []))
 refine c_iloadN X0 hx hby d30_0 rfl <| c_iloadN X0 hx hby d30_1 rfl <| c_icmpYes X0 hx hby 37 d30_2 (by decide) (by decide) ?_
 exact c_ret0 X0 hx hby hlk hret d30_37 (by decide) e0 ⟨rfl, N0, rfl⟩
def QRB4_2 (Z : State) (v1 : Addr) (k1 : ClassId) (y0 y1 y2 y3 : Int32) (h0 : Heap) (n0 : Nat) (v : Option Value) (h : Heap) (L : List Loc) : Prop := ∃ (b : Addr), ∃ (kb : ClassId), v = some (.ref b) ∧ Fr n0 L ∧ h0.size ≤ b ∧ n0 ≤ b ∧ Keep h0 h [] ∧ Exa Z h b "[B" ∧ vB Z h b kb 2 [.int y2, .int y3]
theorem rmRB4_2 {l : Launch} {Z : State} {a0 : Array Value} (hw : HW Z a0) (v1 : Addr) (k1 : ClassId) (y0 y1 y2 y3 : Int32) (h0 : Heap) (n0 : Nat) (Z0 : n0 ≤ h0.size) (P0 : vB Z h0 v1 k1 4 [.int y0, .int y1, .int y2, .int y3]) : own_M l Z ⟨"java/util/Arrays", "copyOfRangeByte", "([BII)[B"⟩ jdk_65_method_133_code 5 (some (.array .byte)) (rmk 1 1 2 40) #[.ref v1, .int 2, .int 4] h0 (QRB4_2 Z v1 k1 y0 y1 y2 y3 h0 n0) := by
 refine own_body rfl (plainFor_of_name pn_29) ?_
 intro p e s m below meth c s₁ hx hby hml hown hnm hlk hret X0 e0 hZ
 have N0 := Fr.nil n0
 show Go _ p e below s _ _ _ (s₁.setTop (mkF m 0 #[rv v1, iv 2, iv 4, .unset, .unset] []))
 refine c_iloadN X0 hx hby d29_0 rfl <| c_iloadN X0 hx hby d29_1 rfl <| c_callS X0 hx hby hZ hown hml (gw hw 139 rfl) (gw hw 140 rfl) (gw hw 134 rfl) (gw hw 141 rfl) e0 (rmCL2_4 hw  h0 n0 Z0 ) pd_11 rfl d29_2 [] rfl 0 (by decide) rfl rfl fun o578 T578 L578 X578 hQ578 => ?_
 obtain ⟨rfl, N578q, e578⟩ := hQ578
 have N578 := Fr.app N0 N578q
 refine c_sh 5 [] rfl rfl <| c_iloadN X578 hx hby d29_5 rfl <| c_iloadN X578 hx hby d29_6 rfl <| c_isub X578 hx hby d29_7 <| c_sh 8 [.int 2] rfl rfl <| c_istoreN X578 hx hby _ d29_8 rfl <| c_iloadN X578 hx hby d29_9 rfl <| c_shL #[rv v1, iv 2, iv 4, iv 2, .unset] rfl <| c_newP X578 hx hby hZ (gw hw 16 rfl) e578 d29_10 (by decide) 2 (by decide) (by decide) "[B" (by first | rfl | decide) fun T579 h579 k579 b579 g579 X579 e579 E579 A579 AE579 => ?_
 have G_b579 := Nat.le_trans Z0 (Nat.le_of_eq g579.symm)
 have KK579 := (Keep.refl h0 []).ext E579
 have ZN579 := Nat.le_trans Z0 E579.1
 have V579 : vB Z h579 b579 k579 2 [.int 0, .int 0] := (Arv.new A579 (by decide)).pad (pad_rep [] (.int (0 : Int32)) 2)
 refine c_sh 12 [.ref b579] rfl rfl <| c_astore X579 hx hby _ d29_12 rfl rfl <| c_aloadN X579 hx hby d29_14 rfl rfl <| c_iloadN X579 hx hby d29_15 rfl <| c_aload X579 hx hby d29_16 rfl rfl <| c_iconst X579 hx hby 0 d29_18 rfl <| c_aloadN X579 hx hby d29_19 rfl rfl <| c_shL #[rv v1, iv 2, iv 4, iv 2, rv b579] rfl ?_
 have cc580 := P0.ext E579
 refine c_alen X579 hx hby hZ e579 cc580 d29_20 <| c_iloadN X579 hx hby d29_21 rfl <| c_isub X579 hx hby d29_22 <| c_sh 23 [.int 2, .int 0, .ref b579, .int 2, .ref v1] rfl rfl <| c_iloadN X579 hx hby d29_23 rfl <| c_callS X579 hx hby hZ hown hml (gw hw 142 rfl) (gw hw 79 rfl) (gw hw 80 rfl) (gw hw 81 rfl) e579 (rmMN2 hw  h579 n0 ZN579 ) pd_9 rfl d29_24 [.int 0, .ref b579, .int 2, .ref v1] rfl 4 (by decide) rfl rfl fun o581 T581 L581 X581 hQ581 => ?_
 obtain ⟨rfl, N581q, e581⟩ := hQ581
 have N581 := Fr.app N578 N581q
 refine c_sh 27 [.int 2, .int 0, .ref b579, .int 2, .ref v1] rfl rfl ?_
 obtain ⟨T582, h582, L582, X582, e582, N582, K582, A582, st582⟩ := cpA X581 hx hZ hown (gw hw 143 rfl) (gw hw 146 rfl) (gw hw 144 rfl) (gw hw 145 rfl) e581 cc580 V579 (us := [(.int y2), (.int y3)]) (Or.inl ⟨rfl, rfl⟩) (by decide) (by decide) (by decide) (by decide) (by decide) rfl (by decide) N581 G_b579 (g := (mkF m 27 #[rv v1, iv 2, iv 4, iv 2, rv b579] [.int 2, .int 0, .ref b579, .int 2, .ref v1])) rfl (by rw [hml]; rfl) rfl (hb hby d29_27) (by decide) (W := 0) (by show 2 * 0 + _ ≤ _; exact Nat.le_of_eq rfl) (by decide)
 have V582 : vB Z h582 b579 k579 2 [.int y2, .int y3] := A582
 have ne583 : v1 ≠ b579 := (Nat.ne_of_lt (Nat.lt_of_lt_of_le P0.lt (Nat.le_of_eq g579.symm)))
 have KK582 : Keep h0 h582 [] := KK579.trans K582 (allS (P := fun x => x ∈ [] ∨ h0.size ≤ x) (Or.inr (Nat.le_trans (Keep.refl h0 []).1 (Nat.le_of_eq g579.symm))) all0)
 have ZN582 : n0 ≤ h582.size := Nat.le_trans ZN579 K582.1
 refine go st582 ?_
 show Go _ p e below s _ _ _ (T582.setTop (mkF m 30 #[rv v1, iv 2, iv 4, iv 2, rv b579] []))
 refine c_aload X582 hx hby d29_30 rfl rfl ?_
 have cc584 := AE579.keep K582
 exact c_retA X582 hx hby hlk hret d29_32 rfl ⟨rfl, rfl⟩ (by decide) e582 ⟨b579, k579, rfl, N582, (Nat.le_trans (Keep.refl h0 []).1 (Nat.le_of_eq g579.symm)), G_b579, KK582, cc584, V582⟩
def QRC4_2 (Z : State) (v1 : Addr) (k1 : ClassId) (y0 y1 y2 y3 : Int32) (h0 : Heap) (n0 : Nat) (v : Option Value) (h : Heap) (L : List Loc) : Prop := ∃ (b : Addr), ∃ (kb : ClassId), v = some (.ref b) ∧ Fr n0 L ∧ h0.size ≤ b ∧ n0 ≤ b ∧ Keep h0 h [] ∧ Exa Z h b "[B" ∧ vB Z h b kb 2 [.int y2, .int y3]
theorem rmRC4_2 {l : Launch} {Z : State} {a0 : Array Value} (hw : HW Z a0) (v1 : Addr) (k1 : ClassId) (y0 y1 y2 y3 : Int32) (h0 : Heap) (n0 : Nat) (Z0 : n0 ≤ h0.size) (P0 : vB Z h0 v1 k1 4 [.int y0, .int y1, .int y2, .int y3]) : own_M l Z ⟨"java/util/Arrays", "copyOfRange", "([BII)[B"⟩ jdk_65_method_132_code 3 (some (.array .byte)) (rmk 2 1 2 56) #[.ref v1, .int 2, .int 4] h0 (QRC4_2 Z v1 k1 y0 y1 y2 y3 h0 n0) := by
 refine own_body rfl (plainFor_of_name pn_28) ?_
 intro p e s m below meth c s₁ hx hby hml hown hnm hlk hret X0 e0 hZ
 have N0 := Fr.nil n0
 show Go _ p e below s _ _ _ (s₁.setTop (mkF m 0 #[rv v1, iv 2, iv 4] []))
 refine c_iloadN X0 hx hby d28_0 rfl <| c_ifYes X0 hx hby 10 d28_1 (by decide) (by decide) <| c_aloadN X0 hx hby d28_10 rfl rfl <| c_iloadN X0 hx hby d28_11 rfl <| c_iloadN X0 hx hby d28_12 rfl <| c_callS X0 hx hby hZ hown hml (gw hw 136 rfl) (gw hw 137 rfl) (gw hw 134 rfl) (gw hw 138 rfl) e0 (rmRB4_2 hw v1 k1 y0 y1 y2 y3 h0 n0 Z0 P0) pd_12 rfl d28_13 [] rfl 0 (by decide) rfl rfl fun o586 T586 L586 X586 hQ586 => ?_
 obtain ⟨b586, kb586, rfl, N586q, u586_0, u586_1, K586, u586_3, u586_4⟩ := hQ586
 have N586 := Fr.app N0 N586q
 have G_b586 := Nat.le_trans Z0 u586_0
 have KK586 := (Keep.refl h0 []).trans K586 all0
 have ZN586 := Nat.le_trans Z0 K586.1
 refine c_sh 16 [.ref b586] rfl rfl ?_
 exact c_retA X586 hx hby hlk hret d28_16 rfl ⟨rfl, rfl⟩ (by decide) rfl ⟨b586, kb586, rfl, N586, (Nat.le_trans (Keep.refl h0 []).1 u586_0), u586_1, KK586, u586_3, u586_4⟩
def QNS4_2 (Z : State) (v1 : Addr) (k1 : ClassId) (y0 y1 y2 y3 : Int32) (h0 : Heap) (n0 : Nat) (v : Option Value) (h : Heap) (L : List Loc) : Prop := ∃ (b : Addr), ∃ (bb : Addr), ∃ (kb : ClassId), v = some (.ref b) ∧ Fr n0 L ∧ h0.size ≤ b ∧ n0 ≤ b ∧ Keep h0 h [] ∧ eS Z h b ∧ fC Z h b ∧ fV Z h b bb ∧ vB Z h bb kb 2 [.int y2, .int y3]
theorem rmNS4_2 {l : Launch} {Z : State} {a0 : Array Value} (hw : HW Z a0) (v1 : Addr) (k1 : ClassId) (y0 y1 y2 y3 : Int32) (h0 : Heap) (n0 : Nat) (Z0 : n0 ≤ h0.size) (P0 : vB Z h0 v1 k1 4 [.int y0, .int y1, .int y2, .int y3]) : own_M l Z ⟨"java/lang/StringLatin1", "newString", "([BII)Ljava/lang/String;"⟩ jdk_43_method_47_code 3 (some (.object "java/lang/String")) (rmk 3 2 6 72) #[.ref v1, .int 2, .int 2] h0 (QNS4_2 Z v1 k1 y0 y1 y2 y3 h0 n0) := by
 refine own_body rfl (plainFor_of_name pn_27) ?_
 intro p e s m below meth c s₁ hx hby hml hown hnm hlk hret X0 e0 hZ
 have N0 := Fr.nil n0
 show Go _ p e below s _ _ _ (s₁.setTop (mkF m 0 #[rv v1, iv 2, iv 2] []))
 refine c_iloadN X0 hx hby d27_0 rfl <| c_ifYes X0 hx hby 7 d27_1 (by decide) (by decide) <| c_new X0 hx hby hZ hown (gw hw 131 rfl) (gw hw 3 rfl) (gw hw 4 rfl) e0 d27_7 (by decide) fun T598 h598 b598 g598 X598 e598 E598 A598 D598 => ?_
 have G_b598 := Nat.le_trans Z0 (Nat.le_of_eq g598.symm)
 have KK598 := (Keep.refl h0 []).ext E598
 have ZN598 := Nat.le_trans Z0 E598.1
 refine c_sh 10 [.ref b598] rfl rfl <| c_dup X598 hx hby d27_10 rfl <| c_aloadN X598 hx hby d27_11 rfl rfl <| c_iloadN X598 hx hby d27_12 rfl <| c_iloadN X598 hx hby d27_13 rfl <| c_iloadN X598 hx hby d27_14 rfl <| c_iadd X598 hx hby d27_15 <| c_sh 16 [.int 4, .int 2, .ref v1, .ref b598, .ref b598] rfl rfl ?_
 have cc600 := P0.ext E598
 refine c_callS X598 hx hby hZ hown hml (gw hw 132 rfl) (gw hw 133 rfl) (gw hw 134 rfl) (gw hw 135 rfl) e598 (rmRC4_2 hw v1 k1 y0 y1 y2 y3 h598 n0 ZN598 cc600) pd_12 rfl d27_16 [.ref b598, .ref b598] rfl 2 (by decide) rfl rfl fun o599 T599 L599 X599 hQ599 => ?_
 obtain ⟨b599, kb599, rfl, N599q, u599_0, u599_1, K599, u599_3, u599_4⟩ := hQ599
 have N599 := Fr.app N0 N599q
 have G_b599 := Nat.le_trans ZN598 u599_0
 have KK599 := KK598.trans K599 all0
 have ZN599 := Nat.le_trans ZN598 K599.1
 refine c_sh 19 [.ref b599, .ref b598, .ref b598] rfl rfl <| c_iconst X599 hx hby 0 d27_19 rfl ?_
 have cc602 := A598.keep K599
 have cc603 := (show Fld Z h598 b598 "java/lang/String" "value" "[B" .null from D598 (Or.inr (gw hw 17 rfl)) (ty := (.array .byte)) (by decide)).keep K599 nin0
 have cc604 := (show fC Z h598 b598 from D598 (Or.inr (gw hw 18 rfl)) (ty := .byte) (by decide)).keep K599 nin0
 refine c_init X599 hx hby hZ hown hml (gw hw 147 rfl) (gw hw 126 rfl) (gw hw 127 rfl) (gw hw 4 rfl) rfl rfl (rm26 hw b598 b599 .null (.int (0 : Int32)) (T599.heap) n0 ZN599 cc602 cc603 cc604 G_b598) pd_13 rfl d27_20 [.ref b598] rfl 1 (by decide) rfl rfl fun o601 T601 L601 X601 hQ601 => ?_
 obtain ⟨rfl, N601q, K601, u601_1, u601_2⟩ := hQ601
 have N601 := Fr.app N599 N601q
 have ne605 : v1 ≠ b598 := (Nat.ne_of_lt (Nat.lt_of_lt_of_le P0.lt (Nat.le_of_eq g598.symm)))
 have ne606 : b599 ≠ b598 := (Ne.symm (Nat.ne_of_lt (Nat.lt_of_lt_of_le A598.lt u599_0)))
 have KK601 := KK599.trans K601 (allS (P := fun x => x ∈ [] ∨ h0.size ≤ x) (Or.inr (Nat.le_trans (Keep.refl h0 []).1 (Nat.le_of_eq g598.symm))) all0)
 have ZN601 := Nat.le_trans ZN599 K601.1
 refine c_sh 23 [.ref b598] rfl rfl ?_
 have cc607 := cc602.keep K601
 have cc608 := u599_4.keep K601 (ninS ne606 nin0)
 exact c_retA X601 hx hby hlk hret d27_23 rfl ⟨rfl, rfl⟩ (by decide) rfl ⟨b598, b599, kb599, rfl, N601, (Nat.le_trans (Keep.refl h0 []).1 (Nat.le_of_eq g598.symm)), G_b598, KK601, cc607, u601_2, u601_1, cc608⟩
def QSB4_2 (Z : State) (a1 : Addr) (w0 : Int32) (f0 : Value) (v1 : Addr) (k1 : ClassId) (y0 y1 y2 y3 : Int32) (h0 : Heap) (n0 : Nat) (v : Option Value) (h : Heap) (L : List Loc) : Prop := ∃ (b : Addr), ∃ (bb : Addr), ∃ (kb : ClassId), v = some (.ref b) ∧ Fr n0 L ∧ h0.size ≤ b ∧ n0 ≤ b ∧ Keep h0 h [] ∧ eS Z h b ∧ fC Z h b ∧ fV Z h b bb ∧ vB Z h bb kb 2 [.int y2, .int y3]
theorem rmSB4_2 {l : Launch} {Z : State} {a0 : Array Value} (hw : HW Z a0) (a1 : Addr) (w0 : Int32) (f0 : Value) (v1 : Addr) (k1 : ClassId) (y0 y1 y2 y3 : Int32) (h0 : Heap) (n0 : Nat) (Z0 : n0 ≤ h0.size) (P0 : sCS Z w0) (P1 : sPF Z f0) (P2 : Old Z n0 h0) (P3 : eS Z h0 a1) (P4 : fC Z h0 a1) (P5 : fV Z h0 a1 v1) (P6 : vB Z h0 v1 k1 4 [.int y0, .int y1, .int y2, .int y3]) (hw0 : ¬ w0 = 0) (hf : f0.isRef = true) : own_M l Z ⟨"java/lang/String", "substring", "(II)Ljava/lang/String;"⟩ jdk_42_method_92_code 5 (some (.object "java/lang/String")) (rmk 4 2 6 86) #[.ref a1, .int 2, .int 4] h0 (QSB4_2 Z a1 w0 f0 v1 k1 y0 y1 y2 y3 h0 n0) := by
 refine own_body rfl (plainFor_of_name pn_16) ?_
 intro p e s m below meth c s₁ hx hby hml hown hnm hlk hret X0 e0 hZ
 have N0 := Fr.nil n0
 show Go _ p e below s _ _ _ (s₁.setTop (mkF m 0 #[rv a1, iv 2, iv 4, .unset, .unset] []))
 refine c_aloadN X0 hx hby d16_0 rfl rfl <| c_callV X0 hx hby hZ hown hml (gw hw 50 rfl) (gw hw 51 rfl) (gw hw 53 rfl) (gw hw 52 rfl) (gw hw 54 rfl) (gw hw 4 rfl) P3 e0 (rm8 hw a1 w0 v1 k1 (4 : Int32) [(.int y0), (.int y1), (.int y2), (.int y3)] h0 n0 Z0 P0 P2 P3 P4 P5 P6 hw0) pd_3 rfl d16_1 [] rfl 0 (by decide) rfl rfl fun o614 T614 L614 X614 hQ614 => ?_
 obtain ⟨rfl, N614q, e614⟩ := hQ614
 have N614 := Fr.app N0 N614q
 refine c_sh 4 [.int 4] rfl rfl <| c_istoreN X614 hx hby _ d16_4 rfl <| c_iloadN X614 hx hby d16_5 rfl <| c_iloadN X614 hx hby d16_6 rfl <| c_iloadN X614 hx hby d16_7 rfl <| c_shL #[rv a1, iv 2, iv 4, iv 4, .unset] rfl <| c_callS X614 hx hby hZ hown hml (gw hw 92 rfl) (gw hw 93 rfl) (gw hw 4 rfl) (gw hw 94 rfl) e614 (rm17 hw (2 : Int32) (4 : Int32) (4 : Int32) f0 h0 n0 Z0 P1 P2 (by decide) (by decide) (by decide) hf) pd_4 rfl d16_8 [] rfl 0 (by decide) rfl rfl fun o615 T615 L615 X615 hQ615 => ?_
 obtain ⟨rfl, N615q, e615⟩ := hQ615
 have N615 := Fr.app N614 N615q
 refine c_sh 11 [] rfl rfl <| c_iloadN X615 hx hby d16_11 rfl <| c_ifYes X615 hx hby 22 d16_12 (by decide) (by decide) <| c_iloadN X615 hx hby d16_22 rfl <| c_iloadN X615 hx hby d16_23 rfl <| c_isub X615 hx hby d16_24 <| c_sh 25 [.int 2] rfl rfl <| c_istore X615 hx hby _ d16_25 rfl <| c_aloadN X615 hx hby d16_27 rfl rfl <| c_shL #[rv a1, iv 2, iv 4, iv 4, iv 2] rfl <| c_callV X615 hx hby hZ hown hml (gw hw 66 rfl) (gw hw 67 rfl) (gw hw 69 rfl) (gw hw 68 rfl) (gw hw 70 rfl) (gw hw 4 rfl) P3 e615 (rm11 hw a1 w0 h0 n0 Z0 P0 P2 P4 hw0) pd_5 rfl d16_28 [] rfl 0 (by decide) rfl rfl fun o616 T616 L616 X616 hQ616 => ?_
 obtain ⟨rfl, N616q, e616⟩ := hQ616
 have N616 := Fr.app N615 N616q
 refine c_sh 31 [.int 1] rfl rfl <| c_ifNo X616 hx hby d16_31 (by decide) <| c_aloadN X616 hx hby d16_34 rfl rfl <| c_getf X616 hx hby hZ hown (gw hw 21 rfl) Via.refl e616 P5 d16_35 fun T617 X617 e617 => ?_
 refine c_sh 38 [.ref v1] rfl rfl <| c_iloadN X617 hx hby d16_38 rfl <| c_iload X617 hx hby d16_39 rfl <| c_callS X617 hx hby hZ hown hml (gw hw 128 rfl) (gw hw 129 rfl) (gw hw 73 rfl) (gw hw 130 rfl) e617 (rmNS4_2 hw v1 k1 y0 y1 y2 y3 h0 n0 Z0 P6) pd_6 rfl d16_41 [] rfl 0 (by decide) rfl rfl fun o618 T618 L618 X618 hQ618 => ?_
 obtain ⟨b618, bb618, kb618, rfl, N618q, u618_0, u618_1, K618, u618_3, u618_4, u618_5, u618_6⟩ := hQ618
 have N618 := Fr.app N616 N618q
 have G_b618 := Nat.le_trans Z0 u618_0
 have KK618 := (Keep.refl h0 []).trans K618 all0
 have ZN618 := Nat.le_trans Z0 K618.1
 have OL618 := P2.keep K618 all0
 refine c_sh 44 [.ref b618] rfl rfl <| c_goto X618 hx hby 57 d16_44 (by decide) ?_
 exact c_retA X618 hx hby hlk hret d16_57 rfl ⟨rfl, rfl⟩ (by decide) rfl ⟨b618, bb618, kb618, rfl, N618, (Nat.le_trans (Keep.refl h0 []).1 u618_0), u618_1, KK618, u618_3, u618_4, u618_5, u618_6⟩
def QSU4_2 (Z : State) (a1 : Addr) (w0 : Int32) (f0 : Value) (v1 : Addr) (k1 : ClassId) (y0 y1 y2 y3 : Int32) (h0 : Heap) (n0 : Nat) (v : Option Value) (h : Heap) (L : List Loc) : Prop := ∃ (b : Addr), ∃ (bb : Addr), ∃ (kb : ClassId), v = some (.ref b) ∧ Fr n0 L ∧ h0.size ≤ b ∧ n0 ≤ b ∧ Keep h0 h [] ∧ eS Z h b ∧ fC Z h b ∧ fV Z h b bb ∧ vB Z h bb kb 2 [.int y2, .int y3]
theorem rmSU4_2 {l : Launch} {Z : State} {a0 : Array Value} (hw : HW Z a0) (a1 : Addr) (w0 : Int32) (f0 : Value) (v1 : Addr) (k1 : ClassId) (y0 y1 y2 y3 : Int32) (h0 : Heap) (n0 : Nat) (Z0 : n0 ≤ h0.size) (P0 : sCS Z w0) (P1 : sPF Z f0) (P2 : Old Z n0 h0) (P3 : eS Z h0 a1) (P4 : fC Z h0 a1) (P5 : fV Z h0 a1 v1) (P6 : vB Z h0 v1 k1 4 [.int y0, .int y1, .int y2, .int y3]) (hw0 : ¬ w0 = 0) (hf : f0.isRef = true) : own_M l Z ⟨"java/lang/String", "substring", "(I)Ljava/lang/String;"⟩ jdk_42_method_91_code 2 (some (.object "java/lang/String")) (rmk 5 2 6 102) #[.ref a1, .int 2] h0 (QSU4_2 Z a1 w0 f0 v1 k1 y0 y1 y2 y3 h0 n0) := by
 refine own_body rfl (plainFor_of_name pn_15) ?_
 intro p e s m below meth c s₁ hx hby hml hown hnm hlk hret X0 e0 hZ
 have N0 := Fr.nil n0
 show Go _ p e below s _ _ _ (s₁.setTop (mkF m 0 #[rv a1, iv 2] []))
 refine c_aloadN X0 hx hby d15_0 rfl rfl <| c_iloadN X0 hx hby d15_1 rfl <| c_aloadN X0 hx hby d15_2 rfl rfl <| c_callV X0 hx hby hZ hown hml (gw hw 50 rfl) (gw hw 51 rfl) (gw hw 53 rfl) (gw hw 52 rfl) (gw hw 54 rfl) (gw hw 4 rfl) P3 e0 (rm8 hw a1 w0 v1 k1 (4 : Int32) [(.int y0), (.int y1), (.int y2), (.int y3)] h0 n0 Z0 P0 P2 P3 P4 P5 P6 hw0) pd_3 rfl d15_3 [.int 2, .ref a1] rfl 2 (by decide) rfl rfl fun o621 T621 L621 X621 hQ621 => ?_
 obtain ⟨rfl, N621q, e621⟩ := hQ621
 have N621 := Fr.app N0 N621q
 refine c_sh 6 [.int 4, .int 2, .ref a1] rfl rfl <| c_callV X621 hx hby hZ hown hml (gw hw 87 rfl) (gw hw 88 rfl) (gw hw 90 rfl) (gw hw 89 rfl) (gw hw 91 rfl) (gw hw 4 rfl) P3 e621 (rmSB4_2 hw a1 w0 f0 v1 k1 y0 y1 y2 y3 h0 n0 Z0 P0 P1 P2 P3 P4 P5 P6 hw0 hf) pd_7 rfl d15_6 [] rfl 0 (by decide) rfl rfl fun o622 T622 L622 X622 hQ622 => ?_
 obtain ⟨b622, bb622, kb622, rfl, N622q, u622_0, u622_1, K622, u622_3, u622_4, u622_5, u622_6⟩ := hQ622
 have N622 := Fr.app N621 N622q
 have G_b622 := Nat.le_trans Z0 u622_0
 have KK622 := (Keep.refl h0 []).trans K622 all0
 have ZN622 := Nat.le_trans Z0 K622.1
 have OL622 := P2.keep K622 all0
 refine c_sh 9 [.ref b622] rfl rfl ?_
 exact c_retA X622 hx hby hlk hret d15_9 rfl ⟨rfl, rfl⟩ (by decide) rfl ⟨b622, bb622, kb622, rfl, N622, (Nat.le_trans (Keep.refl h0 []).1 u622_0), u622_1, KK622, u622_3, u622_4, u622_5, u622_6⟩
def QCL3_4 (Z : State)  (h0 : Heap) (n0 : Nat) (v : Option Value) (h : Heap) (L : List Loc) : Prop := v = none ∧ Fr n0 L ∧ h = h0
theorem rmCL3_4 {l : Launch} {Z : State} {a0 : Array Value} (hw : HW Z a0)  (h0 : Heap) (n0 : Nat) (Z0 : n0 ≤ h0.size)  : own_M l Z ⟨"java/util/Arrays", "checkLength", "(II)V"⟩ jdk_65_method_131_code 2 none (rmk 0 0 0 0) #[.int 3, .int 4] h0 (QCL3_4 Z  h0 n0) := by
 refine own_body rfl (plainFor_of_name pn_30) ?_
 intro p e s m below meth c s₁ hx hby hml hown hnm hlk hret X0 e0 hZ
 have N0 := Fr.nil n0
 show Go _ p e below s _ _ _ (s₁.setTop (mkF m 0 #[iv 3, iv 4] []))
 refine c_iloadN X0 hx hby d30_0 rfl <| c_iloadN X0 hx hby d30_1 rfl <| c_icmpYes X0 hx hby 37 d30_2 (by decide) (by decide) ?_
 exact c_ret0 X0 hx hby hlk hret d30_37 (by decide) e0 ⟨rfl, N0, rfl⟩
def QRB4_3 (Z : State) (v1 : Addr) (k1 : ClassId) (y0 y1 y2 y3 : Int32) (h0 : Heap) (n0 : Nat) (v : Option Value) (h : Heap) (L : List Loc) : Prop := ∃ (b : Addr), ∃ (kb : ClassId), v = some (.ref b) ∧ Fr n0 L ∧ h0.size ≤ b ∧ n0 ≤ b ∧ Keep h0 h [] ∧ Exa Z h b "[B" ∧ vB Z h b kb 1 [.int y3]
theorem rmRB4_3 {l : Launch} {Z : State} {a0 : Array Value} (hw : HW Z a0) (v1 : Addr) (k1 : ClassId) (y0 y1 y2 y3 : Int32) (h0 : Heap) (n0 : Nat) (Z0 : n0 ≤ h0.size) (P0 : vB Z h0 v1 k1 4 [.int y0, .int y1, .int y2, .int y3]) : own_M l Z ⟨"java/util/Arrays", "copyOfRangeByte", "([BII)[B"⟩ jdk_65_method_133_code 5 (some (.array .byte)) (rmk 1 1 1 40) #[.ref v1, .int 3, .int 4] h0 (QRB4_3 Z v1 k1 y0 y1 y2 y3 h0 n0) := by
 refine own_body rfl (plainFor_of_name pn_29) ?_
 intro p e s m below meth c s₁ hx hby hml hown hnm hlk hret X0 e0 hZ
 have N0 := Fr.nil n0
 show Go _ p e below s _ _ _ (s₁.setTop (mkF m 0 #[rv v1, iv 3, iv 4, .unset, .unset] []))
 refine c_iloadN X0 hx hby d29_0 rfl <| c_iloadN X0 hx hby d29_1 rfl <| c_callS X0 hx hby hZ hown hml (gw hw 139 rfl) (gw hw 140 rfl) (gw hw 134 rfl) (gw hw 141 rfl) e0 (rmCL3_4 hw  h0 n0 Z0 ) pd_11 rfl d29_2 [] rfl 0 (by decide) rfl rfl fun o630 T630 L630 X630 hQ630 => ?_
 obtain ⟨rfl, N630q, e630⟩ := hQ630
 have N630 := Fr.app N0 N630q
 refine c_sh 5 [] rfl rfl <| c_iloadN X630 hx hby d29_5 rfl <| c_iloadN X630 hx hby d29_6 rfl <| c_isub X630 hx hby d29_7 <| c_sh 8 [.int 1] rfl rfl <| c_istoreN X630 hx hby _ d29_8 rfl <| c_iloadN X630 hx hby d29_9 rfl <| c_shL #[rv v1, iv 3, iv 4, iv 1, .unset] rfl <| c_newP X630 hx hby hZ (gw hw 16 rfl) e630 d29_10 (by decide) 1 (by decide) (by decide) "[B" (by first | rfl | decide) fun T631 h631 k631 b631 g631 X631 e631 E631 A631 AE631 => ?_
 have G_b631 := Nat.le_trans Z0 (Nat.le_of_eq g631.symm)
 have KK631 := (Keep.refl h0 []).ext E631
 have ZN631 := Nat.le_trans Z0 E631.1
 have V631 : vB Z h631 b631 k631 1 [.int 0] := (Arv.new A631 (by decide)).pad (pad_rep [] (.int (0 : Int32)) 1)
 refine c_sh 12 [.ref b631] rfl rfl <| c_astore X631 hx hby _ d29_12 rfl rfl <| c_aloadN X631 hx hby d29_14 rfl rfl <| c_iloadN X631 hx hby d29_15 rfl <| c_aload X631 hx hby d29_16 rfl rfl <| c_iconst X631 hx hby 0 d29_18 rfl <| c_aloadN X631 hx hby d29_19 rfl rfl <| c_shL #[rv v1, iv 3, iv 4, iv 1, rv b631] rfl ?_
 have cc632 := P0.ext E631
 refine c_alen X631 hx hby hZ e631 cc632 d29_20 <| c_iloadN X631 hx hby d29_21 rfl <| c_isub X631 hx hby d29_22 <| c_sh 23 [.int 1, .int 0, .ref b631, .int 3, .ref v1] rfl rfl <| c_iloadN X631 hx hby d29_23 rfl <| c_callS X631 hx hby hZ hown hml (gw hw 142 rfl) (gw hw 79 rfl) (gw hw 80 rfl) (gw hw 81 rfl) e631 (rmMN1 hw  h631 n0 ZN631 ) pd_9 rfl d29_24 [.int 0, .ref b631, .int 3, .ref v1] rfl 4 (by decide) rfl rfl fun o633 T633 L633 X633 hQ633 => ?_
 obtain ⟨rfl, N633q, e633⟩ := hQ633
 have N633 := Fr.app N630 N633q
 refine c_sh 27 [.int 1, .int 0, .ref b631, .int 3, .ref v1] rfl rfl ?_
 obtain ⟨T634, h634, L634, X634, e634, N634, K634, A634, st634⟩ := cpA X633 hx hZ hown (gw hw 143 rfl) (gw hw 146 rfl) (gw hw 144 rfl) (gw hw 145 rfl) e633 cc632 V631 (us := [(.int y3)]) (Or.inl ⟨rfl, rfl⟩) (by decide) (by decide) (by decide) (by decide) (by decide) rfl (by decide) N633 G_b631 (g := (mkF m 27 #[rv v1, iv 3, iv 4, iv 1, rv b631] [.int 1, .int 0, .ref b631, .int 3, .ref v1])) rfl (by rw [hml]; rfl) rfl (hb hby d29_27) (by decide) (W := 0) (by show 2 * 0 + _ ≤ _; exact Nat.le_of_eq rfl) (by decide)
 have V634 : vB Z h634 b631 k631 1 [.int y3] := A634
 have ne635 : v1 ≠ b631 := (Nat.ne_of_lt (Nat.lt_of_lt_of_le P0.lt (Nat.le_of_eq g631.symm)))
 have KK634 : Keep h0 h634 [] := KK631.trans K634 (allS (P := fun x => x ∈ [] ∨ h0.size ≤ x) (Or.inr (Nat.le_trans (Keep.refl h0 []).1 (Nat.le_of_eq g631.symm))) all0)
 have ZN634 : n0 ≤ h634.size := Nat.le_trans ZN631 K634.1
 refine go st634 ?_
 show Go _ p e below s _ _ _ (T634.setTop (mkF m 30 #[rv v1, iv 3, iv 4, iv 1, rv b631] []))
 refine c_aload X634 hx hby d29_30 rfl rfl ?_
 have cc636 := AE631.keep K634
 exact c_retA X634 hx hby hlk hret d29_32 rfl ⟨rfl, rfl⟩ (by decide) e634 ⟨b631, k631, rfl, N634, (Nat.le_trans (Keep.refl h0 []).1 (Nat.le_of_eq g631.symm)), G_b631, KK634, cc636, V634⟩
def QRC4_3 (Z : State) (v1 : Addr) (k1 : ClassId) (y0 y1 y2 y3 : Int32) (h0 : Heap) (n0 : Nat) (v : Option Value) (h : Heap) (L : List Loc) : Prop := ∃ (b : Addr), ∃ (kb : ClassId), v = some (.ref b) ∧ Fr n0 L ∧ h0.size ≤ b ∧ n0 ≤ b ∧ Keep h0 h [] ∧ Exa Z h b "[B" ∧ vB Z h b kb 1 [.int y3]
theorem rmRC4_3 {l : Launch} {Z : State} {a0 : Array Value} (hw : HW Z a0) (v1 : Addr) (k1 : ClassId) (y0 y1 y2 y3 : Int32) (h0 : Heap) (n0 : Nat) (Z0 : n0 ≤ h0.size) (P0 : vB Z h0 v1 k1 4 [.int y0, .int y1, .int y2, .int y3]) : own_M l Z ⟨"java/util/Arrays", "copyOfRange", "([BII)[B"⟩ jdk_65_method_132_code 3 (some (.array .byte)) (rmk 2 1 1 56) #[.ref v1, .int 3, .int 4] h0 (QRC4_3 Z v1 k1 y0 y1 y2 y3 h0 n0) := by
 refine own_body rfl (plainFor_of_name pn_28) ?_
 intro p e s m below meth c s₁ hx hby hml hown hnm hlk hret X0 e0 hZ
 have N0 := Fr.nil n0
 show Go _ p e below s _ _ _ (s₁.setTop (mkF m 0 #[rv v1, iv 3, iv 4] []))
 refine c_iloadN X0 hx hby d28_0 rfl <| c_ifYes X0 hx hby 10 d28_1 (by decide) (by decide) <| c_aloadN X0 hx hby d28_10 rfl rfl <| c_iloadN X0 hx hby d28_11 rfl <| c_iloadN X0 hx hby d28_12 rfl <| c_callS X0 hx hby hZ hown hml (gw hw 136 rfl) (gw hw 137 rfl) (gw hw 134 rfl) (gw hw 138 rfl) e0 (rmRB4_3 hw v1 k1 y0 y1 y2 y3 h0 n0 Z0 P0) pd_12 rfl d28_13 [] rfl 0 (by decide) rfl rfl fun o638 T638 L638 X638 hQ638 => ?_
 obtain ⟨b638, kb638, rfl, N638q, u638_0, u638_1, K638, u638_3, u638_4⟩ := hQ638
 have N638 := Fr.app N0 N638q
 have G_b638 := Nat.le_trans Z0 u638_0
 have KK638 := (Keep.refl h0 []).trans K638 all0
 have ZN638 := Nat.le_trans Z0 K638.1
 refine c_sh 16 [.ref b638] rfl rfl ?_
 exact c_retA X638 hx hby hlk hret d28_16 rfl ⟨rfl, rfl⟩ (by decide) rfl ⟨b638, kb638, rfl, N638, (Nat.le_trans (Keep.refl h0 []).1 u638_0), u638_1, KK638, u638_3, u638_4⟩
def QNS4_3 (Z : State) (v1 : Addr) (k1 : ClassId) (y0 y1 y2 y3 : Int32) (h0 : Heap) (n0 : Nat) (v : Option Value) (h : Heap) (L : List Loc) : Prop := ∃ (b : Addr), ∃ (bb : Addr), ∃ (kb : ClassId), v = some (.ref b) ∧ Fr n0 L ∧ h0.size ≤ b ∧ n0 ≤ b ∧ Keep h0 h [] ∧ eS Z h b ∧ fC Z h b ∧ fV Z h b bb ∧ vB Z h bb kb 1 [.int y3]
theorem rmNS4_3 {l : Launch} {Z : State} {a0 : Array Value} (hw : HW Z a0) (v1 : Addr) (k1 : ClassId) (y0 y1 y2 y3 : Int32) (h0 : Heap) (n0 : Nat) (Z0 : n0 ≤ h0.size) (P0 : vB Z h0 v1 k1 4 [.int y0, .int y1, .int y2, .int y3]) : own_M l Z ⟨"java/lang/StringLatin1", "newString", "([BII)Ljava/lang/String;"⟩ jdk_43_method_47_code 3 (some (.object "java/lang/String")) (rmk 3 2 5 72) #[.ref v1, .int 3, .int 1] h0 (QNS4_3 Z v1 k1 y0 y1 y2 y3 h0 n0) := by
 refine own_body rfl (plainFor_of_name pn_27) ?_
 intro p e s m below meth c s₁ hx hby hml hown hnm hlk hret X0 e0 hZ
 have N0 := Fr.nil n0
 show Go _ p e below s _ _ _ (s₁.setTop (mkF m 0 #[rv v1, iv 3, iv 1] []))
 refine c_iloadN X0 hx hby d27_0 rfl <| c_ifYes X0 hx hby 7 d27_1 (by decide) (by decide) <| c_new X0 hx hby hZ hown (gw hw 131 rfl) (gw hw 3 rfl) (gw hw 4 rfl) e0 d27_7 (by decide) fun T650 h650 b650 g650 X650 e650 E650 A650 D650 => ?_
 have G_b650 := Nat.le_trans Z0 (Nat.le_of_eq g650.symm)
 have KK650 := (Keep.refl h0 []).ext E650
 have ZN650 := Nat.le_trans Z0 E650.1
 refine c_sh 10 [.ref b650] rfl rfl <| c_dup X650 hx hby d27_10 rfl <| c_aloadN X650 hx hby d27_11 rfl rfl <| c_iloadN X650 hx hby d27_12 rfl <| c_iloadN X650 hx hby d27_13 rfl <| c_iloadN X650 hx hby d27_14 rfl <| c_iadd X650 hx hby d27_15 <| c_sh 16 [.int 4, .int 3, .ref v1, .ref b650, .ref b650] rfl rfl ?_
 have cc652 := P0.ext E650
 refine c_callS X650 hx hby hZ hown hml (gw hw 132 rfl) (gw hw 133 rfl) (gw hw 134 rfl) (gw hw 135 rfl) e650 (rmRC4_3 hw v1 k1 y0 y1 y2 y3 h650 n0 ZN650 cc652) pd_12 rfl d27_16 [.ref b650, .ref b650] rfl 2 (by decide) rfl rfl fun o651 T651 L651 X651 hQ651 => ?_
 obtain ⟨b651, kb651, rfl, N651q, u651_0, u651_1, K651, u651_3, u651_4⟩ := hQ651
 have N651 := Fr.app N0 N651q
 have G_b651 := Nat.le_trans ZN650 u651_0
 have KK651 := KK650.trans K651 all0
 have ZN651 := Nat.le_trans ZN650 K651.1
 refine c_sh 19 [.ref b651, .ref b650, .ref b650] rfl rfl <| c_iconst X651 hx hby 0 d27_19 rfl ?_
 have cc654 := A650.keep K651
 have cc655 := (show Fld Z h650 b650 "java/lang/String" "value" "[B" .null from D650 (Or.inr (gw hw 17 rfl)) (ty := (.array .byte)) (by decide)).keep K651 nin0
 have cc656 := (show fC Z h650 b650 from D650 (Or.inr (gw hw 18 rfl)) (ty := .byte) (by decide)).keep K651 nin0
 refine c_init X651 hx hby hZ hown hml (gw hw 147 rfl) (gw hw 126 rfl) (gw hw 127 rfl) (gw hw 4 rfl) rfl rfl (rm26 hw b650 b651 .null (.int (0 : Int32)) (T651.heap) n0 ZN651 cc654 cc655 cc656 G_b650) pd_13 rfl d27_20 [.ref b650] rfl 1 (by decide) rfl rfl fun o653 T653 L653 X653 hQ653 => ?_
 obtain ⟨rfl, N653q, K653, u653_1, u653_2⟩ := hQ653
 have N653 := Fr.app N651 N653q
 have ne657 : v1 ≠ b650 := (Nat.ne_of_lt (Nat.lt_of_lt_of_le P0.lt (Nat.le_of_eq g650.symm)))
 have ne658 : b651 ≠ b650 := (Ne.symm (Nat.ne_of_lt (Nat.lt_of_lt_of_le A650.lt u651_0)))
 have KK653 := KK651.trans K653 (allS (P := fun x => x ∈ [] ∨ h0.size ≤ x) (Or.inr (Nat.le_trans (Keep.refl h0 []).1 (Nat.le_of_eq g650.symm))) all0)
 have ZN653 := Nat.le_trans ZN651 K653.1
 refine c_sh 23 [.ref b650] rfl rfl ?_
 have cc659 := cc654.keep K653
 have cc660 := u651_4.keep K653 (ninS ne658 nin0)
 exact c_retA X653 hx hby hlk hret d27_23 rfl ⟨rfl, rfl⟩ (by decide) rfl ⟨b650, b651, kb651, rfl, N653, (Nat.le_trans (Keep.refl h0 []).1 (Nat.le_of_eq g650.symm)), G_b650, KK653, cc659, u653_2, u653_1, cc660⟩
def QSB4_3 (Z : State) (a1 : Addr) (w0 : Int32) (f0 : Value) (v1 : Addr) (k1 : ClassId) (y0 y1 y2 y3 : Int32) (h0 : Heap) (n0 : Nat) (v : Option Value) (h : Heap) (L : List Loc) : Prop := ∃ (b : Addr), ∃ (bb : Addr), ∃ (kb : ClassId), v = some (.ref b) ∧ Fr n0 L ∧ h0.size ≤ b ∧ n0 ≤ b ∧ Keep h0 h [] ∧ eS Z h b ∧ fC Z h b ∧ fV Z h b bb ∧ vB Z h bb kb 1 [.int y3]
theorem rmSB4_3 {l : Launch} {Z : State} {a0 : Array Value} (hw : HW Z a0) (a1 : Addr) (w0 : Int32) (f0 : Value) (v1 : Addr) (k1 : ClassId) (y0 y1 y2 y3 : Int32) (h0 : Heap) (n0 : Nat) (Z0 : n0 ≤ h0.size) (P0 : sCS Z w0) (P1 : sPF Z f0) (P2 : Old Z n0 h0) (P3 : eS Z h0 a1) (P4 : fC Z h0 a1) (P5 : fV Z h0 a1 v1) (P6 : vB Z h0 v1 k1 4 [.int y0, .int y1, .int y2, .int y3]) (hw0 : ¬ w0 = 0) (hf : f0.isRef = true) : own_M l Z ⟨"java/lang/String", "substring", "(II)Ljava/lang/String;"⟩ jdk_42_method_92_code 5 (some (.object "java/lang/String")) (rmk 4 2 5 86) #[.ref a1, .int 3, .int 4] h0 (QSB4_3 Z a1 w0 f0 v1 k1 y0 y1 y2 y3 h0 n0) := by
 refine own_body rfl (plainFor_of_name pn_16) ?_
 intro p e s m below meth c s₁ hx hby hml hown hnm hlk hret X0 e0 hZ
 have N0 := Fr.nil n0
 show Go _ p e below s _ _ _ (s₁.setTop (mkF m 0 #[rv a1, iv 3, iv 4, .unset, .unset] []))
 refine c_aloadN X0 hx hby d16_0 rfl rfl <| c_callV X0 hx hby hZ hown hml (gw hw 50 rfl) (gw hw 51 rfl) (gw hw 53 rfl) (gw hw 52 rfl) (gw hw 54 rfl) (gw hw 4 rfl) P3 e0 (rm8 hw a1 w0 v1 k1 (4 : Int32) [(.int y0), (.int y1), (.int y2), (.int y3)] h0 n0 Z0 P0 P2 P3 P4 P5 P6 hw0) pd_3 rfl d16_1 [] rfl 0 (by decide) rfl rfl fun o666 T666 L666 X666 hQ666 => ?_
 obtain ⟨rfl, N666q, e666⟩ := hQ666
 have N666 := Fr.app N0 N666q
 refine c_sh 4 [.int 4] rfl rfl <| c_istoreN X666 hx hby _ d16_4 rfl <| c_iloadN X666 hx hby d16_5 rfl <| c_iloadN X666 hx hby d16_6 rfl <| c_iloadN X666 hx hby d16_7 rfl <| c_shL #[rv a1, iv 3, iv 4, iv 4, .unset] rfl <| c_callS X666 hx hby hZ hown hml (gw hw 92 rfl) (gw hw 93 rfl) (gw hw 4 rfl) (gw hw 94 rfl) e666 (rm17 hw (3 : Int32) (4 : Int32) (4 : Int32) f0 h0 n0 Z0 P1 P2 (by decide) (by decide) (by decide) hf) pd_4 rfl d16_8 [] rfl 0 (by decide) rfl rfl fun o667 T667 L667 X667 hQ667 => ?_
 obtain ⟨rfl, N667q, e667⟩ := hQ667
 have N667 := Fr.app N666 N667q
 refine c_sh 11 [] rfl rfl <| c_iloadN X667 hx hby d16_11 rfl <| c_ifYes X667 hx hby 22 d16_12 (by decide) (by decide) <| c_iloadN X667 hx hby d16_22 rfl <| c_iloadN X667 hx hby d16_23 rfl <| c_isub X667 hx hby d16_24 <| c_sh 25 [.int 1] rfl rfl <| c_istore X667 hx hby _ d16_25 rfl <| c_aloadN X667 hx hby d16_27 rfl rfl <| c_shL #[rv a1, iv 3, iv 4, iv 4, iv 1] rfl <| c_callV X667 hx hby hZ hown hml (gw hw 66 rfl) (gw hw 67 rfl) (gw hw 69 rfl) (gw hw 68 rfl) (gw hw 70 rfl) (gw hw 4 rfl) P3 e667 (rm11 hw a1 w0 h0 n0 Z0 P0 P2 P4 hw0) pd_5 rfl d16_28 [] rfl 0 (by decide) rfl rfl fun o668 T668 L668 X668 hQ668 => ?_
 obtain ⟨rfl, N668q, e668⟩ := hQ668
 have N668 := Fr.app N667 N668q
 refine c_sh 31 [.int 1] rfl rfl <| c_ifNo X668 hx hby d16_31 (by decide) <| c_aloadN X668 hx hby d16_34 rfl rfl <| c_getf X668 hx hby hZ hown (gw hw 21 rfl) Via.refl e668 P5 d16_35 fun T669 X669 e669 => ?_
 refine c_sh 38 [.ref v1] rfl rfl <| c_iloadN X669 hx hby d16_38 rfl <| c_iload X669 hx hby d16_39 rfl <| c_callS X669 hx hby hZ hown hml (gw hw 128 rfl) (gw hw 129 rfl) (gw hw 73 rfl) (gw hw 130 rfl) e669 (rmNS4_3 hw v1 k1 y0 y1 y2 y3 h0 n0 Z0 P6) pd_6 rfl d16_41 [] rfl 0 (by decide) rfl rfl fun o670 T670 L670 X670 hQ670 => ?_
 obtain ⟨b670, bb670, kb670, rfl, N670q, u670_0, u670_1, K670, u670_3, u670_4, u670_5, u670_6⟩ := hQ670
 have N670 := Fr.app N668 N670q
 have G_b670 := Nat.le_trans Z0 u670_0
 have KK670 := (Keep.refl h0 []).trans K670 all0
 have ZN670 := Nat.le_trans Z0 K670.1
 have OL670 := P2.keep K670 all0
 refine c_sh 44 [.ref b670] rfl rfl <| c_goto X670 hx hby 57 d16_44 (by decide) ?_
 exact c_retA X670 hx hby hlk hret d16_57 rfl ⟨rfl, rfl⟩ (by decide) rfl ⟨b670, bb670, kb670, rfl, N670, (Nat.le_trans (Keep.refl h0 []).1 u670_0), u670_1, KK670, u670_3, u670_4, u670_5, u670_6⟩
def QSU4_3 (Z : State) (a1 : Addr) (w0 : Int32) (f0 : Value) (v1 : Addr) (k1 : ClassId) (y0 y1 y2 y3 : Int32) (h0 : Heap) (n0 : Nat) (v : Option Value) (h : Heap) (L : List Loc) : Prop := ∃ (b : Addr), ∃ (bb : Addr), ∃ (kb : ClassId), v = some (.ref b) ∧ Fr n0 L ∧ h0.size ≤ b ∧ n0 ≤ b ∧ Keep h0 h [] ∧ eS Z h b ∧ fC Z h b ∧ fV Z h b bb ∧ vB Z h bb kb 1 [.int y3]
theorem rmSU4_3 {l : Launch} {Z : State} {a0 : Array Value} (hw : HW Z a0) (a1 : Addr) (w0 : Int32) (f0 : Value) (v1 : Addr) (k1 : ClassId) (y0 y1 y2 y3 : Int32) (h0 : Heap) (n0 : Nat) (Z0 : n0 ≤ h0.size) (P0 : sCS Z w0) (P1 : sPF Z f0) (P2 : Old Z n0 h0) (P3 : eS Z h0 a1) (P4 : fC Z h0 a1) (P5 : fV Z h0 a1 v1) (P6 : vB Z h0 v1 k1 4 [.int y0, .int y1, .int y2, .int y3]) (hw0 : ¬ w0 = 0) (hf : f0.isRef = true) : own_M l Z ⟨"java/lang/String", "substring", "(I)Ljava/lang/String;"⟩ jdk_42_method_91_code 2 (some (.object "java/lang/String")) (rmk 5 2 5 102) #[.ref a1, .int 3] h0 (QSU4_3 Z a1 w0 f0 v1 k1 y0 y1 y2 y3 h0 n0) := by
 refine own_body rfl (plainFor_of_name pn_15) ?_
 intro p e s m below meth c s₁ hx hby hml hown hnm hlk hret X0 e0 hZ
 have N0 := Fr.nil n0
 show Go _ p e below s _ _ _ (s₁.setTop (mkF m 0 #[rv a1, iv 3] []))
 refine c_aloadN X0 hx hby d15_0 rfl rfl <| c_iloadN X0 hx hby d15_1 rfl <| c_aloadN X0 hx hby d15_2 rfl rfl <| c_callV X0 hx hby hZ hown hml (gw hw 50 rfl) (gw hw 51 rfl) (gw hw 53 rfl) (gw hw 52 rfl) (gw hw 54 rfl) (gw hw 4 rfl) P3 e0 (rm8 hw a1 w0 v1 k1 (4 : Int32) [(.int y0), (.int y1), (.int y2), (.int y3)] h0 n0 Z0 P0 P2 P3 P4 P5 P6 hw0) pd_3 rfl d15_3 [.int 3, .ref a1] rfl 2 (by decide) rfl rfl fun o673 T673 L673 X673 hQ673 => ?_
 obtain ⟨rfl, N673q, e673⟩ := hQ673
 have N673 := Fr.app N0 N673q
 refine c_sh 6 [.int 4, .int 3, .ref a1] rfl rfl <| c_callV X673 hx hby hZ hown hml (gw hw 87 rfl) (gw hw 88 rfl) (gw hw 90 rfl) (gw hw 89 rfl) (gw hw 91 rfl) (gw hw 4 rfl) P3 e673 (rmSB4_3 hw a1 w0 f0 v1 k1 y0 y1 y2 y3 h0 n0 Z0 P0 P1 P2 P3 P4 P5 P6 hw0 hf) pd_7 rfl d15_6 [] rfl 0 (by decide) rfl rfl fun o674 T674 L674 X674 hQ674 => ?_
 obtain ⟨b674, bb674, kb674, rfl, N674q, u674_0, u674_1, K674, u674_3, u674_4, u674_5, u674_6⟩ := hQ674
 have N674 := Fr.app N673 N674q
 have G_b674 := Nat.le_trans Z0 u674_0
 have KK674 := (Keep.refl h0 []).trans K674 all0
 have ZN674 := Nat.le_trans Z0 K674.1
 have OL674 := P2.keep K674 all0
 refine c_sh 9 [.ref b674] rfl rfl ?_
 exact c_retA X674 hx hby hlk hret d15_9 rfl ⟨rfl, rfl⟩ (by decide) rfl ⟨b674, bb674, kb674, rfl, N674, (Nat.le_trans (Keep.refl h0 []).1 u674_0), u674_1, KK674, u674_3, u674_4, u674_5, u674_6⟩
def QSB0_0 (Z : State) (a1 : Addr) (w0 : Int32) (f0 : Value) (v1 : Addr) (k1 : ClassId) (h0 : Heap) (n0 : Nat) (v : Option Value) (h : Heap) (L : List Loc) : Prop := v = some (.ref a1) ∧ Fr n0 L ∧ h = h0
theorem rmSB0_0 {l : Launch} {Z : State} {a0 : Array Value} (hw : HW Z a0) (a1 : Addr) (w0 : Int32) (f0 : Value) (v1 : Addr) (k1 : ClassId) (h0 : Heap) (n0 : Nat) (Z0 : n0 ≤ h0.size) (P0 : sCS Z w0) (P1 : sPF Z f0) (P2 : Old Z n0 h0) (P3 : eS Z h0 a1) (P4 : fC Z h0 a1) (P5 : fV Z h0 a1 v1) (P6 : vB Z h0 v1 k1 0 []) (hw0 : ¬ w0 = 0) (hf : f0.isRef = true) : own_M l Z ⟨"java/lang/String", "substring", "(II)Ljava/lang/String;"⟩ jdk_42_method_92_code 5 (some (.object "java/lang/String")) (rmk 2 0 0 29) #[.ref a1, .int 0, .int 0] h0 (QSB0_0 Z a1 w0 f0 v1 k1 h0 n0) := by
 refine own_body rfl (plainFor_of_name pn_16) ?_
 intro p e s m below meth c s₁ hx hby hml hown hnm hlk hret X0 e0 hZ
 have N0 := Fr.nil n0
 show Go _ p e below s _ _ _ (s₁.setTop (mkF m 0 #[rv a1, iv 0, iv 0, .unset, .unset] []))
 refine c_aloadN X0 hx hby d16_0 rfl rfl <| c_callV X0 hx hby hZ hown hml (gw hw 50 rfl) (gw hw 51 rfl) (gw hw 53 rfl) (gw hw 52 rfl) (gw hw 54 rfl) (gw hw 4 rfl) P3 e0 (rm8 hw a1 w0 v1 k1 (0 : Int32) [] h0 n0 Z0 P0 P2 P3 P4 P5 P6 hw0) pd_3 rfl d16_1 [] rfl 0 (by decide) rfl rfl fun o677 T677 L677 X677 hQ677 => ?_
 obtain ⟨rfl, N677q, e677⟩ := hQ677
 have N677 := Fr.app N0 N677q
 refine c_sh 4 [.int 0] rfl rfl <| c_istoreN X677 hx hby _ d16_4 rfl <| c_iloadN X677 hx hby d16_5 rfl <| c_iloadN X677 hx hby d16_6 rfl <| c_iloadN X677 hx hby d16_7 rfl <| c_shL #[rv a1, iv 0, iv 0, iv 0, .unset] rfl <| c_callS X677 hx hby hZ hown hml (gw hw 92 rfl) (gw hw 93 rfl) (gw hw 4 rfl) (gw hw 94 rfl) e677 (rm17 hw (0 : Int32) (0 : Int32) (0 : Int32) f0 h0 n0 Z0 P1 P2 (by decide) (by decide) (by decide) hf) pd_4 rfl d16_8 [] rfl 0 (by decide) rfl rfl fun o678 T678 L678 X678 hQ678 => ?_
 obtain ⟨rfl, N678q, e678⟩ := hQ678
 have N678 := Fr.app N677 N678q
 refine c_sh 11 [] rfl rfl <| c_iloadN X678 hx hby d16_11 rfl <| c_ifNo X678 hx hby d16_12 ((if0 _ _).trans (teq (rfl : (0 : Int32) = (0 : Int32))).2) <| c_iloadN X678 hx hby d16_15 rfl <| c_iloadN X678 hx hby d16_16 rfl <| c_icmpNo X678 hx hby d16_17 (teq (rfl : (0 : Int32) = (0 : Int32))).2 <| c_aloadN X678 hx hby d16_20 rfl rfl ?_
 exact c_retA X678 hx hby hlk hret d16_21 rfl ⟨rfl, rfl⟩ (by decide) e678 ⟨rfl, N678, rfl⟩
def QSU0_0 (Z : State) (a1 : Addr) (w0 : Int32) (f0 : Value) (v1 : Addr) (k1 : ClassId) (h0 : Heap) (n0 : Nat) (v : Option Value) (h : Heap) (L : List Loc) : Prop := v = some (.ref a1) ∧ Fr n0 L ∧ h = h0
theorem rmSU0_0 {l : Launch} {Z : State} {a0 : Array Value} (hw : HW Z a0) (a1 : Addr) (w0 : Int32) (f0 : Value) (v1 : Addr) (k1 : ClassId) (h0 : Heap) (n0 : Nat) (Z0 : n0 ≤ h0.size) (P0 : sCS Z w0) (P1 : sPF Z f0) (P2 : Old Z n0 h0) (P3 : eS Z h0 a1) (P4 : fC Z h0 a1) (P5 : fV Z h0 a1 v1) (P6 : vB Z h0 v1 k1 0 []) (hw0 : ¬ w0 = 0) (hf : f0.isRef = true) : own_M l Z ⟨"java/lang/String", "substring", "(I)Ljava/lang/String;"⟩ jdk_42_method_91_code 2 (some (.object "java/lang/String")) (rmk 3 0 0 45) #[.ref a1, .int 0] h0 (QSU0_0 Z a1 w0 f0 v1 k1 h0 n0) := by
 refine own_body rfl (plainFor_of_name pn_15) ?_
 intro p e s m below meth c s₁ hx hby hml hown hnm hlk hret X0 e0 hZ
 have N0 := Fr.nil n0
 show Go _ p e below s _ _ _ (s₁.setTop (mkF m 0 #[rv a1, iv 0] []))
 refine c_aloadN X0 hx hby d15_0 rfl rfl <| c_iloadN X0 hx hby d15_1 rfl <| c_aloadN X0 hx hby d15_2 rfl rfl <| c_callV X0 hx hby hZ hown hml (gw hw 50 rfl) (gw hw 51 rfl) (gw hw 53 rfl) (gw hw 52 rfl) (gw hw 54 rfl) (gw hw 4 rfl) P3 e0 (rm8 hw a1 w0 v1 k1 (0 : Int32) [] h0 n0 Z0 P0 P2 P3 P4 P5 P6 hw0) pd_3 rfl d15_3 [.int 0, .ref a1] rfl 2 (by decide) rfl rfl fun o681 T681 L681 X681 hQ681 => ?_
 obtain ⟨rfl, N681q, e681⟩ := hQ681
 have N681 := Fr.app N0 N681q
 refine c_sh 6 [.int 0, .int 0, .ref a1] rfl rfl <| c_callV X681 hx hby hZ hown hml (gw hw 87 rfl) (gw hw 88 rfl) (gw hw 90 rfl) (gw hw 89 rfl) (gw hw 91 rfl) (gw hw 4 rfl) P3 e681 (rmSB0_0 hw a1 w0 f0 v1 k1 h0 n0 Z0 P0 P1 P2 P3 P4 P5 P6 hw0 hf) pd_7 rfl d15_6 [] rfl 0 (by decide) rfl rfl fun o682 T682 L682 X682 hQ682 => ?_
 obtain ⟨rfl, N682q, e682⟩ := hQ682
 have N682 := Fr.app N681 N682q
 refine c_sh 9 [.ref a1] rfl rfl ?_
 exact c_retA X682 hx hby hlk hret d15_9 rfl ⟨rfl, rfl⟩ (by decide) e682 ⟨rfl, N682, rfl⟩
theorem d21_0 : decode jdk_52_method_21_code 0 = .ok (.iconst 0, 1) := by decide +kernel
theorem d21_1 : decode jdk_52_method_21_code 1 = .ok (.istore 5, 2) := by decide +kernel
theorem d21_3 : decode jdk_52_method_21_code 3 = .ok (.iload 5, 2) := by decide +kernel
theorem d21_5 : decode jdk_52_method_21_code 5 = .ok (.iload 4, 2) := by decide +kernel
theorem d21_7 : decode jdk_52_method_21_code 7 = .ok (.if_icmp .ge 37, 3) := by decide +kernel
theorem d21_10 : decode jdk_52_method_21_code 10 = .ok (.aload_n 0, 1) := by decide +kernel
theorem d21_11 : decode jdk_52_method_21_code 11 = .ok (.iload_n 1, 1) := by decide +kernel
theorem d21_12 : decode jdk_52_method_21_code 12 = .ok (.caload, 1) := by decide +kernel
theorem d21_13 : decode jdk_52_method_21_code 13 = .ok (.istore 6, 2) := by decide +kernel
theorem d21_15 : decode jdk_52_method_21_code 15 = .ok (.iload 6, 2) := by decide +kernel
theorem d21_17 : decode jdk_52_method_21_code 17 = .ok (.sipush 255, 3) := by decide +kernel
theorem d21_20 : decode jdk_52_method_21_code 20 = .ok (.if_icmp .le 6, 3) := by decide +kernel
theorem d21_26 : decode jdk_52_method_21_code 26 = .ok (.aload_n 2, 1) := by decide +kernel
theorem d21_27 : decode jdk_52_method_21_code 27 = .ok (.iload_n 3, 1) := by decide +kernel
theorem d21_28 : decode jdk_52_method_21_code 28 = .ok (.iload 6, 2) := by decide +kernel
theorem d21_30 : decode jdk_52_method_21_code 30 = .ok (.i2b, 1) := by decide +kernel
theorem d21_31 : decode jdk_52_method_21_code 31 = .ok (.bastore, 1) := by decide +kernel
theorem d21_32 : decode jdk_52_method_21_code 32 = .ok (.iinc 1 1, 3) := by decide +kernel
theorem d21_35 : decode jdk_52_method_21_code 35 = .ok (.iinc 3 1, 3) := by decide +kernel
theorem d21_38 : decode jdk_52_method_21_code 38 = .ok (.iinc 5 1, 3) := by decide +kernel
theorem d21_41 : decode jdk_52_method_21_code 41 = .ok (.goto (-38), 3) := by decide +kernel
theorem d21_44 : decode jdk_52_method_21_code 44 = .ok (.iload 4, 2) := by decide +kernel
theorem d21_46 : decode jdk_52_method_21_code 46 = .ok (.ireturn, 1) := by decide +kernel
theorem pn_21 : plainName "java/lang/StringUTF16" = true := by first | (simp [plainName, overriddenIn]; done) | decide +kernel
def QCP1 (Z : State) (a1 a3 : Addr) (ka kb : ClassId) (c0 : Int32) (h0 : Heap) (n0 : Nat) (v : Option Value) (h : Heap) (L : List Loc) : Prop := v = some (.int (1 : Int32)) ∧ Fr n0 L ∧ Keep h0 h [a3] ∧ vB Z h a3 kb 1 [(.int (c0.toInt8.toInt32))]
theorem rmCP1 {l : Launch} {Z : State} {a0 : Array Value} (hw : HW Z a0) (a1 a3 : Addr) (ka kb : ClassId) (c0 : Int32) (h0 : Heap) (n0 : Nat) (Z0 : n0 ≤ h0.size) (P0 : Arv Z h0 a1 ka .char (1 : Int32) [(.int c0)] (.int (0 : Int32))) (P1 : vB Z h0 a3 kb 1 [.int 0]) (P2 : n0 ≤ a3) (P3 : a1 ≠ a3) (ho0 : own_ch c0) : own_M l Z ⟨"java/lang/StringUTF16", "compress", "([CI[BII)I"⟩ jdk_52_method_21_code 7 (some .int) (rmk 0 0 0 0) #[.ref a1, .int 0, .ref a3, .int 0, .int 1] h0 (QCP1 Z a1 a3 ka kb c0 h0 n0) := by
 refine own_body rfl (plainFor_of_name pn_21) ?_
 intro p e s m below meth c s₁ hx hby hml hown hnm hlk hret X0 e0 hZ
 have N0 := Fr.nil n0
 show Go _ p e below s _ _ _ (s₁.setTop (mkF m 0 #[rv a1, iv 0, rv a3, iv 0, iv 1, .unset, .unset] []))
 refine c_iconst X0 hx hby 0 d21_0 rfl <| c_istore X0 hx hby _ d21_1 rfl <| c_iload X0 hx hby d21_3 rfl <| c_iload X0 hx hby d21_5 rfl <| c_icmpNo X0 hx hby d21_7 (by decide) <| c_aloadN X0 hx hby d21_10 rfl rfl <| c_iloadN X0 hx hby d21_11 rfl <| c_cal X0 hx hby hZ e0 P0 (by decide) (.int c0) rfl d21_12 <| c_istore X0 hx hby _ d21_13 rfl <| c_iload X0 hx hby d21_15 rfl <| c_sipush X0 hx hby 255 d21_17 rfl <| c_icmpYes X0 hx hby 26 d21_20 (flt (own_le ho0)).2.2.2 (by decide) <| c_aloadN X0 hx hby d21_26 rfl rfl <| c_iloadN X0 hx hby d21_27 rfl <| c_iload X0 hx hby d21_28 rfl <| c_i2b X0 hx hby d21_30 <| c_shL #[rv a1, iv 0, rv a3, iv 0, iv 1, iv 0, iv c0] rfl <| c_bst X0 hx hby hZ e0 P1 (by decide) 0 rfl (Nat.le_of_ble_eq_true rfl) d21_31 fun T684 h684 X684 e684 W684 V684 => ?_
 rw [own_nb ho0] at V684
 have V684 : vB Z h684 a3 kb 1 [(.int (c0.toInt8.toInt32))] := V684
 have KK684 := (Keep.refl h0 [a3]).wr W684 (Or.inl (List.mem_of_getElem? (i := 0) rfl))
 have ZN684 := Nat.le_trans Z0 (Keep.of_wr W684).1
 have NN684 := Fr.snoc X684 N0 P2
 refine c_sh 32 [] rfl rfl <| c_iinc X684 hx hby #[rv a1, iv 1, rv a3, iv 0, iv 1, iv 0, iv c0] d21_32 rfl rfl <| c_iinc X684 hx hby #[rv a1, iv 1, rv a3, iv 1, iv 1, iv 0, iv c0] d21_35 rfl rfl <| c_iinc X684 hx hby #[rv a1, iv 1, rv a3, iv 1, iv 1, iv 1, iv c0] d21_38 rfl rfl <| c_goto X684 hx hby 3 d21_41 (by decide) <| c_iload X684 hx hby d21_3 rfl <| c_iload X684 hx hby d21_5 rfl <| c_icmpYes X684 hx hby 44 d21_7 (by decide) (by decide) <| c_iload X684 hx hby d21_44 rfl ?_
 refine c_retI X684 hx hby hlk hret d21_46 rfl (by simp) (by decide) e684 ⟨rfl, NN684, KK684, V684⟩
theorem d20_0 : decode jdk_52_method_16_code 0 = .ok (.iload_n 2, 1) := by decide +kernel
theorem d20_1 : decode jdk_52_method_16_code 1 = .ok (.newarray .byte, 2) := by decide +kernel
theorem d20_3 : decode jdk_52_method_16_code 3 = .ok (.astore_n 3, 1) := by decide +kernel
theorem d20_4 : decode jdk_52_method_16_code 4 = .ok (.aload_n 0, 1) := by decide +kernel
theorem d20_5 : decode jdk_52_method_16_code 5 = .ok (.iload_n 1, 1) := by decide +kernel
theorem d20_6 : decode jdk_52_method_16_code 6 = .ok (.aload_n 3, 1) := by decide +kernel
theorem d20_7 : decode jdk_52_method_16_code 7 = .ok (.iconst 0, 1) := by decide +kernel
theorem d20_8 : decode jdk_52_method_16_code 8 = .ok (.iload_n 2, 1) := by decide +kernel
theorem d20_9 : decode jdk_52_method_16_code 9 = .ok (.invokestatic 115, 3) := by decide +kernel
theorem d20_12 : decode jdk_52_method_16_code 12 = .ok (.istore 4, 2) := by decide +kernel
theorem d20_14 : decode jdk_52_method_16_code 14 = .ok (.iload 4, 2) := by decide +kernel
theorem d20_16 : decode jdk_52_method_16_code 16 = .ok (.iload_n 2, 1) := by decide +kernel
theorem d20_17 : decode jdk_52_method_16_code 17 = .ok (.if_icmp .eq 40, 3) := by decide +kernel
theorem d20_57 : decode jdk_52_method_16_code 57 = .ok (.aload_n 3, 1) := by decide +kernel
theorem d20_58 : decode jdk_52_method_16_code 58 = .ok (.areturn, 1) := by decide +kernel
theorem pn_20 : plainName "java/lang/StringUTF16" = true := by first | (simp [plainName, overriddenIn]; done) | decide +kernel
theorem pd_14 : parseMethodDescriptor "([CI[BII)I" = some ⟨[(.array .char), .int, (.array .byte), .int, .int], some .int⟩ := by decide +kernel
def QCM1 (Z : State) (a1 : Addr) (ka : ClassId) (c0 : Int32) (h0 : Heap) (n0 : Nat) (v : Option Value) (h : Heap) (L : List Loc) : Prop := ∃ (b : Addr), ∃ (kb : ClassId), v = some (.ref b) ∧ Fr n0 L ∧ h0.size ≤ b ∧ n0 ≤ b ∧ Keep h0 h [] ∧ Exa Z h b "[B" ∧ vB Z h b kb 1 [(.int (c0.toInt8.toInt32))]
theorem rmCM1 {l : Launch} {Z : State} {a0 : Array Value} (hw : HW Z a0) (a1 : Addr) (ka : ClassId) (c0 : Int32) (h0 : Heap) (n0 : Nat) (Z0 : n0 ≤ h0.size) (P0 : Arv Z h0 a1 ka .char (1 : Int32) [(.int c0)] (.int (0 : Int32))) (ho0 : own_ch c0) : own_M l Z ⟨"java/lang/StringUTF16", "compress", "([CII)[B"⟩ jdk_52_method_16_code 6 (some (.array .byte)) (rmk 1 1 1 18) #[.ref a1, .int 0, .int 1] h0 (QCM1 Z a1 ka c0 h0 n0) := by
 refine own_body rfl (plainFor_of_name pn_20) ?_
 intro p e s m below meth c s₁ hx hby hml hown hnm hlk hret X0 e0 hZ
 have N0 := Fr.nil n0
 show Go _ p e below s _ _ _ (s₁.setTop (mkF m 0 #[rv a1, iv 0, iv 1, .unset, .unset, .unset] []))
 refine c_iloadN X0 hx hby d20_0 rfl <| c_newP X0 hx hby hZ (gw hw 16 rfl) e0 d20_1 (by decide) 1 (by decide) (by decide) "[B" (by first | rfl | decide) fun T690 h690 k690 b690 g690 X690 e690 E690 A690 AE690 => ?_
 have G_b690 := Nat.le_trans Z0 (Nat.le_of_eq g690.symm)
 have KK690 := (Keep.refl h0 []).ext E690
 have ZN690 := Nat.le_trans Z0 E690.1
 have V690 : vB Z h690 b690 k690 1 [.int 0] := (Arv.new A690 (by decide)).pad (pad_rep [] (.int (0 : Int32)) 1)
 refine c_sh 3 [.ref b690] rfl rfl <| c_astoreN X690 hx hby _ d20_3 rfl rfl <| c_aloadN X690 hx hby d20_4 rfl rfl <| c_iloadN X690 hx hby d20_5 rfl <| c_aloadN X690 hx hby d20_6 rfl rfl <| c_iconst X690 hx hby 0 d20_7 rfl <| c_iloadN X690 hx hby d20_8 rfl <| c_shL #[rv a1, iv 0, iv 1, rv b690, .unset, .unset] rfl ?_
 have cc692 := P0.ext E690
 have ne693 : a1 ≠ b690 := (Nat.ne_of_lt (Nat.lt_of_lt_of_le P0.lt (Nat.le_of_eq g690.symm)))
 refine c_callS X690 hx hby hZ hown hml (gw hw 109 rfl) (gw hw 110 rfl) (gw hw 107 rfl) (gw hw 111 rfl) e690 (rmCP1 hw a1 b690 ka k690 c0 h690 n0 ZN690 cc692 V690 G_b690 ne693 ho0) pd_14 rfl d20_9 [] rfl 0 (by decide) rfl rfl fun o691 T691 L691 X691 hQ691 => ?_
 obtain ⟨rfl, N691q, K691, u691_1⟩ := hQ691
 have N691 := Fr.app N0 N691q
 have KK691 := KK690.trans K691 (allS (P := fun x => x ∈ [] ∨ h0.size ≤ x) (Or.inr (Nat.le_trans (Keep.refl h0 []).1 (Nat.le_of_eq g690.symm))) all0)
 have ZN691 := Nat.le_trans ZN690 K691.1
 refine c_sh 12 [.int 1] rfl rfl <| c_istore X691 hx hby _ d20_12 rfl <| c_iload X691 hx hby d20_14 rfl <| c_iloadN X691 hx hby d20_16 rfl <| c_icmpYes X691 hx hby 57 d20_17 (teq (rfl : (1 : Int32) = (1 : Int32))).1 (by decide) <| c_aloadN X691 hx hby d20_57 rfl rfl <| c_shL #[rv a1, iv 0, iv 1, rv b690, iv 1, .unset] rfl ?_
 have cc694 := AE690.keep K691
 exact c_retA X691 hx hby hlk hret d20_58 rfl ⟨rfl, rfl⟩ (by decide) rfl ⟨b690, k690, rfl, N691, (Nat.le_trans (Keep.refl h0 []).1 (Nat.le_of_eq g690.symm)), G_b690, KK691, cc694, u691_1⟩
theorem d22_0 : decode jdk_52_method_15_code 0 = .ok (.iload_n 1, 1) := by decide +kernel
theorem d22_1 : decode jdk_52_method_15_code 1 = .ok (.aload_n 0, 1) := by decide +kernel
theorem d22_2 : decode jdk_52_method_15_code 2 = .ok (.arraylength, 1) := by decide +kernel
theorem d22_3 : decode jdk_52_method_15_code 3 = .ok (.isub, 1) := by decide +kernel
theorem d22_4 : decode jdk_52_method_15_code 4 = .ok (.bipush 31, 2) := by decide +kernel
theorem d22_6 : decode jdk_52_method_15_code 6 = .ok (.iushr, 1) := by decide +kernel
theorem d22_7 : decode jdk_52_method_15_code 7 = .ok (.i2b, 1) := by decide +kernel
theorem d22_8 : decode jdk_52_method_15_code 8 = .ok (.ireturn, 1) := by decide +kernel
theorem pn_22 : plainName "java/lang/StringUTF16" = true := by first | (simp [plainName, overriddenIn]; done) | decide +kernel
def QCA1 (Z : State) (a1 : Addr) (kb : ClassId) (vs1 : List Value) (h0 : Heap) (n0 : Nat) (v : Option Value) (h : Heap) (L : List Loc) : Prop := v = some (.int (0 : Int32)) ∧ Fr n0 L ∧ h = h0
theorem rmCA1 {l : Launch} {Z : State} {a0 : Array Value} (hw : HW Z a0) (a1 : Addr) (kb : ClassId) (vs1 : List Value) (h0 : Heap) (n0 : Nat) (Z0 : n0 ≤ h0.size) (P0 : vB Z h0 a1 kb 1 vs1) : own_M l Z ⟨"java/lang/StringUTF16", "coderFromArrayLen", "([BI)B"⟩ jdk_52_method_15_code 2 (some .byte) (rmk 0 0 0 0) #[.ref a1, .int 1] h0 (QCA1 Z a1 kb vs1 h0 n0) := by
 refine own_body rfl (plainFor_of_name pn_22) ?_
 intro p e s m below meth c s₁ hx hby hml hown hnm hlk hret X0 e0 hZ
 have N0 := Fr.nil n0
 show Go _ p e below s _ _ _ (s₁.setTop (mkF m 0 #[rv a1, iv 1] []))
 refine c_iloadN X0 hx hby d22_0 rfl <| c_aloadN X0 hx hby d22_1 rfl rfl <| c_alen X0 hx hby hZ e0 P0 d22_2 <| c_isub X0 hx hby d22_3 <| c_sh 4 [.int 0] rfl rfl <| c_bipush X0 hx hby 31 d22_4 rfl <| c_iushr X0 hx hby d22_6 <| c_i2b X0 hx hby d22_7 ?_
 rw [show ((((0 : Int32).toUInt32 >>> ((31 : Int32) &&& 31).toUInt32).toInt32).toInt8.toInt32) = (0 : Int32) from by decide]
 refine c_sh 8 [.int 0] rfl rfl ?_
 refine c_retI X0 hx hby hlk hret d22_8 rfl (by simp) (by decide) e0 ⟨rfl, N0, rfl⟩
theorem d2_27 : decode jdk_42_method_149_code 27 = .ok (.getstatic 38, 3) := by decide +kernel
theorem d2_30 : decode jdk_42_method_149_code 30 = .ok (.ifCond .eq 28, 3) := by decide +kernel
theorem d2_33 : decode jdk_42_method_149_code 33 = .ok (.aload_n 1, 1) := by decide +kernel
theorem d2_34 : decode jdk_42_method_149_code 34 = .ok (.iload_n 2, 1) := by decide +kernel
theorem d2_35 : decode jdk_42_method_149_code 35 = .ok (.iload_n 3, 1) := by decide +kernel
theorem d2_36 : decode jdk_42_method_149_code 36 = .ok (.invokestatic 177, 3) := by decide +kernel
theorem d2_39 : decode jdk_42_method_149_code 39 = .ok (.astore 5, 2) := by decide +kernel
theorem d2_41 : decode jdk_42_method_149_code 41 = .ok (.aload_n 0, 1) := by decide +kernel
theorem d2_42 : decode jdk_42_method_149_code 42 = .ok (.aload 5, 2) := by decide +kernel
theorem d2_44 : decode jdk_42_method_149_code 44 = .ok (.iload_n 3, 1) := by decide +kernel
theorem d2_45 : decode jdk_42_method_149_code 45 = .ok (.invokestatic 47, 3) := by decide +kernel
theorem d2_48 : decode jdk_42_method_149_code 48 = .ok (.putfield 15, 3) := by decide +kernel
theorem d2_51 : decode jdk_42_method_149_code 51 = .ok (.aload_n 0, 1) := by decide +kernel
theorem d2_52 : decode jdk_42_method_149_code 52 = .ok (.aload 5, 2) := by decide +kernel
theorem d2_54 : decode jdk_42_method_149_code 54 = .ok (.putfield 9, 3) := by decide +kernel
theorem d2_57 : decode jdk_42_method_149_code 57 = .ok (.return_, 1) := by decide +kernel
theorem pd_15 : parseMethodDescriptor "([CII)[B" = some ⟨[(.array .char), .int, .int], some (.array .byte)⟩ := by decide +kernel
theorem pd_16 : parseMethodDescriptor "([BI)B" = some ⟨[(.array .byte), .int], some .byte⟩ := by decide +kernel
def QSI1 (Z : State) (a1 a2 : Addr) (w0 : Int32) (u1 u2 : Value) (ka : ClassId) (c0 : Int32) (h0 : Heap) (n0 : Nat) (v : Option Value) (h : Heap) (L : List Loc) : Prop := ∃ (b : Addr), ∃ (kb : ClassId), v = none ∧ Fr n0 L ∧ Keep h0 h [a1] ∧ h0.size ≤ b ∧ n0 ≤ b ∧ Exa Z h b "[B" ∧ vB Z h b kb 1 [(.int (c0.toInt8.toInt32))] ∧ fV Z h a1 b ∧ fC Z h a1
theorem rmSI1 {l : Launch} {Z : State} {a0 : Array Value} (hw : HW Z a0) (a1 a2 : Addr) (w0 : Int32) (u1 u2 : Value) (ka : ClassId) (c0 : Int32) (h0 : Heap) (n0 : Nat) (Z0 : n0 ≤ h0.size) (P0 : sCS Z w0) (P1 : Old Z n0 h0) (P2 : eS Z h0 a1) (P3 : Fld Z h0 a1 "java/lang/String" "value" "[B" u1) (P4 : Fld Z h0 a1 "java/lang/String" "coder" "B" u2) (P5 : n0 ≤ a1) (P6 : Arv Z h0 a2 ka .char (1 : Int32) [(.int c0)] (.int (0 : Int32))) (P7 : a1 ≠ a2) (hw0 : ¬ w0 = 0) (ho0 : own_ch c0) : own_M l Z ⟨"java/lang/String", "<init>", "([CIILjava/lang/Void;)V"⟩ jdk_42_method_149_code 6 none (rmk 2 1 1 35) #[.ref a1, .ref a2, .int 0, .int 1, .null] h0 (QSI1 Z a1 a2 w0 u1 u2 ka c0 h0 n0) := by
 refine own_body rfl (plainFor_of_name pn_2) ?_
 intro p e s m below meth c s₁ hx hby hml hown hnm hlk hret X0 e0 hZ
 have N0 := Fr.nil n0
 show Go _ p e below s _ _ _ (s₁.setTop (mkF m 0 #[rv a1, rv a2, iv 0, iv 1, .val .null, .unset] []))
 refine c_aloadN X0 hx hby d2_0 rfl rfl ?_
 obtain ⟨T709, X709, e709, st709⟩ := initO X0 hx hZ hown (gw hw 12 rfl) (gw hw 13 rfl) (gw hw 14 rfl) e0 (g := (mkF m 1 #[rv a1, rv a2, iv 0, iv 1, .val .null, .unset] [.ref a1])) rfl (by rw [hml]; rfl) rfl (hb hby d2_1) (by decide) (W := 0) (by show 2 * 0 + _ ≤ _; exact Nat.le_of_eq rfl) (by decide)
 refine go st709 ?_
 show Go _ p e below s _ _ _ (T709.setTop (mkF m 4 #[rv a1, rv a2, iv 0, iv 1, .val .null, .unset] []))
 refine c_iloadN X709 hx hby d2_4 rfl <| c_ifYes X709 hx hby 27 d2_5 (by decide) (by decide) <| c_gets X709 hx hby hZ hown (gw hw 60 rfl) Via.refl e709 (P0.ext P1.2) d2_27 fun T710 X710 e710 => ?_
 refine c_sh 30 [.int w0] rfl rfl <| c_ifNo X710 hx hby d2_30 ((if0 _ _).trans (feq hw0).1) <| c_aloadN X710 hx hby d2_33 rfl rfl <| c_iloadN X710 hx hby d2_34 rfl <| c_iloadN X710 hx hby d2_35 rfl <| c_callS X710 hx hby hZ hown hml (gw hw 105 rfl) (gw hw 106 rfl) (gw hw 107 rfl) (gw hw 108 rfl) e710 (rmCM1 hw a2 ka c0 h0 n0 Z0 P6 ho0) pd_15 rfl d2_36 [] rfl 0 (by decide) rfl rfl fun o711 T711 L711 X711 hQ711 => ?_
 obtain ⟨b711, kb711, rfl, N711q, u711_0, u711_1, K711, u711_3, u711_4⟩ := hQ711
 have N711 := Fr.app N0 N711q
 have G_b711 := Nat.le_trans Z0 u711_0
 have KK711 := (Keep.refl h0 [a1]).trans K711 all0
 have ZN711 := Nat.le_trans Z0 K711.1
 have OL711 := P1.keep K711 all0
 refine c_sh 39 [.ref b711] rfl rfl <| c_astore X711 hx hby _ d2_39 rfl rfl <| c_aloadN X711 hx hby d2_41 rfl rfl <| c_aload X711 hx hby d2_42 rfl rfl <| c_iloadN X711 hx hby d2_44 rfl <| c_shL #[rv a1, rv a2, iv 0, iv 1, .val .null, rv b711] rfl <| c_callS X711 hx hby hZ hown hml (gw hw 112 rfl) (gw hw 113 rfl) (gw hw 107 rfl) (gw hw 114 rfl) rfl (rmCA1 hw b711 kb711 [(.int (c0.toInt8.toInt32))] (T711.heap) n0 ZN711 u711_4) pd_16 rfl d2_45 [.ref a1] rfl 1 (by decide) rfl rfl fun o712 T712 L712 X712 hQ712 => ?_
 obtain ⟨rfl, N712q, e712⟩ := hQ712
 have N712 := Fr.app N711 N712q
 refine c_sh 48 [.int 0, .ref a1] rfl rfl ?_
 have cc713 := P4.keep K711 nin0
 have cc714 := P2.keep K711
 refine c_putn X712 hx hby hZ hown (gw hw 22 rfl) Via.refl e712 (.int 0) cc713 cc714 (Or.inr ⟨(gw hw 18 rfl), rfl, hnm⟩) (gw hw 3 rfl) .byte (by decide) rfl rfl d2_48 fun T715 h715 X715 e715 W715 => ?_
 have Fw715 := cc713.same W715
 have ne716 : b711 ≠ a1 := (Ne.symm (Nat.ne_of_lt (Nat.lt_of_lt_of_le P2.lt u711_0)))
 have KK715 := KK711.wr W715 (Or.inl (List.mem_of_getElem? (i := 0) rfl))
 have ZN715 := Nat.le_trans ZN711 (Keep.of_wr W715).1
 have NN715 := Fr.snoc X715 N712 P5
 have OL715 := OL711.wr W715 P5
 refine c_sh 51 [] rfl rfl <| c_aloadN X715 hx hby d2_51 rfl rfl <| c_aload X715 hx hby d2_52 rfl rfl ?_
 have cc717 := (P3.keep K711 nin0).other W715 (Or.inr (slot_ne (Or.inr (gw hw 17 rfl)) (Or.inr (gw hw 18 rfl)) (by decide) (t := (.array .byte)) (t' := .byte) (by decide) (by decide)))
 have cc718 := cc714.wr W715
 refine c_putf X715 hx hby hZ hown (gw hw 21 rfl) Via.refl e715 cc717 cc718 (Or.inr ⟨(gw hw 17 rfl), rfl, hnm⟩) (gw hw 3 rfl) (.array .byte) (by decide) rfl rfl d2_54 fun T719 h719 X719 e719 W719 => ?_
 have Fw719 := cc717.same W719
 have KK719 := KK715.wr W719 (Or.inl (List.mem_of_getElem? (i := 0) rfl))
 have ZN719 := Nat.le_trans ZN715 (Keep.of_wr W719).1
 have NN719 := Fr.snoc X719 NN715 P5
 have OL719 := OL715.wr W719 P5
 refine c_sh 57 [] rfl rfl ?_
 have cc720 := (u711_3.wr W715).wr W719
 have cc721 := (u711_4.other W715 ne716).other W719 ne716
 have cc722 := Fw715.other W719 (Or.inr (slot_ne (Or.inr (gw hw 18 rfl)) (Or.inr (gw hw 17 rfl)) (by decide) (t := .byte) (t' := (.array .byte)) (by decide) (by decide)))
 exact c_ret0 X719 hx hby hlk hret d2_57 (by decide) e719 ⟨b711, kb711, rfl, NN719, KK719, (Nat.le_trans (Keep.refl h0 [a1]).1 u711_0), u711_1, cc720, cc721, Fw719, cc722⟩
def QSJ1 (Z : State) (a1 a2 : Addr) (w0 : Int32) (u1 u2 : Value) (ka : ClassId) (c0 : Int32) (h0 : Heap) (n0 : Nat) (v : Option Value) (h : Heap) (L : List Loc) : Prop := ∃ (b : Addr), ∃ (kb : ClassId), v = none ∧ Fr n0 L ∧ Keep h0 h [a1] ∧ h0.size ≤ b ∧ n0 ≤ b ∧ Exa Z h b "[B" ∧ vB Z h b kb 1 [(.int (c0.toInt8.toInt32))] ∧ fV Z h a1 b ∧ fC Z h a1
theorem rmSJ1 {l : Launch} {Z : State} {a0 : Array Value} (hw : HW Z a0) (a1 a2 : Addr) (w0 : Int32) (u1 u2 : Value) (ka : ClassId) (c0 : Int32) (h0 : Heap) (n0 : Nat) (Z0 : n0 ≤ h0.size) (P0 : sCS Z w0) (P1 : Old Z n0 h0) (P2 : eS Z h0 a1) (P3 : Fld Z h0 a1 "java/lang/String" "value" "[B" u1) (P4 : Fld Z h0 a1 "java/lang/String" "coder" "B" u2) (P5 : n0 ≤ a1) (P6 : Arv Z h0 a2 ka .char (1 : Int32) [(.int c0)] (.int (0 : Int32))) (P7 : a1 ≠ a2) (hw0 : ¬ w0 = 0) (ho0 : own_ch c0) : own_M l Z ⟨"java/lang/String", "<init>", "([C)V"⟩ jdk_42_method_3_code 2 none (rmk 3 1 1 52) #[.ref a1, .ref a2] h0 (QSJ1 Z a1 a2 w0 u1 u2 ka c0 h0 n0) := by
 refine own_body rfl (plainFor_of_name pn_1) ?_
 intro p e s m below meth c s₁ hx hby hml hown hnm hlk hret X0 e0 hZ
 have N0 := Fr.nil n0
 show Go _ p e below s _ _ _ (s₁.setTop (mkF m 0 #[rv a1, rv a2] []))
 refine c_aloadN X0 hx hby d1_0 rfl rfl <| c_aloadN X0 hx hby d1_1 rfl rfl <| c_iconst X0 hx hby 0 d1_2 rfl <| c_aloadN X0 hx hby d1_3 rfl rfl <| c_alen X0 hx hby hZ e0 P6 d1_4 <| c_aconstNull X0 hx hby d1_5 <| c_init X0 hx hby hZ hown hml (gw hw 8 rfl) (gw hw 9 rfl) (gw hw 11 rfl) (gw hw 4 rfl) rfl e0 (rmSI1 hw a1 a2 w0 u1 u2 ka c0 h0 n0 Z0 P0 P1 P2 P3 P4 P5 P6 P7 hw0 ho0) pd_0 rfl d1_6 [] rfl 0 (by decide) rfl rfl fun o724 T724 L724 X724 hQ724 => ?_
 obtain ⟨b724, kb724, rfl, N724q, K724, u724_1, u724_2, u724_3, u724_4, u724_5, u724_6⟩ := hQ724
 have N724 := Fr.app N0 N724q
 have G_b724 := Nat.le_trans Z0 u724_1
 have KK724 := (Keep.refl h0 [a1]).trans K724 (allS (P := fun x => x ∈ [a1] ∨ h0.size ≤ x) (Or.inl (List.mem_of_getElem? (i := 0) rfl)) all0)
 have ZN724 := Nat.le_trans Z0 K724.1
 have OL724 := P1.keep K724 (allS P5 all0)
 refine c_sh 9 [] rfl rfl ?_
 exact c_ret0 X724 hx hby hlk hret d1_9 (by decide) rfl ⟨b724, kb724, rfl, N724, KK724, (Nat.le_trans (Keep.refl h0 [a1]).1 u724_1), u724_2, u724_3, u724_4, u724_5, u724_6⟩
def QCP2 (Z : State) (a1 a3 : Addr) (ka kb : ClassId) (c0 c1 : Int32) (h0 : Heap) (n0 : Nat) (v : Option Value) (h : Heap) (L : List Loc) : Prop := v = some (.int (2 : Int32)) ∧ Fr n0 L ∧ Keep h0 h [a3] ∧ vB Z h a3 kb 2 [(.int (c0.toInt8.toInt32)), (.int (c1.toInt8.toInt32))]
theorem rmCP2 {l : Launch} {Z : State} {a0 : Array Value} (hw : HW Z a0) (a1 a3 : Addr) (ka kb : ClassId) (c0 c1 : Int32) (h0 : Heap) (n0 : Nat) (Z0 : n0 ≤ h0.size) (P0 : Arv Z h0 a1 ka .char (2 : Int32) [(.int c0), (.int c1)] (.int (0 : Int32))) (P1 : vB Z h0 a3 kb 2 [.int 0, .int 0]) (P2 : n0 ≤ a3) (P3 : a1 ≠ a3) (ho0 : own_ch c0) (ho1 : own_ch c1) : own_M l Z ⟨"java/lang/StringUTF16", "compress", "([CI[BII)I"⟩ jdk_52_method_21_code 7 (some .int) (rmk 0 0 0 0) #[.ref a1, .int 0, .ref a3, .int 0, .int 2] h0 (QCP2 Z a1 a3 ka kb c0 c1 h0 n0) := by
 refine own_body rfl (plainFor_of_name pn_21) ?_
 intro p e s m below meth c s₁ hx hby hml hown hnm hlk hret X0 e0 hZ
 have N0 := Fr.nil n0
 show Go _ p e below s _ _ _ (s₁.setTop (mkF m 0 #[rv a1, iv 0, rv a3, iv 0, iv 2, .unset, .unset] []))
 refine c_iconst X0 hx hby 0 d21_0 rfl <| c_istore X0 hx hby _ d21_1 rfl <| c_iload X0 hx hby d21_3 rfl <| c_iload X0 hx hby d21_5 rfl <| c_icmpNo X0 hx hby d21_7 (by decide) <| c_aloadN X0 hx hby d21_10 rfl rfl <| c_iloadN X0 hx hby d21_11 rfl <| c_cal X0 hx hby hZ e0 P0 (by decide) (.int c0) rfl d21_12 <| c_istore X0 hx hby _ d21_13 rfl <| c_iload X0 hx hby d21_15 rfl <| c_sipush X0 hx hby 255 d21_17 rfl <| c_icmpYes X0 hx hby 26 d21_20 (flt (own_le ho0)).2.2.2 (by decide) <| c_aloadN X0 hx hby d21_26 rfl rfl <| c_iloadN X0 hx hby d21_27 rfl <| c_iload X0 hx hby d21_28 rfl <| c_i2b X0 hx hby d21_30 <| c_shL #[rv a1, iv 0, rv a3, iv 0, iv 2, iv 0, iv c0] rfl <| c_bst X0 hx hby hZ e0 P1 (by decide) 0 rfl (Nat.le_of_ble_eq_true rfl) d21_31 fun T728 h728 X728 e728 W728 V728 => ?_
 rw [own_nb ho0] at V728
 have V728 : vB Z h728 a3 kb 2 [(.int (c0.toInt8.toInt32)), .int 0] := V728
 have KK728 := (Keep.refl h0 [a3]).wr W728 (Or.inl (List.mem_of_getElem? (i := 0) rfl))
 have ZN728 := Nat.le_trans Z0 (Keep.of_wr W728).1
 have NN728 := Fr.snoc X728 N0 P2
 refine c_sh 32 [] rfl rfl <| c_iinc X728 hx hby #[rv a1, iv 1, rv a3, iv 0, iv 2, iv 0, iv c0] d21_32 rfl rfl <| c_iinc X728 hx hby #[rv a1, iv 1, rv a3, iv 1, iv 2, iv 0, iv c0] d21_35 rfl rfl <| c_iinc X728 hx hby #[rv a1, iv 1, rv a3, iv 1, iv 2, iv 1, iv c0] d21_38 rfl rfl <| c_goto X728 hx hby 3 d21_41 (by decide) <| c_iload X728 hx hby d21_3 rfl <| c_iload X728 hx hby d21_5 rfl <| c_icmpNo X728 hx hby d21_7 (by decide) <| c_aloadN X728 hx hby d21_10 rfl rfl <| c_iloadN X728 hx hby d21_11 rfl ?_
 have cc729 := P0.other W728 P3
 refine c_cal X728 hx hby hZ e728 cc729 (by decide) (.int c1) rfl d21_12 <| c_istore X728 hx hby _ d21_13 rfl <| c_iload X728 hx hby d21_15 rfl <| c_sipush X728 hx hby 255 d21_17 rfl <| c_icmpYes X728 hx hby 26 d21_20 (flt (own_le ho1)).2.2.2 (by decide) <| c_aloadN X728 hx hby d21_26 rfl rfl <| c_iloadN X728 hx hby d21_27 rfl <| c_iload X728 hx hby d21_28 rfl <| c_i2b X728 hx hby d21_30 <| c_shL #[rv a1, iv 1, rv a3, iv 1, iv 2, iv 1, iv c1] rfl <| c_bst X728 hx hby hZ e728 V728 (by decide) 1 rfl (Nat.le_of_ble_eq_true rfl) d21_31 fun T730 h730 X730 e730 W730 V730 => ?_
 rw [own_nb ho1] at V730
 have V730 : vB Z h730 a3 kb 2 [(.int (c0.toInt8.toInt32)), (.int (c1.toInt8.toInt32))] := V730
 have KK730 := KK728.wr W730 (Or.inl (List.mem_of_getElem? (i := 0) rfl))
 have ZN730 := Nat.le_trans ZN728 (Keep.of_wr W730).1
 have NN730 := Fr.snoc X730 NN728 P2
 refine c_sh 32 [] rfl rfl <| c_iinc X730 hx hby #[rv a1, iv 2, rv a3, iv 1, iv 2, iv 1, iv c1] d21_32 rfl rfl <| c_iinc X730 hx hby #[rv a1, iv 2, rv a3, iv 2, iv 2, iv 1, iv c1] d21_35 rfl rfl <| c_iinc X730 hx hby #[rv a1, iv 2, rv a3, iv 2, iv 2, iv 2, iv c1] d21_38 rfl rfl <| c_goto X730 hx hby 3 d21_41 (by decide) <| c_iload X730 hx hby d21_3 rfl <| c_iload X730 hx hby d21_5 rfl <| c_icmpYes X730 hx hby 44 d21_7 (by decide) (by decide) <| c_iload X730 hx hby d21_44 rfl ?_
 refine c_retI X730 hx hby hlk hret d21_46 rfl (by simp) (by decide) e730 ⟨rfl, NN730, KK730, V730⟩
def QCM2 (Z : State) (a1 : Addr) (ka : ClassId) (c0 c1 : Int32) (h0 : Heap) (n0 : Nat) (v : Option Value) (h : Heap) (L : List Loc) : Prop := ∃ (b : Addr), ∃ (kb : ClassId), v = some (.ref b) ∧ Fr n0 L ∧ h0.size ≤ b ∧ n0 ≤ b ∧ Keep h0 h [] ∧ Exa Z h b "[B" ∧ vB Z h b kb 2 [(.int (c0.toInt8.toInt32)), (.int (c1.toInt8.toInt32))]
theorem rmCM2 {l : Launch} {Z : State} {a0 : Array Value} (hw : HW Z a0) (a1 : Addr) (ka : ClassId) (c0 c1 : Int32) (h0 : Heap) (n0 : Nat) (Z0 : n0 ≤ h0.size) (P0 : Arv Z h0 a1 ka .char (2 : Int32) [(.int c0), (.int c1)] (.int (0 : Int32))) (ho0 : own_ch c0) (ho1 : own_ch c1) : own_M l Z ⟨"java/lang/StringUTF16", "compress", "([CII)[B"⟩ jdk_52_method_16_code 6 (some (.array .byte)) (rmk 1 1 2 18) #[.ref a1, .int 0, .int 2] h0 (QCM2 Z a1 ka c0 c1 h0 n0) := by
 refine own_body rfl (plainFor_of_name pn_20) ?_
 intro p e s m below meth c s₁ hx hby hml hown hnm hlk hret X0 e0 hZ
 have N0 := Fr.nil n0
 show Go _ p e below s _ _ _ (s₁.setTop (mkF m 0 #[rv a1, iv 0, iv 2, .unset, .unset, .unset] []))
 refine c_iloadN X0 hx hby d20_0 rfl <| c_newP X0 hx hby hZ (gw hw 16 rfl) e0 d20_1 (by decide) 2 (by decide) (by decide) "[B" (by first | rfl | decide) fun T736 h736 k736 b736 g736 X736 e736 E736 A736 AE736 => ?_
 have G_b736 := Nat.le_trans Z0 (Nat.le_of_eq g736.symm)
 have KK736 := (Keep.refl h0 []).ext E736
 have ZN736 := Nat.le_trans Z0 E736.1
 have V736 : vB Z h736 b736 k736 2 [.int 0, .int 0] := (Arv.new A736 (by decide)).pad (pad_rep [] (.int (0 : Int32)) 2)
 refine c_sh 3 [.ref b736] rfl rfl <| c_astoreN X736 hx hby _ d20_3 rfl rfl <| c_aloadN X736 hx hby d20_4 rfl rfl <| c_iloadN X736 hx hby d20_5 rfl <| c_aloadN X736 hx hby d20_6 rfl rfl <| c_iconst X736 hx hby 0 d20_7 rfl <| c_iloadN X736 hx hby d20_8 rfl <| c_shL #[rv a1, iv 0, iv 2, rv b736, .unset, .unset] rfl ?_
 have cc738 := P0.ext E736
 have ne739 : a1 ≠ b736 := (Nat.ne_of_lt (Nat.lt_of_lt_of_le P0.lt (Nat.le_of_eq g736.symm)))
 refine c_callS X736 hx hby hZ hown hml (gw hw 109 rfl) (gw hw 110 rfl) (gw hw 107 rfl) (gw hw 111 rfl) e736 (rmCP2 hw a1 b736 ka k736 c0 c1 h736 n0 ZN736 cc738 V736 G_b736 ne739 ho0 ho1) pd_14 rfl d20_9 [] rfl 0 (by decide) rfl rfl fun o737 T737 L737 X737 hQ737 => ?_
 obtain ⟨rfl, N737q, K737, u737_1⟩ := hQ737
 have N737 := Fr.app N0 N737q
 have KK737 := KK736.trans K737 (allS (P := fun x => x ∈ [] ∨ h0.size ≤ x) (Or.inr (Nat.le_trans (Keep.refl h0 []).1 (Nat.le_of_eq g736.symm))) all0)
 have ZN737 := Nat.le_trans ZN736 K737.1
 refine c_sh 12 [.int 2] rfl rfl <| c_istore X737 hx hby _ d20_12 rfl <| c_iload X737 hx hby d20_14 rfl <| c_iloadN X737 hx hby d20_16 rfl <| c_icmpYes X737 hx hby 57 d20_17 (teq (rfl : (2 : Int32) = (2 : Int32))).1 (by decide) <| c_aloadN X737 hx hby d20_57 rfl rfl <| c_shL #[rv a1, iv 0, iv 2, rv b736, iv 2, .unset] rfl ?_
 have cc740 := AE736.keep K737
 exact c_retA X737 hx hby hlk hret d20_58 rfl ⟨rfl, rfl⟩ (by decide) rfl ⟨b736, k736, rfl, N737, (Nat.le_trans (Keep.refl h0 []).1 (Nat.le_of_eq g736.symm)), G_b736, KK737, cc740, u737_1⟩
def QCA2 (Z : State) (a1 : Addr) (kb : ClassId) (vs1 : List Value) (h0 : Heap) (n0 : Nat) (v : Option Value) (h : Heap) (L : List Loc) : Prop := v = some (.int (0 : Int32)) ∧ Fr n0 L ∧ h = h0
theorem rmCA2 {l : Launch} {Z : State} {a0 : Array Value} (hw : HW Z a0) (a1 : Addr) (kb : ClassId) (vs1 : List Value) (h0 : Heap) (n0 : Nat) (Z0 : n0 ≤ h0.size) (P0 : vB Z h0 a1 kb 2 vs1) : own_M l Z ⟨"java/lang/StringUTF16", "coderFromArrayLen", "([BI)B"⟩ jdk_52_method_15_code 2 (some .byte) (rmk 0 0 0 0) #[.ref a1, .int 2] h0 (QCA2 Z a1 kb vs1 h0 n0) := by
 refine own_body rfl (plainFor_of_name pn_22) ?_
 intro p e s m below meth c s₁ hx hby hml hown hnm hlk hret X0 e0 hZ
 have N0 := Fr.nil n0
 show Go _ p e below s _ _ _ (s₁.setTop (mkF m 0 #[rv a1, iv 2] []))
 refine c_iloadN X0 hx hby d22_0 rfl <| c_aloadN X0 hx hby d22_1 rfl rfl <| c_alen X0 hx hby hZ e0 P0 d22_2 <| c_isub X0 hx hby d22_3 <| c_sh 4 [.int 0] rfl rfl <| c_bipush X0 hx hby 31 d22_4 rfl <| c_iushr X0 hx hby d22_6 <| c_i2b X0 hx hby d22_7 ?_
 rw [show ((((0 : Int32).toUInt32 >>> ((31 : Int32) &&& 31).toUInt32).toInt32).toInt8.toInt32) = (0 : Int32) from by decide]
 refine c_sh 8 [.int 0] rfl rfl ?_
 refine c_retI X0 hx hby hlk hret d22_8 rfl (by simp) (by decide) e0 ⟨rfl, N0, rfl⟩
def QSI2 (Z : State) (a1 a2 : Addr) (w0 : Int32) (u1 u2 : Value) (ka : ClassId) (c0 c1 : Int32) (h0 : Heap) (n0 : Nat) (v : Option Value) (h : Heap) (L : List Loc) : Prop := ∃ (b : Addr), ∃ (kb : ClassId), v = none ∧ Fr n0 L ∧ Keep h0 h [a1] ∧ h0.size ≤ b ∧ n0 ≤ b ∧ Exa Z h b "[B" ∧ vB Z h b kb 2 [(.int (c0.toInt8.toInt32)), (.int (c1.toInt8.toInt32))] ∧ fV Z h a1 b ∧ fC Z h a1
theorem rmSI2 {l : Launch} {Z : State} {a0 : Array Value} (hw : HW Z a0) (a1 a2 : Addr) (w0 : Int32) (u1 u2 : Value) (ka : ClassId) (c0 c1 : Int32) (h0 : Heap) (n0 : Nat) (Z0 : n0 ≤ h0.size) (P0 : sCS Z w0) (P1 : Old Z n0 h0) (P2 : eS Z h0 a1) (P3 : Fld Z h0 a1 "java/lang/String" "value" "[B" u1) (P4 : Fld Z h0 a1 "java/lang/String" "coder" "B" u2) (P5 : n0 ≤ a1) (P6 : Arv Z h0 a2 ka .char (2 : Int32) [(.int c0), (.int c1)] (.int (0 : Int32))) (P7 : a1 ≠ a2) (hw0 : ¬ w0 = 0) (ho0 : own_ch c0) (ho1 : own_ch c1) : own_M l Z ⟨"java/lang/String", "<init>", "([CIILjava/lang/Void;)V"⟩ jdk_42_method_149_code 6 none (rmk 2 1 2 35) #[.ref a1, .ref a2, .int 0, .int 2, .null] h0 (QSI2 Z a1 a2 w0 u1 u2 ka c0 c1 h0 n0) := by
 refine own_body rfl (plainFor_of_name pn_2) ?_
 intro p e s m below meth c s₁ hx hby hml hown hnm hlk hret X0 e0 hZ
 have N0 := Fr.nil n0
 show Go _ p e below s _ _ _ (s₁.setTop (mkF m 0 #[rv a1, rv a2, iv 0, iv 2, .val .null, .unset] []))
 refine c_aloadN X0 hx hby d2_0 rfl rfl ?_
 obtain ⟨T755, X755, e755, st755⟩ := initO X0 hx hZ hown (gw hw 12 rfl) (gw hw 13 rfl) (gw hw 14 rfl) e0 (g := (mkF m 1 #[rv a1, rv a2, iv 0, iv 2, .val .null, .unset] [.ref a1])) rfl (by rw [hml]; rfl) rfl (hb hby d2_1) (by decide) (W := 0) (by show 2 * 0 + _ ≤ _; exact Nat.le_of_eq rfl) (by decide)
 refine go st755 ?_
 show Go _ p e below s _ _ _ (T755.setTop (mkF m 4 #[rv a1, rv a2, iv 0, iv 2, .val .null, .unset] []))
 refine c_iloadN X755 hx hby d2_4 rfl <| c_ifYes X755 hx hby 27 d2_5 (by decide) (by decide) <| c_gets X755 hx hby hZ hown (gw hw 60 rfl) Via.refl e755 (P0.ext P1.2) d2_27 fun T756 X756 e756 => ?_
 refine c_sh 30 [.int w0] rfl rfl <| c_ifNo X756 hx hby d2_30 ((if0 _ _).trans (feq hw0).1) <| c_aloadN X756 hx hby d2_33 rfl rfl <| c_iloadN X756 hx hby d2_34 rfl <| c_iloadN X756 hx hby d2_35 rfl <| c_callS X756 hx hby hZ hown hml (gw hw 105 rfl) (gw hw 106 rfl) (gw hw 107 rfl) (gw hw 108 rfl) e756 (rmCM2 hw a2 ka c0 c1 h0 n0 Z0 P6 ho0 ho1) pd_15 rfl d2_36 [] rfl 0 (by decide) rfl rfl fun o757 T757 L757 X757 hQ757 => ?_
 obtain ⟨b757, kb757, rfl, N757q, u757_0, u757_1, K757, u757_3, u757_4⟩ := hQ757
 have N757 := Fr.app N0 N757q
 have G_b757 := Nat.le_trans Z0 u757_0
 have KK757 := (Keep.refl h0 [a1]).trans K757 all0
 have ZN757 := Nat.le_trans Z0 K757.1
 have OL757 := P1.keep K757 all0
 refine c_sh 39 [.ref b757] rfl rfl <| c_astore X757 hx hby _ d2_39 rfl rfl <| c_aloadN X757 hx hby d2_41 rfl rfl <| c_aload X757 hx hby d2_42 rfl rfl <| c_iloadN X757 hx hby d2_44 rfl <| c_shL #[rv a1, rv a2, iv 0, iv 2, .val .null, rv b757] rfl <| c_callS X757 hx hby hZ hown hml (gw hw 112 rfl) (gw hw 113 rfl) (gw hw 107 rfl) (gw hw 114 rfl) rfl (rmCA2 hw b757 kb757 [(.int (c0.toInt8.toInt32)), (.int (c1.toInt8.toInt32))] (T757.heap) n0 ZN757 u757_4) pd_16 rfl d2_45 [.ref a1] rfl 1 (by decide) rfl rfl fun o758 T758 L758 X758 hQ758 => ?_
 obtain ⟨rfl, N758q, e758⟩ := hQ758
 have N758 := Fr.app N757 N758q
 refine c_sh 48 [.int 0, .ref a1] rfl rfl ?_
 have cc759 := P4.keep K757 nin0
 have cc760 := P2.keep K757
 refine c_putn X758 hx hby hZ hown (gw hw 22 rfl) Via.refl e758 (.int 0) cc759 cc760 (Or.inr ⟨(gw hw 18 rfl), rfl, hnm⟩) (gw hw 3 rfl) .byte (by decide) rfl rfl d2_48 fun T761 h761 X761 e761 W761 => ?_
 have Fw761 := cc759.same W761
 have ne762 : b757 ≠ a1 := (Ne.symm (Nat.ne_of_lt (Nat.lt_of_lt_of_le P2.lt u757_0)))
 have KK761 := KK757.wr W761 (Or.inl (List.mem_of_getElem? (i := 0) rfl))
 have ZN761 := Nat.le_trans ZN757 (Keep.of_wr W761).1
 have NN761 := Fr.snoc X761 N758 P5
 have OL761 := OL757.wr W761 P5
 refine c_sh 51 [] rfl rfl <| c_aloadN X761 hx hby d2_51 rfl rfl <| c_aload X761 hx hby d2_52 rfl rfl ?_
 have cc763 := (P3.keep K757 nin0).other W761 (Or.inr (slot_ne (Or.inr (gw hw 17 rfl)) (Or.inr (gw hw 18 rfl)) (by decide) (t := (.array .byte)) (t' := .byte) (by decide) (by decide)))
 have cc764 := cc760.wr W761
 refine c_putf X761 hx hby hZ hown (gw hw 21 rfl) Via.refl e761 cc763 cc764 (Or.inr ⟨(gw hw 17 rfl), rfl, hnm⟩) (gw hw 3 rfl) (.array .byte) (by decide) rfl rfl d2_54 fun T765 h765 X765 e765 W765 => ?_
 have Fw765 := cc763.same W765
 have KK765 := KK761.wr W765 (Or.inl (List.mem_of_getElem? (i := 0) rfl))
 have ZN765 := Nat.le_trans ZN761 (Keep.of_wr W765).1
 have NN765 := Fr.snoc X765 NN761 P5
 have OL765 := OL761.wr W765 P5
 refine c_sh 57 [] rfl rfl ?_
 have cc766 := (u757_3.wr W761).wr W765
 have cc767 := (u757_4.other W761 ne762).other W765 ne762
 have cc768 := Fw761.other W765 (Or.inr (slot_ne (Or.inr (gw hw 18 rfl)) (Or.inr (gw hw 17 rfl)) (by decide) (t := .byte) (t' := (.array .byte)) (by decide) (by decide)))
 exact c_ret0 X765 hx hby hlk hret d2_57 (by decide) e765 ⟨b757, kb757, rfl, NN765, KK765, (Nat.le_trans (Keep.refl h0 [a1]).1 u757_0), u757_1, cc766, cc767, Fw765, cc768⟩
def QSJ2 (Z : State) (a1 a2 : Addr) (w0 : Int32) (u1 u2 : Value) (ka : ClassId) (c0 c1 : Int32) (h0 : Heap) (n0 : Nat) (v : Option Value) (h : Heap) (L : List Loc) : Prop := ∃ (b : Addr), ∃ (kb : ClassId), v = none ∧ Fr n0 L ∧ Keep h0 h [a1] ∧ h0.size ≤ b ∧ n0 ≤ b ∧ Exa Z h b "[B" ∧ vB Z h b kb 2 [(.int (c0.toInt8.toInt32)), (.int (c1.toInt8.toInt32))] ∧ fV Z h a1 b ∧ fC Z h a1
theorem rmSJ2 {l : Launch} {Z : State} {a0 : Array Value} (hw : HW Z a0) (a1 a2 : Addr) (w0 : Int32) (u1 u2 : Value) (ka : ClassId) (c0 c1 : Int32) (h0 : Heap) (n0 : Nat) (Z0 : n0 ≤ h0.size) (P0 : sCS Z w0) (P1 : Old Z n0 h0) (P2 : eS Z h0 a1) (P3 : Fld Z h0 a1 "java/lang/String" "value" "[B" u1) (P4 : Fld Z h0 a1 "java/lang/String" "coder" "B" u2) (P5 : n0 ≤ a1) (P6 : Arv Z h0 a2 ka .char (2 : Int32) [(.int c0), (.int c1)] (.int (0 : Int32))) (P7 : a1 ≠ a2) (hw0 : ¬ w0 = 0) (ho0 : own_ch c0) (ho1 : own_ch c1) : own_M l Z ⟨"java/lang/String", "<init>", "([C)V"⟩ jdk_42_method_3_code 2 none (rmk 3 1 2 52) #[.ref a1, .ref a2] h0 (QSJ2 Z a1 a2 w0 u1 u2 ka c0 c1 h0 n0) := by
 refine own_body rfl (plainFor_of_name pn_1) ?_
 intro p e s m below meth c s₁ hx hby hml hown hnm hlk hret X0 e0 hZ
 have N0 := Fr.nil n0
 show Go _ p e below s _ _ _ (s₁.setTop (mkF m 0 #[rv a1, rv a2] []))
 refine c_aloadN X0 hx hby d1_0 rfl rfl <| c_aloadN X0 hx hby d1_1 rfl rfl <| c_iconst X0 hx hby 0 d1_2 rfl <| c_aloadN X0 hx hby d1_3 rfl rfl <| c_alen X0 hx hby hZ e0 P6 d1_4 <| c_aconstNull X0 hx hby d1_5 <| c_init X0 hx hby hZ hown hml (gw hw 8 rfl) (gw hw 9 rfl) (gw hw 11 rfl) (gw hw 4 rfl) rfl e0 (rmSI2 hw a1 a2 w0 u1 u2 ka c0 c1 h0 n0 Z0 P0 P1 P2 P3 P4 P5 P6 P7 hw0 ho0 ho1) pd_0 rfl d1_6 [] rfl 0 (by decide) rfl rfl fun o770 T770 L770 X770 hQ770 => ?_
 obtain ⟨b770, kb770, rfl, N770q, K770, u770_1, u770_2, u770_3, u770_4, u770_5, u770_6⟩ := hQ770
 have N770 := Fr.app N0 N770q
 have G_b770 := Nat.le_trans Z0 u770_1
 have KK770 := (Keep.refl h0 [a1]).trans K770 (allS (P := fun x => x ∈ [a1] ∨ h0.size ≤ x) (Or.inl (List.mem_of_getElem? (i := 0) rfl)) all0)
 have ZN770 := Nat.le_trans Z0 K770.1
 have OL770 := P1.keep K770 (allS P5 all0)
 refine c_sh 9 [] rfl rfl ?_
 exact c_ret0 X770 hx hby hlk hret d1_9 (by decide) rfl ⟨b770, kb770, rfl, N770, KK770, (Nat.le_trans (Keep.refl h0 [a1]).1 u770_1), u770_2, u770_3, u770_4, u770_5, u770_6⟩
def QCP3 (Z : State) (a1 a3 : Addr) (ka kb : ClassId) (c0 c1 c2 : Int32) (h0 : Heap) (n0 : Nat) (v : Option Value) (h : Heap) (L : List Loc) : Prop := v = some (.int (3 : Int32)) ∧ Fr n0 L ∧ Keep h0 h [a3] ∧ vB Z h a3 kb 3 [(.int (c0.toInt8.toInt32)), (.int (c1.toInt8.toInt32)), (.int (c2.toInt8.toInt32))]
theorem rmCP3 {l : Launch} {Z : State} {a0 : Array Value} (hw : HW Z a0) (a1 a3 : Addr) (ka kb : ClassId) (c0 c1 c2 : Int32) (h0 : Heap) (n0 : Nat) (Z0 : n0 ≤ h0.size) (P0 : Arv Z h0 a1 ka .char (3 : Int32) [(.int c0), (.int c1), (.int c2)] (.int (0 : Int32))) (P1 : vB Z h0 a3 kb 3 [.int 0, .int 0, .int 0]) (P2 : n0 ≤ a3) (P3 : a1 ≠ a3) (ho0 : own_ch c0) (ho1 : own_ch c1) (ho2 : own_ch c2) : own_M l Z ⟨"java/lang/StringUTF16", "compress", "([CI[BII)I"⟩ jdk_52_method_21_code 7 (some .int) (rmk 0 0 0 0) #[.ref a1, .int 0, .ref a3, .int 0, .int 3] h0 (QCP3 Z a1 a3 ka kb c0 c1 c2 h0 n0) := by
 refine own_body rfl (plainFor_of_name pn_21) ?_
 intro p e s m below meth c s₁ hx hby hml hown hnm hlk hret X0 e0 hZ
 have N0 := Fr.nil n0
 show Go _ p e below s _ _ _ (s₁.setTop (mkF m 0 #[rv a1, iv 0, rv a3, iv 0, iv 3, .unset, .unset] []))
 refine c_iconst X0 hx hby 0 d21_0 rfl <| c_istore X0 hx hby _ d21_1 rfl <| c_iload X0 hx hby d21_3 rfl <| c_iload X0 hx hby d21_5 rfl <| c_icmpNo X0 hx hby d21_7 (by decide) <| c_aloadN X0 hx hby d21_10 rfl rfl <| c_iloadN X0 hx hby d21_11 rfl <| c_cal X0 hx hby hZ e0 P0 (by decide) (.int c0) rfl d21_12 <| c_istore X0 hx hby _ d21_13 rfl <| c_iload X0 hx hby d21_15 rfl <| c_sipush X0 hx hby 255 d21_17 rfl <| c_icmpYes X0 hx hby 26 d21_20 (flt (own_le ho0)).2.2.2 (by decide) <| c_aloadN X0 hx hby d21_26 rfl rfl <| c_iloadN X0 hx hby d21_27 rfl <| c_iload X0 hx hby d21_28 rfl <| c_i2b X0 hx hby d21_30 <| c_shL #[rv a1, iv 0, rv a3, iv 0, iv 3, iv 0, iv c0] rfl <| c_bst X0 hx hby hZ e0 P1 (by decide) 0 rfl (Nat.le_of_ble_eq_true rfl) d21_31 fun T776 h776 X776 e776 W776 V776 => ?_
 rw [own_nb ho0] at V776
 have V776 : vB Z h776 a3 kb 3 [(.int (c0.toInt8.toInt32)), .int 0, .int 0] := V776
 have KK776 := (Keep.refl h0 [a3]).wr W776 (Or.inl (List.mem_of_getElem? (i := 0) rfl))
 have ZN776 := Nat.le_trans Z0 (Keep.of_wr W776).1
 have NN776 := Fr.snoc X776 N0 P2
 refine c_sh 32 [] rfl rfl <| c_iinc X776 hx hby #[rv a1, iv 1, rv a3, iv 0, iv 3, iv 0, iv c0] d21_32 rfl rfl <| c_iinc X776 hx hby #[rv a1, iv 1, rv a3, iv 1, iv 3, iv 0, iv c0] d21_35 rfl rfl <| c_iinc X776 hx hby #[rv a1, iv 1, rv a3, iv 1, iv 3, iv 1, iv c0] d21_38 rfl rfl <| c_goto X776 hx hby 3 d21_41 (by decide) <| c_iload X776 hx hby d21_3 rfl <| c_iload X776 hx hby d21_5 rfl <| c_icmpNo X776 hx hby d21_7 (by decide) <| c_aloadN X776 hx hby d21_10 rfl rfl <| c_iloadN X776 hx hby d21_11 rfl ?_
 have cc777 := P0.other W776 P3
 refine c_cal X776 hx hby hZ e776 cc777 (by decide) (.int c1) rfl d21_12 <| c_istore X776 hx hby _ d21_13 rfl <| c_iload X776 hx hby d21_15 rfl <| c_sipush X776 hx hby 255 d21_17 rfl <| c_icmpYes X776 hx hby 26 d21_20 (flt (own_le ho1)).2.2.2 (by decide) <| c_aloadN X776 hx hby d21_26 rfl rfl <| c_iloadN X776 hx hby d21_27 rfl <| c_iload X776 hx hby d21_28 rfl <| c_i2b X776 hx hby d21_30 <| c_shL #[rv a1, iv 1, rv a3, iv 1, iv 3, iv 1, iv c1] rfl <| c_bst X776 hx hby hZ e776 V776 (by decide) 1 rfl (Nat.le_of_ble_eq_true rfl) d21_31 fun T778 h778 X778 e778 W778 V778 => ?_
 rw [own_nb ho1] at V778
 have V778 : vB Z h778 a3 kb 3 [(.int (c0.toInt8.toInt32)), (.int (c1.toInt8.toInt32)), .int 0] := V778
 have KK778 := KK776.wr W778 (Or.inl (List.mem_of_getElem? (i := 0) rfl))
 have ZN778 := Nat.le_trans ZN776 (Keep.of_wr W778).1
 have NN778 := Fr.snoc X778 NN776 P2
 refine c_sh 32 [] rfl rfl <| c_iinc X778 hx hby #[rv a1, iv 2, rv a3, iv 1, iv 3, iv 1, iv c1] d21_32 rfl rfl <| c_iinc X778 hx hby #[rv a1, iv 2, rv a3, iv 2, iv 3, iv 1, iv c1] d21_35 rfl rfl <| c_iinc X778 hx hby #[rv a1, iv 2, rv a3, iv 2, iv 3, iv 2, iv c1] d21_38 rfl rfl <| c_goto X778 hx hby 3 d21_41 (by decide) <| c_iload X778 hx hby d21_3 rfl <| c_iload X778 hx hby d21_5 rfl <| c_icmpNo X778 hx hby d21_7 (by decide) <| c_aloadN X778 hx hby d21_10 rfl rfl <| c_iloadN X778 hx hby d21_11 rfl ?_
 have cc779 := cc777.other W778 P3
 refine c_cal X778 hx hby hZ e778 cc779 (by decide) (.int c2) rfl d21_12 <| c_istore X778 hx hby _ d21_13 rfl <| c_iload X778 hx hby d21_15 rfl <| c_sipush X778 hx hby 255 d21_17 rfl <| c_icmpYes X778 hx hby 26 d21_20 (flt (own_le ho2)).2.2.2 (by decide) <| c_aloadN X778 hx hby d21_26 rfl rfl <| c_iloadN X778 hx hby d21_27 rfl <| c_iload X778 hx hby d21_28 rfl <| c_i2b X778 hx hby d21_30 <| c_shL #[rv a1, iv 2, rv a3, iv 2, iv 3, iv 2, iv c2] rfl <| c_bst X778 hx hby hZ e778 V778 (by decide) 2 rfl (Nat.le_of_ble_eq_true rfl) d21_31 fun T780 h780 X780 e780 W780 V780 => ?_
 rw [own_nb ho2] at V780
 have V780 : vB Z h780 a3 kb 3 [(.int (c0.toInt8.toInt32)), (.int (c1.toInt8.toInt32)), (.int (c2.toInt8.toInt32))] := V780
 have KK780 := KK778.wr W780 (Or.inl (List.mem_of_getElem? (i := 0) rfl))
 have ZN780 := Nat.le_trans ZN778 (Keep.of_wr W780).1
 have NN780 := Fr.snoc X780 NN778 P2
 refine c_sh 32 [] rfl rfl <| c_iinc X780 hx hby #[rv a1, iv 3, rv a3, iv 2, iv 3, iv 2, iv c2] d21_32 rfl rfl <| c_iinc X780 hx hby #[rv a1, iv 3, rv a3, iv 3, iv 3, iv 2, iv c2] d21_35 rfl rfl <| c_iinc X780 hx hby #[rv a1, iv 3, rv a3, iv 3, iv 3, iv 3, iv c2] d21_38 rfl rfl <| c_goto X780 hx hby 3 d21_41 (by decide) <| c_iload X780 hx hby d21_3 rfl <| c_iload X780 hx hby d21_5 rfl <| c_icmpYes X780 hx hby 44 d21_7 (by decide) (by decide) <| c_iload X780 hx hby d21_44 rfl ?_
 refine c_retI X780 hx hby hlk hret d21_46 rfl (by simp) (by decide) e780 ⟨rfl, NN780, KK780, V780⟩
def QCM3 (Z : State) (a1 : Addr) (ka : ClassId) (c0 c1 c2 : Int32) (h0 : Heap) (n0 : Nat) (v : Option Value) (h : Heap) (L : List Loc) : Prop := ∃ (b : Addr), ∃ (kb : ClassId), v = some (.ref b) ∧ Fr n0 L ∧ h0.size ≤ b ∧ n0 ≤ b ∧ Keep h0 h [] ∧ Exa Z h b "[B" ∧ vB Z h b kb 3 [(.int (c0.toInt8.toInt32)), (.int (c1.toInt8.toInt32)), (.int (c2.toInt8.toInt32))]
theorem rmCM3 {l : Launch} {Z : State} {a0 : Array Value} (hw : HW Z a0) (a1 : Addr) (ka : ClassId) (c0 c1 c2 : Int32) (h0 : Heap) (n0 : Nat) (Z0 : n0 ≤ h0.size) (P0 : Arv Z h0 a1 ka .char (3 : Int32) [(.int c0), (.int c1), (.int c2)] (.int (0 : Int32))) (ho0 : own_ch c0) (ho1 : own_ch c1) (ho2 : own_ch c2) : own_M l Z ⟨"java/lang/StringUTF16", "compress", "([CII)[B"⟩ jdk_52_method_16_code 6 (some (.array .byte)) (rmk 1 1 3 18) #[.ref a1, .int 0, .int 3] h0 (QCM3 Z a1 ka c0 c1 c2 h0 n0) := by
 refine own_body rfl (plainFor_of_name pn_20) ?_
 intro p e s m below meth c s₁ hx hby hml hown hnm hlk hret X0 e0 hZ
 have N0 := Fr.nil n0
 show Go _ p e below s _ _ _ (s₁.setTop (mkF m 0 #[rv a1, iv 0, iv 3, .unset, .unset, .unset] []))
 refine c_iloadN X0 hx hby d20_0 rfl <| c_newP X0 hx hby hZ (gw hw 16 rfl) e0 d20_1 (by decide) 3 (by decide) (by decide) "[B" (by first | rfl | decide) fun T786 h786 k786 b786 g786 X786 e786 E786 A786 AE786 => ?_
 have G_b786 := Nat.le_trans Z0 (Nat.le_of_eq g786.symm)
 have KK786 := (Keep.refl h0 []).ext E786
 have ZN786 := Nat.le_trans Z0 E786.1
 have V786 : vB Z h786 b786 k786 3 [.int 0, .int 0, .int 0] := (Arv.new A786 (by decide)).pad (pad_rep [] (.int (0 : Int32)) 3)
 refine c_sh 3 [.ref b786] rfl rfl <| c_astoreN X786 hx hby _ d20_3 rfl rfl <| c_aloadN X786 hx hby d20_4 rfl rfl <| c_iloadN X786 hx hby d20_5 rfl <| c_aloadN X786 hx hby d20_6 rfl rfl <| c_iconst X786 hx hby 0 d20_7 rfl <| c_iloadN X786 hx hby d20_8 rfl <| c_shL #[rv a1, iv 0, iv 3, rv b786, .unset, .unset] rfl ?_
 have cc788 := P0.ext E786
 have ne789 : a1 ≠ b786 := (Nat.ne_of_lt (Nat.lt_of_lt_of_le P0.lt (Nat.le_of_eq g786.symm)))
 refine c_callS X786 hx hby hZ hown hml (gw hw 109 rfl) (gw hw 110 rfl) (gw hw 107 rfl) (gw hw 111 rfl) e786 (rmCP3 hw a1 b786 ka k786 c0 c1 c2 h786 n0 ZN786 cc788 V786 G_b786 ne789 ho0 ho1 ho2) pd_14 rfl d20_9 [] rfl 0 (by decide) rfl rfl fun o787 T787 L787 X787 hQ787 => ?_
 obtain ⟨rfl, N787q, K787, u787_1⟩ := hQ787
 have N787 := Fr.app N0 N787q
 have KK787 := KK786.trans K787 (allS (P := fun x => x ∈ [] ∨ h0.size ≤ x) (Or.inr (Nat.le_trans (Keep.refl h0 []).1 (Nat.le_of_eq g786.symm))) all0)
 have ZN787 := Nat.le_trans ZN786 K787.1
 refine c_sh 12 [.int 3] rfl rfl <| c_istore X787 hx hby _ d20_12 rfl <| c_iload X787 hx hby d20_14 rfl <| c_iloadN X787 hx hby d20_16 rfl <| c_icmpYes X787 hx hby 57 d20_17 (teq (rfl : (3 : Int32) = (3 : Int32))).1 (by decide) <| c_aloadN X787 hx hby d20_57 rfl rfl <| c_shL #[rv a1, iv 0, iv 3, rv b786, iv 3, .unset] rfl ?_
 have cc790 := AE786.keep K787
 exact c_retA X787 hx hby hlk hret d20_58 rfl ⟨rfl, rfl⟩ (by decide) rfl ⟨b786, k786, rfl, N787, (Nat.le_trans (Keep.refl h0 []).1 (Nat.le_of_eq g786.symm)), G_b786, KK787, cc790, u787_1⟩
def QCA3 (Z : State) (a1 : Addr) (kb : ClassId) (vs1 : List Value) (h0 : Heap) (n0 : Nat) (v : Option Value) (h : Heap) (L : List Loc) : Prop := v = some (.int (0 : Int32)) ∧ Fr n0 L ∧ h = h0
theorem rmCA3 {l : Launch} {Z : State} {a0 : Array Value} (hw : HW Z a0) (a1 : Addr) (kb : ClassId) (vs1 : List Value) (h0 : Heap) (n0 : Nat) (Z0 : n0 ≤ h0.size) (P0 : vB Z h0 a1 kb 3 vs1) : own_M l Z ⟨"java/lang/StringUTF16", "coderFromArrayLen", "([BI)B"⟩ jdk_52_method_15_code 2 (some .byte) (rmk 0 0 0 0) #[.ref a1, .int 3] h0 (QCA3 Z a1 kb vs1 h0 n0) := by
 refine own_body rfl (plainFor_of_name pn_22) ?_
 intro p e s m below meth c s₁ hx hby hml hown hnm hlk hret X0 e0 hZ
 have N0 := Fr.nil n0
 show Go _ p e below s _ _ _ (s₁.setTop (mkF m 0 #[rv a1, iv 3] []))
 refine c_iloadN X0 hx hby d22_0 rfl <| c_aloadN X0 hx hby d22_1 rfl rfl <| c_alen X0 hx hby hZ e0 P0 d22_2 <| c_isub X0 hx hby d22_3 <| c_sh 4 [.int 0] rfl rfl <| c_bipush X0 hx hby 31 d22_4 rfl <| c_iushr X0 hx hby d22_6 <| c_i2b X0 hx hby d22_7 ?_
 rw [show ((((0 : Int32).toUInt32 >>> ((31 : Int32) &&& 31).toUInt32).toInt32).toInt8.toInt32) = (0 : Int32) from by decide]
 refine c_sh 8 [.int 0] rfl rfl ?_
 refine c_retI X0 hx hby hlk hret d22_8 rfl (by simp) (by decide) e0 ⟨rfl, N0, rfl⟩
def QSI3 (Z : State) (a1 a2 : Addr) (w0 : Int32) (u1 u2 : Value) (ka : ClassId) (c0 c1 c2 : Int32) (h0 : Heap) (n0 : Nat) (v : Option Value) (h : Heap) (L : List Loc) : Prop := ∃ (b : Addr), ∃ (kb : ClassId), v = none ∧ Fr n0 L ∧ Keep h0 h [a1] ∧ h0.size ≤ b ∧ n0 ≤ b ∧ Exa Z h b "[B" ∧ vB Z h b kb 3 [(.int (c0.toInt8.toInt32)), (.int (c1.toInt8.toInt32)), (.int (c2.toInt8.toInt32))] ∧ fV Z h a1 b ∧ fC Z h a1
theorem rmSI3 {l : Launch} {Z : State} {a0 : Array Value} (hw : HW Z a0) (a1 a2 : Addr) (w0 : Int32) (u1 u2 : Value) (ka : ClassId) (c0 c1 c2 : Int32) (h0 : Heap) (n0 : Nat) (Z0 : n0 ≤ h0.size) (P0 : sCS Z w0) (P1 : Old Z n0 h0) (P2 : eS Z h0 a1) (P3 : Fld Z h0 a1 "java/lang/String" "value" "[B" u1) (P4 : Fld Z h0 a1 "java/lang/String" "coder" "B" u2) (P5 : n0 ≤ a1) (P6 : Arv Z h0 a2 ka .char (3 : Int32) [(.int c0), (.int c1), (.int c2)] (.int (0 : Int32))) (P7 : a1 ≠ a2) (hw0 : ¬ w0 = 0) (ho0 : own_ch c0) (ho1 : own_ch c1) (ho2 : own_ch c2) : own_M l Z ⟨"java/lang/String", "<init>", "([CIILjava/lang/Void;)V"⟩ jdk_42_method_149_code 6 none (rmk 2 1 3 35) #[.ref a1, .ref a2, .int 0, .int 3, .null] h0 (QSI3 Z a1 a2 w0 u1 u2 ka c0 c1 c2 h0 n0) := by
 refine own_body rfl (plainFor_of_name pn_2) ?_
 intro p e s m below meth c s₁ hx hby hml hown hnm hlk hret X0 e0 hZ
 have N0 := Fr.nil n0
 show Go _ p e below s _ _ _ (s₁.setTop (mkF m 0 #[rv a1, rv a2, iv 0, iv 3, .val .null, .unset] []))
 refine c_aloadN X0 hx hby d2_0 rfl rfl ?_
 obtain ⟨T805, X805, e805, st805⟩ := initO X0 hx hZ hown (gw hw 12 rfl) (gw hw 13 rfl) (gw hw 14 rfl) e0 (g := (mkF m 1 #[rv a1, rv a2, iv 0, iv 3, .val .null, .unset] [.ref a1])) rfl (by rw [hml]; rfl) rfl (hb hby d2_1) (by decide) (W := 0) (by show 2 * 0 + _ ≤ _; exact Nat.le_of_eq rfl) (by decide)
 refine go st805 ?_
 show Go _ p e below s _ _ _ (T805.setTop (mkF m 4 #[rv a1, rv a2, iv 0, iv 3, .val .null, .unset] []))
 refine c_iloadN X805 hx hby d2_4 rfl <| c_ifYes X805 hx hby 27 d2_5 (by decide) (by decide) <| c_gets X805 hx hby hZ hown (gw hw 60 rfl) Via.refl e805 (P0.ext P1.2) d2_27 fun T806 X806 e806 => ?_
 refine c_sh 30 [.int w0] rfl rfl <| c_ifNo X806 hx hby d2_30 ((if0 _ _).trans (feq hw0).1) <| c_aloadN X806 hx hby d2_33 rfl rfl <| c_iloadN X806 hx hby d2_34 rfl <| c_iloadN X806 hx hby d2_35 rfl <| c_callS X806 hx hby hZ hown hml (gw hw 105 rfl) (gw hw 106 rfl) (gw hw 107 rfl) (gw hw 108 rfl) e806 (rmCM3 hw a2 ka c0 c1 c2 h0 n0 Z0 P6 ho0 ho1 ho2) pd_15 rfl d2_36 [] rfl 0 (by decide) rfl rfl fun o807 T807 L807 X807 hQ807 => ?_
 obtain ⟨b807, kb807, rfl, N807q, u807_0, u807_1, K807, u807_3, u807_4⟩ := hQ807
 have N807 := Fr.app N0 N807q
 have G_b807 := Nat.le_trans Z0 u807_0
 have KK807 := (Keep.refl h0 [a1]).trans K807 all0
 have ZN807 := Nat.le_trans Z0 K807.1
 have OL807 := P1.keep K807 all0
 refine c_sh 39 [.ref b807] rfl rfl <| c_astore X807 hx hby _ d2_39 rfl rfl <| c_aloadN X807 hx hby d2_41 rfl rfl <| c_aload X807 hx hby d2_42 rfl rfl <| c_iloadN X807 hx hby d2_44 rfl <| c_shL #[rv a1, rv a2, iv 0, iv 3, .val .null, rv b807] rfl <| c_callS X807 hx hby hZ hown hml (gw hw 112 rfl) (gw hw 113 rfl) (gw hw 107 rfl) (gw hw 114 rfl) rfl (rmCA3 hw b807 kb807 [(.int (c0.toInt8.toInt32)), (.int (c1.toInt8.toInt32)), (.int (c2.toInt8.toInt32))] (T807.heap) n0 ZN807 u807_4) pd_16 rfl d2_45 [.ref a1] rfl 1 (by decide) rfl rfl fun o808 T808 L808 X808 hQ808 => ?_
 obtain ⟨rfl, N808q, e808⟩ := hQ808
 have N808 := Fr.app N807 N808q
 refine c_sh 48 [.int 0, .ref a1] rfl rfl ?_
 have cc809 := P4.keep K807 nin0
 have cc810 := P2.keep K807
 refine c_putn X808 hx hby hZ hown (gw hw 22 rfl) Via.refl e808 (.int 0) cc809 cc810 (Or.inr ⟨(gw hw 18 rfl), rfl, hnm⟩) (gw hw 3 rfl) .byte (by decide) rfl rfl d2_48 fun T811 h811 X811 e811 W811 => ?_
 have Fw811 := cc809.same W811
 have ne812 : b807 ≠ a1 := (Ne.symm (Nat.ne_of_lt (Nat.lt_of_lt_of_le P2.lt u807_0)))
 have KK811 := KK807.wr W811 (Or.inl (List.mem_of_getElem? (i := 0) rfl))
 have ZN811 := Nat.le_trans ZN807 (Keep.of_wr W811).1
 have NN811 := Fr.snoc X811 N808 P5
 have OL811 := OL807.wr W811 P5
 refine c_sh 51 [] rfl rfl <| c_aloadN X811 hx hby d2_51 rfl rfl <| c_aload X811 hx hby d2_52 rfl rfl ?_
 have cc813 := (P3.keep K807 nin0).other W811 (Or.inr (slot_ne (Or.inr (gw hw 17 rfl)) (Or.inr (gw hw 18 rfl)) (by decide) (t := (.array .byte)) (t' := .byte) (by decide) (by decide)))
 have cc814 := cc810.wr W811
 refine c_putf X811 hx hby hZ hown (gw hw 21 rfl) Via.refl e811 cc813 cc814 (Or.inr ⟨(gw hw 17 rfl), rfl, hnm⟩) (gw hw 3 rfl) (.array .byte) (by decide) rfl rfl d2_54 fun T815 h815 X815 e815 W815 => ?_
 have Fw815 := cc813.same W815
 have KK815 := KK811.wr W815 (Or.inl (List.mem_of_getElem? (i := 0) rfl))
 have ZN815 := Nat.le_trans ZN811 (Keep.of_wr W815).1
 have NN815 := Fr.snoc X815 NN811 P5
 have OL815 := OL811.wr W815 P5
 refine c_sh 57 [] rfl rfl ?_
 have cc816 := (u807_3.wr W811).wr W815
 have cc817 := (u807_4.other W811 ne812).other W815 ne812
 have cc818 := Fw811.other W815 (Or.inr (slot_ne (Or.inr (gw hw 18 rfl)) (Or.inr (gw hw 17 rfl)) (by decide) (t := .byte) (t' := (.array .byte)) (by decide) (by decide)))
 exact c_ret0 X815 hx hby hlk hret d2_57 (by decide) e815 ⟨b807, kb807, rfl, NN815, KK815, (Nat.le_trans (Keep.refl h0 [a1]).1 u807_0), u807_1, cc816, cc817, Fw815, cc818⟩
def QSJ3 (Z : State) (a1 a2 : Addr) (w0 : Int32) (u1 u2 : Value) (ka : ClassId) (c0 c1 c2 : Int32) (h0 : Heap) (n0 : Nat) (v : Option Value) (h : Heap) (L : List Loc) : Prop := ∃ (b : Addr), ∃ (kb : ClassId), v = none ∧ Fr n0 L ∧ Keep h0 h [a1] ∧ h0.size ≤ b ∧ n0 ≤ b ∧ Exa Z h b "[B" ∧ vB Z h b kb 3 [(.int (c0.toInt8.toInt32)), (.int (c1.toInt8.toInt32)), (.int (c2.toInt8.toInt32))] ∧ fV Z h a1 b ∧ fC Z h a1
theorem rmSJ3 {l : Launch} {Z : State} {a0 : Array Value} (hw : HW Z a0) (a1 a2 : Addr) (w0 : Int32) (u1 u2 : Value) (ka : ClassId) (c0 c1 c2 : Int32) (h0 : Heap) (n0 : Nat) (Z0 : n0 ≤ h0.size) (P0 : sCS Z w0) (P1 : Old Z n0 h0) (P2 : eS Z h0 a1) (P3 : Fld Z h0 a1 "java/lang/String" "value" "[B" u1) (P4 : Fld Z h0 a1 "java/lang/String" "coder" "B" u2) (P5 : n0 ≤ a1) (P6 : Arv Z h0 a2 ka .char (3 : Int32) [(.int c0), (.int c1), (.int c2)] (.int (0 : Int32))) (P7 : a1 ≠ a2) (hw0 : ¬ w0 = 0) (ho0 : own_ch c0) (ho1 : own_ch c1) (ho2 : own_ch c2) : own_M l Z ⟨"java/lang/String", "<init>", "([C)V"⟩ jdk_42_method_3_code 2 none (rmk 3 1 3 52) #[.ref a1, .ref a2] h0 (QSJ3 Z a1 a2 w0 u1 u2 ka c0 c1 c2 h0 n0) := by
 refine own_body rfl (plainFor_of_name pn_1) ?_
 intro p e s m below meth c s₁ hx hby hml hown hnm hlk hret X0 e0 hZ
 have N0 := Fr.nil n0
 show Go _ p e below s _ _ _ (s₁.setTop (mkF m 0 #[rv a1, rv a2] []))
 refine c_aloadN X0 hx hby d1_0 rfl rfl <| c_aloadN X0 hx hby d1_1 rfl rfl <| c_iconst X0 hx hby 0 d1_2 rfl <| c_aloadN X0 hx hby d1_3 rfl rfl <| c_alen X0 hx hby hZ e0 P6 d1_4 <| c_aconstNull X0 hx hby d1_5 <| c_init X0 hx hby hZ hown hml (gw hw 8 rfl) (gw hw 9 rfl) (gw hw 11 rfl) (gw hw 4 rfl) rfl e0 (rmSI3 hw a1 a2 w0 u1 u2 ka c0 c1 c2 h0 n0 Z0 P0 P1 P2 P3 P4 P5 P6 P7 hw0 ho0 ho1 ho2) pd_0 rfl d1_6 [] rfl 0 (by decide) rfl rfl fun o820 T820 L820 X820 hQ820 => ?_
 obtain ⟨b820, kb820, rfl, N820q, K820, u820_1, u820_2, u820_3, u820_4, u820_5, u820_6⟩ := hQ820
 have N820 := Fr.app N0 N820q
 have G_b820 := Nat.le_trans Z0 u820_1
 have KK820 := (Keep.refl h0 [a1]).trans K820 (allS (P := fun x => x ∈ [a1] ∨ h0.size ≤ x) (Or.inl (List.mem_of_getElem? (i := 0) rfl)) all0)
 have ZN820 := Nat.le_trans Z0 K820.1
 have OL820 := P1.keep K820 (allS P5 all0)
 refine c_sh 9 [] rfl rfl ?_
 exact c_ret0 X820 hx hby hlk hret d1_9 (by decide) rfl ⟨b820, kb820, rfl, N820, KK820, (Nat.le_trans (Keep.refl h0 [a1]).1 u820_1), u820_2, u820_3, u820_4, u820_5, u820_6⟩
def QCP4 (Z : State) (a1 a3 : Addr) (ka kb : ClassId) (c0 c1 c2 c3 : Int32) (h0 : Heap) (n0 : Nat) (v : Option Value) (h : Heap) (L : List Loc) : Prop := v = some (.int (4 : Int32)) ∧ Fr n0 L ∧ Keep h0 h [a3] ∧ vB Z h a3 kb 4 [(.int (c0.toInt8.toInt32)), (.int (c1.toInt8.toInt32)), (.int (c2.toInt8.toInt32)), (.int (c3.toInt8.toInt32))]
theorem rmCP4 {l : Launch} {Z : State} {a0 : Array Value} (hw : HW Z a0) (a1 a3 : Addr) (ka kb : ClassId) (c0 c1 c2 c3 : Int32) (h0 : Heap) (n0 : Nat) (Z0 : n0 ≤ h0.size) (P0 : Arv Z h0 a1 ka .char (4 : Int32) [(.int c0), (.int c1), (.int c2), (.int c3)] (.int (0 : Int32))) (P1 : vB Z h0 a3 kb 4 [.int 0, .int 0, .int 0, .int 0]) (P2 : n0 ≤ a3) (P3 : a1 ≠ a3) (ho0 : own_ch c0) (ho1 : own_ch c1) (ho2 : own_ch c2) (ho3 : own_ch c3) : own_M l Z ⟨"java/lang/StringUTF16", "compress", "([CI[BII)I"⟩ jdk_52_method_21_code 7 (some .int) (rmk 0 0 0 0) #[.ref a1, .int 0, .ref a3, .int 0, .int 4] h0 (QCP4 Z a1 a3 ka kb c0 c1 c2 c3 h0 n0) := by
 refine own_body rfl (plainFor_of_name pn_21) ?_
 intro p e s m below meth c s₁ hx hby hml hown hnm hlk hret X0 e0 hZ
 have N0 := Fr.nil n0
 show Go _ p e below s _ _ _ (s₁.setTop (mkF m 0 #[rv a1, iv 0, rv a3, iv 0, iv 4, .unset, .unset] []))
 refine c_iconst X0 hx hby 0 d21_0 rfl <| c_istore X0 hx hby _ d21_1 rfl <| c_iload X0 hx hby d21_3 rfl <| c_iload X0 hx hby d21_5 rfl <| c_icmpNo X0 hx hby d21_7 (by decide) <| c_aloadN X0 hx hby d21_10 rfl rfl <| c_iloadN X0 hx hby d21_11 rfl <| c_cal X0 hx hby hZ e0 P0 (by decide) (.int c0) rfl d21_12 <| c_istore X0 hx hby _ d21_13 rfl <| c_iload X0 hx hby d21_15 rfl <| c_sipush X0 hx hby 255 d21_17 rfl <| c_icmpYes X0 hx hby 26 d21_20 (flt (own_le ho0)).2.2.2 (by decide) <| c_aloadN X0 hx hby d21_26 rfl rfl <| c_iloadN X0 hx hby d21_27 rfl <| c_iload X0 hx hby d21_28 rfl <| c_i2b X0 hx hby d21_30 <| c_shL #[rv a1, iv 0, rv a3, iv 0, iv 4, iv 0, iv c0] rfl <| c_bst X0 hx hby hZ e0 P1 (by decide) 0 rfl (Nat.le_of_ble_eq_true rfl) d21_31 fun T828 h828 X828 e828 W828 V828 => ?_
 rw [own_nb ho0] at V828
 have V828 : vB Z h828 a3 kb 4 [(.int (c0.toInt8.toInt32)), .int 0, .int 0, .int 0] := V828
 have KK828 := (Keep.refl h0 [a3]).wr W828 (Or.inl (List.mem_of_getElem? (i := 0) rfl))
 have ZN828 := Nat.le_trans Z0 (Keep.of_wr W828).1
 have NN828 := Fr.snoc X828 N0 P2
 refine c_sh 32 [] rfl rfl <| c_iinc X828 hx hby #[rv a1, iv 1, rv a3, iv 0, iv 4, iv 0, iv c0] d21_32 rfl rfl <| c_iinc X828 hx hby #[rv a1, iv 1, rv a3, iv 1, iv 4, iv 0, iv c0] d21_35 rfl rfl <| c_iinc X828 hx hby #[rv a1, iv 1, rv a3, iv 1, iv 4, iv 1, iv c0] d21_38 rfl rfl <| c_goto X828 hx hby 3 d21_41 (by decide) <| c_iload X828 hx hby d21_3 rfl <| c_iload X828 hx hby d21_5 rfl <| c_icmpNo X828 hx hby d21_7 (by decide) <| c_aloadN X828 hx hby d21_10 rfl rfl <| c_iloadN X828 hx hby d21_11 rfl ?_
 have cc829 := P0.other W828 P3
 refine c_cal X828 hx hby hZ e828 cc829 (by decide) (.int c1) rfl d21_12 <| c_istore X828 hx hby _ d21_13 rfl <| c_iload X828 hx hby d21_15 rfl <| c_sipush X828 hx hby 255 d21_17 rfl <| c_icmpYes X828 hx hby 26 d21_20 (flt (own_le ho1)).2.2.2 (by decide) <| c_aloadN X828 hx hby d21_26 rfl rfl <| c_iloadN X828 hx hby d21_27 rfl <| c_iload X828 hx hby d21_28 rfl <| c_i2b X828 hx hby d21_30 <| c_shL #[rv a1, iv 1, rv a3, iv 1, iv 4, iv 1, iv c1] rfl <| c_bst X828 hx hby hZ e828 V828 (by decide) 1 rfl (Nat.le_of_ble_eq_true rfl) d21_31 fun T830 h830 X830 e830 W830 V830 => ?_
 rw [own_nb ho1] at V830
 have V830 : vB Z h830 a3 kb 4 [(.int (c0.toInt8.toInt32)), (.int (c1.toInt8.toInt32)), .int 0, .int 0] := V830
 have KK830 := KK828.wr W830 (Or.inl (List.mem_of_getElem? (i := 0) rfl))
 have ZN830 := Nat.le_trans ZN828 (Keep.of_wr W830).1
 have NN830 := Fr.snoc X830 NN828 P2
 refine c_sh 32 [] rfl rfl <| c_iinc X830 hx hby #[rv a1, iv 2, rv a3, iv 1, iv 4, iv 1, iv c1] d21_32 rfl rfl <| c_iinc X830 hx hby #[rv a1, iv 2, rv a3, iv 2, iv 4, iv 1, iv c1] d21_35 rfl rfl <| c_iinc X830 hx hby #[rv a1, iv 2, rv a3, iv 2, iv 4, iv 2, iv c1] d21_38 rfl rfl <| c_goto X830 hx hby 3 d21_41 (by decide) <| c_iload X830 hx hby d21_3 rfl <| c_iload X830 hx hby d21_5 rfl <| c_icmpNo X830 hx hby d21_7 (by decide) <| c_aloadN X830 hx hby d21_10 rfl rfl <| c_iloadN X830 hx hby d21_11 rfl ?_
 have cc831 := cc829.other W830 P3
 refine c_cal X830 hx hby hZ e830 cc831 (by decide) (.int c2) rfl d21_12 <| c_istore X830 hx hby _ d21_13 rfl <| c_iload X830 hx hby d21_15 rfl <| c_sipush X830 hx hby 255 d21_17 rfl <| c_icmpYes X830 hx hby 26 d21_20 (flt (own_le ho2)).2.2.2 (by decide) <| c_aloadN X830 hx hby d21_26 rfl rfl <| c_iloadN X830 hx hby d21_27 rfl <| c_iload X830 hx hby d21_28 rfl <| c_i2b X830 hx hby d21_30 <| c_shL #[rv a1, iv 2, rv a3, iv 2, iv 4, iv 2, iv c2] rfl <| c_bst X830 hx hby hZ e830 V830 (by decide) 2 rfl (Nat.le_of_ble_eq_true rfl) d21_31 fun T832 h832 X832 e832 W832 V832 => ?_
 rw [own_nb ho2] at V832
 have V832 : vB Z h832 a3 kb 4 [(.int (c0.toInt8.toInt32)), (.int (c1.toInt8.toInt32)), (.int (c2.toInt8.toInt32)), .int 0] := V832
 have KK832 := KK830.wr W832 (Or.inl (List.mem_of_getElem? (i := 0) rfl))
 have ZN832 := Nat.le_trans ZN830 (Keep.of_wr W832).1
 have NN832 := Fr.snoc X832 NN830 P2
 refine c_sh 32 [] rfl rfl <| c_iinc X832 hx hby #[rv a1, iv 3, rv a3, iv 2, iv 4, iv 2, iv c2] d21_32 rfl rfl <| c_iinc X832 hx hby #[rv a1, iv 3, rv a3, iv 3, iv 4, iv 2, iv c2] d21_35 rfl rfl <| c_iinc X832 hx hby #[rv a1, iv 3, rv a3, iv 3, iv 4, iv 3, iv c2] d21_38 rfl rfl <| c_goto X832 hx hby 3 d21_41 (by decide) <| c_iload X832 hx hby d21_3 rfl <| c_iload X832 hx hby d21_5 rfl <| c_icmpNo X832 hx hby d21_7 (by decide) <| c_aloadN X832 hx hby d21_10 rfl rfl <| c_iloadN X832 hx hby d21_11 rfl ?_
 have cc833 := cc831.other W832 P3
 refine c_cal X832 hx hby hZ e832 cc833 (by decide) (.int c3) rfl d21_12 <| c_istore X832 hx hby _ d21_13 rfl <| c_iload X832 hx hby d21_15 rfl <| c_sipush X832 hx hby 255 d21_17 rfl <| c_icmpYes X832 hx hby 26 d21_20 (flt (own_le ho3)).2.2.2 (by decide) <| c_aloadN X832 hx hby d21_26 rfl rfl <| c_iloadN X832 hx hby d21_27 rfl <| c_iload X832 hx hby d21_28 rfl <| c_i2b X832 hx hby d21_30 <| c_shL #[rv a1, iv 3, rv a3, iv 3, iv 4, iv 3, iv c3] rfl <| c_bst X832 hx hby hZ e832 V832 (by decide) 3 rfl (Nat.le_of_ble_eq_true rfl) d21_31 fun T834 h834 X834 e834 W834 V834 => ?_
 rw [own_nb ho3] at V834
 have V834 : vB Z h834 a3 kb 4 [(.int (c0.toInt8.toInt32)), (.int (c1.toInt8.toInt32)), (.int (c2.toInt8.toInt32)), (.int (c3.toInt8.toInt32))] := V834
 have KK834 := KK832.wr W834 (Or.inl (List.mem_of_getElem? (i := 0) rfl))
 have ZN834 := Nat.le_trans ZN832 (Keep.of_wr W834).1
 have NN834 := Fr.snoc X834 NN832 P2
 refine c_sh 32 [] rfl rfl <| c_iinc X834 hx hby #[rv a1, iv 4, rv a3, iv 3, iv 4, iv 3, iv c3] d21_32 rfl rfl <| c_iinc X834 hx hby #[rv a1, iv 4, rv a3, iv 4, iv 4, iv 3, iv c3] d21_35 rfl rfl <| c_iinc X834 hx hby #[rv a1, iv 4, rv a3, iv 4, iv 4, iv 4, iv c3] d21_38 rfl rfl <| c_goto X834 hx hby 3 d21_41 (by decide) <| c_iload X834 hx hby d21_3 rfl <| c_iload X834 hx hby d21_5 rfl <| c_icmpYes X834 hx hby 44 d21_7 (by decide) (by decide) <| c_iload X834 hx hby d21_44 rfl ?_
 refine c_retI X834 hx hby hlk hret d21_46 rfl (by simp) (by decide) e834 ⟨rfl, NN834, KK834, V834⟩
def QCM4 (Z : State) (a1 : Addr) (ka : ClassId) (c0 c1 c2 c3 : Int32) (h0 : Heap) (n0 : Nat) (v : Option Value) (h : Heap) (L : List Loc) : Prop := ∃ (b : Addr), ∃ (kb : ClassId), v = some (.ref b) ∧ Fr n0 L ∧ h0.size ≤ b ∧ n0 ≤ b ∧ Keep h0 h [] ∧ Exa Z h b "[B" ∧ vB Z h b kb 4 [(.int (c0.toInt8.toInt32)), (.int (c1.toInt8.toInt32)), (.int (c2.toInt8.toInt32)), (.int (c3.toInt8.toInt32))]
theorem rmCM4 {l : Launch} {Z : State} {a0 : Array Value} (hw : HW Z a0) (a1 : Addr) (ka : ClassId) (c0 c1 c2 c3 : Int32) (h0 : Heap) (n0 : Nat) (Z0 : n0 ≤ h0.size) (P0 : Arv Z h0 a1 ka .char (4 : Int32) [(.int c0), (.int c1), (.int c2), (.int c3)] (.int (0 : Int32))) (ho0 : own_ch c0) (ho1 : own_ch c1) (ho2 : own_ch c2) (ho3 : own_ch c3) : own_M l Z ⟨"java/lang/StringUTF16", "compress", "([CII)[B"⟩ jdk_52_method_16_code 6 (some (.array .byte)) (rmk 1 1 4 18) #[.ref a1, .int 0, .int 4] h0 (QCM4 Z a1 ka c0 c1 c2 c3 h0 n0) := by
 refine own_body rfl (plainFor_of_name pn_20) ?_
 intro p e s m below meth c s₁ hx hby hml hown hnm hlk hret X0 e0 hZ
 have N0 := Fr.nil n0
 show Go _ p e below s _ _ _ (s₁.setTop (mkF m 0 #[rv a1, iv 0, iv 4, .unset, .unset, .unset] []))
 refine c_iloadN X0 hx hby d20_0 rfl <| c_newP X0 hx hby hZ (gw hw 16 rfl) e0 d20_1 (by decide) 4 (by decide) (by decide) "[B" (by first | rfl | decide) fun T840 h840 k840 b840 g840 X840 e840 E840 A840 AE840 => ?_
 have G_b840 := Nat.le_trans Z0 (Nat.le_of_eq g840.symm)
 have KK840 := (Keep.refl h0 []).ext E840
 have ZN840 := Nat.le_trans Z0 E840.1
 have V840 : vB Z h840 b840 k840 4 [.int 0, .int 0, .int 0, .int 0] := (Arv.new A840 (by decide)).pad (pad_rep [] (.int (0 : Int32)) 4)
 refine c_sh 3 [.ref b840] rfl rfl <| c_astoreN X840 hx hby _ d20_3 rfl rfl <| c_aloadN X840 hx hby d20_4 rfl rfl <| c_iloadN X840 hx hby d20_5 rfl <| c_aloadN X840 hx hby d20_6 rfl rfl <| c_iconst X840 hx hby 0 d20_7 rfl <| c_iloadN X840 hx hby d20_8 rfl <| c_shL #[rv a1, iv 0, iv 4, rv b840, .unset, .unset] rfl ?_
 have cc842 := P0.ext E840
 have ne843 : a1 ≠ b840 := (Nat.ne_of_lt (Nat.lt_of_lt_of_le P0.lt (Nat.le_of_eq g840.symm)))
 refine c_callS X840 hx hby hZ hown hml (gw hw 109 rfl) (gw hw 110 rfl) (gw hw 107 rfl) (gw hw 111 rfl) e840 (rmCP4 hw a1 b840 ka k840 c0 c1 c2 c3 h840 n0 ZN840 cc842 V840 G_b840 ne843 ho0 ho1 ho2 ho3) pd_14 rfl d20_9 [] rfl 0 (by decide) rfl rfl fun o841 T841 L841 X841 hQ841 => ?_
 obtain ⟨rfl, N841q, K841, u841_1⟩ := hQ841
 have N841 := Fr.app N0 N841q
 have KK841 := KK840.trans K841 (allS (P := fun x => x ∈ [] ∨ h0.size ≤ x) (Or.inr (Nat.le_trans (Keep.refl h0 []).1 (Nat.le_of_eq g840.symm))) all0)
 have ZN841 := Nat.le_trans ZN840 K841.1
 refine c_sh 12 [.int 4] rfl rfl <| c_istore X841 hx hby _ d20_12 rfl <| c_iload X841 hx hby d20_14 rfl <| c_iloadN X841 hx hby d20_16 rfl <| c_icmpYes X841 hx hby 57 d20_17 (teq (rfl : (4 : Int32) = (4 : Int32))).1 (by decide) <| c_aloadN X841 hx hby d20_57 rfl rfl <| c_shL #[rv a1, iv 0, iv 4, rv b840, iv 4, .unset] rfl ?_
 have cc844 := AE840.keep K841
 exact c_retA X841 hx hby hlk hret d20_58 rfl ⟨rfl, rfl⟩ (by decide) rfl ⟨b840, k840, rfl, N841, (Nat.le_trans (Keep.refl h0 []).1 (Nat.le_of_eq g840.symm)), G_b840, KK841, cc844, u841_1⟩
def QCA4 (Z : State) (a1 : Addr) (kb : ClassId) (vs1 : List Value) (h0 : Heap) (n0 : Nat) (v : Option Value) (h : Heap) (L : List Loc) : Prop := v = some (.int (0 : Int32)) ∧ Fr n0 L ∧ h = h0
theorem rmCA4 {l : Launch} {Z : State} {a0 : Array Value} (hw : HW Z a0) (a1 : Addr) (kb : ClassId) (vs1 : List Value) (h0 : Heap) (n0 : Nat) (Z0 : n0 ≤ h0.size) (P0 : vB Z h0 a1 kb 4 vs1) : own_M l Z ⟨"java/lang/StringUTF16", "coderFromArrayLen", "([BI)B"⟩ jdk_52_method_15_code 2 (some .byte) (rmk 0 0 0 0) #[.ref a1, .int 4] h0 (QCA4 Z a1 kb vs1 h0 n0) := by
 refine own_body rfl (plainFor_of_name pn_22) ?_
 intro p e s m below meth c s₁ hx hby hml hown hnm hlk hret X0 e0 hZ
 have N0 := Fr.nil n0
 show Go _ p e below s _ _ _ (s₁.setTop (mkF m 0 #[rv a1, iv 4] []))
 refine c_iloadN X0 hx hby d22_0 rfl <| c_aloadN X0 hx hby d22_1 rfl rfl <| c_alen X0 hx hby hZ e0 P0 d22_2 <| c_isub X0 hx hby d22_3 <| c_sh 4 [.int 0] rfl rfl <| c_bipush X0 hx hby 31 d22_4 rfl <| c_iushr X0 hx hby d22_6 <| c_i2b X0 hx hby d22_7 ?_
 rw [show ((((0 : Int32).toUInt32 >>> ((31 : Int32) &&& 31).toUInt32).toInt32).toInt8.toInt32) = (0 : Int32) from by decide]
 refine c_sh 8 [.int 0] rfl rfl ?_
 refine c_retI X0 hx hby hlk hret d22_8 rfl (by simp) (by decide) e0 ⟨rfl, N0, rfl⟩
def QSI4 (Z : State) (a1 a2 : Addr) (w0 : Int32) (u1 u2 : Value) (ka : ClassId) (c0 c1 c2 c3 : Int32) (h0 : Heap) (n0 : Nat) (v : Option Value) (h : Heap) (L : List Loc) : Prop := ∃ (b : Addr), ∃ (kb : ClassId), v = none ∧ Fr n0 L ∧ Keep h0 h [a1] ∧ h0.size ≤ b ∧ n0 ≤ b ∧ Exa Z h b "[B" ∧ vB Z h b kb 4 [(.int (c0.toInt8.toInt32)), (.int (c1.toInt8.toInt32)), (.int (c2.toInt8.toInt32)), (.int (c3.toInt8.toInt32))] ∧ fV Z h a1 b ∧ fC Z h a1
theorem rmSI4 {l : Launch} {Z : State} {a0 : Array Value} (hw : HW Z a0) (a1 a2 : Addr) (w0 : Int32) (u1 u2 : Value) (ka : ClassId) (c0 c1 c2 c3 : Int32) (h0 : Heap) (n0 : Nat) (Z0 : n0 ≤ h0.size) (P0 : sCS Z w0) (P1 : Old Z n0 h0) (P2 : eS Z h0 a1) (P3 : Fld Z h0 a1 "java/lang/String" "value" "[B" u1) (P4 : Fld Z h0 a1 "java/lang/String" "coder" "B" u2) (P5 : n0 ≤ a1) (P6 : Arv Z h0 a2 ka .char (4 : Int32) [(.int c0), (.int c1), (.int c2), (.int c3)] (.int (0 : Int32))) (P7 : a1 ≠ a2) (hw0 : ¬ w0 = 0) (ho0 : own_ch c0) (ho1 : own_ch c1) (ho2 : own_ch c2) (ho3 : own_ch c3) : own_M l Z ⟨"java/lang/String", "<init>", "([CIILjava/lang/Void;)V"⟩ jdk_42_method_149_code 6 none (rmk 2 1 4 35) #[.ref a1, .ref a2, .int 0, .int 4, .null] h0 (QSI4 Z a1 a2 w0 u1 u2 ka c0 c1 c2 c3 h0 n0) := by
 refine own_body rfl (plainFor_of_name pn_2) ?_
 intro p e s m below meth c s₁ hx hby hml hown hnm hlk hret X0 e0 hZ
 have N0 := Fr.nil n0
 show Go _ p e below s _ _ _ (s₁.setTop (mkF m 0 #[rv a1, rv a2, iv 0, iv 4, .val .null, .unset] []))
 refine c_aloadN X0 hx hby d2_0 rfl rfl ?_
 obtain ⟨T859, X859, e859, st859⟩ := initO X0 hx hZ hown (gw hw 12 rfl) (gw hw 13 rfl) (gw hw 14 rfl) e0 (g := (mkF m 1 #[rv a1, rv a2, iv 0, iv 4, .val .null, .unset] [.ref a1])) rfl (by rw [hml]; rfl) rfl (hb hby d2_1) (by decide) (W := 0) (by show 2 * 0 + _ ≤ _; exact Nat.le_of_eq rfl) (by decide)
 refine go st859 ?_
 show Go _ p e below s _ _ _ (T859.setTop (mkF m 4 #[rv a1, rv a2, iv 0, iv 4, .val .null, .unset] []))
 refine c_iloadN X859 hx hby d2_4 rfl <| c_ifYes X859 hx hby 27 d2_5 (by decide) (by decide) <| c_gets X859 hx hby hZ hown (gw hw 60 rfl) Via.refl e859 (P0.ext P1.2) d2_27 fun T860 X860 e860 => ?_
 refine c_sh 30 [.int w0] rfl rfl <| c_ifNo X860 hx hby d2_30 ((if0 _ _).trans (feq hw0).1) <| c_aloadN X860 hx hby d2_33 rfl rfl <| c_iloadN X860 hx hby d2_34 rfl <| c_iloadN X860 hx hby d2_35 rfl <| c_callS X860 hx hby hZ hown hml (gw hw 105 rfl) (gw hw 106 rfl) (gw hw 107 rfl) (gw hw 108 rfl) e860 (rmCM4 hw a2 ka c0 c1 c2 c3 h0 n0 Z0 P6 ho0 ho1 ho2 ho3) pd_15 rfl d2_36 [] rfl 0 (by decide) rfl rfl fun o861 T861 L861 X861 hQ861 => ?_
 obtain ⟨b861, kb861, rfl, N861q, u861_0, u861_1, K861, u861_3, u861_4⟩ := hQ861
 have N861 := Fr.app N0 N861q
 have G_b861 := Nat.le_trans Z0 u861_0
 have KK861 := (Keep.refl h0 [a1]).trans K861 all0
 have ZN861 := Nat.le_trans Z0 K861.1
 have OL861 := P1.keep K861 all0
 refine c_sh 39 [.ref b861] rfl rfl <| c_astore X861 hx hby _ d2_39 rfl rfl <| c_aloadN X861 hx hby d2_41 rfl rfl <| c_aload X861 hx hby d2_42 rfl rfl <| c_iloadN X861 hx hby d2_44 rfl <| c_shL #[rv a1, rv a2, iv 0, iv 4, .val .null, rv b861] rfl <| c_callS X861 hx hby hZ hown hml (gw hw 112 rfl) (gw hw 113 rfl) (gw hw 107 rfl) (gw hw 114 rfl) rfl (rmCA4 hw b861 kb861 [(.int (c0.toInt8.toInt32)), (.int (c1.toInt8.toInt32)), (.int (c2.toInt8.toInt32)), (.int (c3.toInt8.toInt32))] (T861.heap) n0 ZN861 u861_4) pd_16 rfl d2_45 [.ref a1] rfl 1 (by decide) rfl rfl fun o862 T862 L862 X862 hQ862 => ?_
 obtain ⟨rfl, N862q, e862⟩ := hQ862
 have N862 := Fr.app N861 N862q
 refine c_sh 48 [.int 0, .ref a1] rfl rfl ?_
 have cc863 := P4.keep K861 nin0
 have cc864 := P2.keep K861
 refine c_putn X862 hx hby hZ hown (gw hw 22 rfl) Via.refl e862 (.int 0) cc863 cc864 (Or.inr ⟨(gw hw 18 rfl), rfl, hnm⟩) (gw hw 3 rfl) .byte (by decide) rfl rfl d2_48 fun T865 h865 X865 e865 W865 => ?_
 have Fw865 := cc863.same W865
 have ne866 : b861 ≠ a1 := (Ne.symm (Nat.ne_of_lt (Nat.lt_of_lt_of_le P2.lt u861_0)))
 have KK865 := KK861.wr W865 (Or.inl (List.mem_of_getElem? (i := 0) rfl))
 have ZN865 := Nat.le_trans ZN861 (Keep.of_wr W865).1
 have NN865 := Fr.snoc X865 N862 P5
 have OL865 := OL861.wr W865 P5
 refine c_sh 51 [] rfl rfl <| c_aloadN X865 hx hby d2_51 rfl rfl <| c_aload X865 hx hby d2_52 rfl rfl ?_
 have cc867 := (P3.keep K861 nin0).other W865 (Or.inr (slot_ne (Or.inr (gw hw 17 rfl)) (Or.inr (gw hw 18 rfl)) (by decide) (t := (.array .byte)) (t' := .byte) (by decide) (by decide)))
 have cc868 := cc864.wr W865
 refine c_putf X865 hx hby hZ hown (gw hw 21 rfl) Via.refl e865 cc867 cc868 (Or.inr ⟨(gw hw 17 rfl), rfl, hnm⟩) (gw hw 3 rfl) (.array .byte) (by decide) rfl rfl d2_54 fun T869 h869 X869 e869 W869 => ?_
 have Fw869 := cc867.same W869
 have KK869 := KK865.wr W869 (Or.inl (List.mem_of_getElem? (i := 0) rfl))
 have ZN869 := Nat.le_trans ZN865 (Keep.of_wr W869).1
 have NN869 := Fr.snoc X869 NN865 P5
 have OL869 := OL865.wr W869 P5
 refine c_sh 57 [] rfl rfl ?_
 have cc870 := (u861_3.wr W865).wr W869
 have cc871 := (u861_4.other W865 ne866).other W869 ne866
 have cc872 := Fw865.other W869 (Or.inr (slot_ne (Or.inr (gw hw 18 rfl)) (Or.inr (gw hw 17 rfl)) (by decide) (t := .byte) (t' := (.array .byte)) (by decide) (by decide)))
 exact c_ret0 X869 hx hby hlk hret d2_57 (by decide) e869 ⟨b861, kb861, rfl, NN869, KK869, (Nat.le_trans (Keep.refl h0 [a1]).1 u861_0), u861_1, cc870, cc871, Fw869, cc872⟩
def QSJ4 (Z : State) (a1 a2 : Addr) (w0 : Int32) (u1 u2 : Value) (ka : ClassId) (c0 c1 c2 c3 : Int32) (h0 : Heap) (n0 : Nat) (v : Option Value) (h : Heap) (L : List Loc) : Prop := ∃ (b : Addr), ∃ (kb : ClassId), v = none ∧ Fr n0 L ∧ Keep h0 h [a1] ∧ h0.size ≤ b ∧ n0 ≤ b ∧ Exa Z h b "[B" ∧ vB Z h b kb 4 [(.int (c0.toInt8.toInt32)), (.int (c1.toInt8.toInt32)), (.int (c2.toInt8.toInt32)), (.int (c3.toInt8.toInt32))] ∧ fV Z h a1 b ∧ fC Z h a1
theorem rmSJ4 {l : Launch} {Z : State} {a0 : Array Value} (hw : HW Z a0) (a1 a2 : Addr) (w0 : Int32) (u1 u2 : Value) (ka : ClassId) (c0 c1 c2 c3 : Int32) (h0 : Heap) (n0 : Nat) (Z0 : n0 ≤ h0.size) (P0 : sCS Z w0) (P1 : Old Z n0 h0) (P2 : eS Z h0 a1) (P3 : Fld Z h0 a1 "java/lang/String" "value" "[B" u1) (P4 : Fld Z h0 a1 "java/lang/String" "coder" "B" u2) (P5 : n0 ≤ a1) (P6 : Arv Z h0 a2 ka .char (4 : Int32) [(.int c0), (.int c1), (.int c2), (.int c3)] (.int (0 : Int32))) (P7 : a1 ≠ a2) (hw0 : ¬ w0 = 0) (ho0 : own_ch c0) (ho1 : own_ch c1) (ho2 : own_ch c2) (ho3 : own_ch c3) : own_M l Z ⟨"java/lang/String", "<init>", "([C)V"⟩ jdk_42_method_3_code 2 none (rmk 3 1 4 52) #[.ref a1, .ref a2] h0 (QSJ4 Z a1 a2 w0 u1 u2 ka c0 c1 c2 c3 h0 n0) := by
 refine own_body rfl (plainFor_of_name pn_1) ?_
 intro p e s m below meth c s₁ hx hby hml hown hnm hlk hret X0 e0 hZ
 have N0 := Fr.nil n0
 show Go _ p e below s _ _ _ (s₁.setTop (mkF m 0 #[rv a1, rv a2] []))
 refine c_aloadN X0 hx hby d1_0 rfl rfl <| c_aloadN X0 hx hby d1_1 rfl rfl <| c_iconst X0 hx hby 0 d1_2 rfl <| c_aloadN X0 hx hby d1_3 rfl rfl <| c_alen X0 hx hby hZ e0 P6 d1_4 <| c_aconstNull X0 hx hby d1_5 <| c_init X0 hx hby hZ hown hml (gw hw 8 rfl) (gw hw 9 rfl) (gw hw 11 rfl) (gw hw 4 rfl) rfl e0 (rmSI4 hw a1 a2 w0 u1 u2 ka c0 c1 c2 c3 h0 n0 Z0 P0 P1 P2 P3 P4 P5 P6 P7 hw0 ho0 ho1 ho2 ho3) pd_0 rfl d1_6 [] rfl 0 (by decide) rfl rfl fun o874 T874 L874 X874 hQ874 => ?_
 obtain ⟨b874, kb874, rfl, N874q, K874, u874_1, u874_2, u874_3, u874_4, u874_5, u874_6⟩ := hQ874
 have N874 := Fr.app N0 N874q
 have G_b874 := Nat.le_trans Z0 u874_1
 have KK874 := (Keep.refl h0 [a1]).trans K874 (allS (P := fun x => x ∈ [a1] ∨ h0.size ≤ x) (Or.inl (List.mem_of_getElem? (i := 0) rfl)) all0)
 have ZN874 := Nat.le_trans Z0 K874.1
 have OL874 := P1.keep K874 (allS P5 all0)
 refine c_sh 9 [] rfl rfl ?_
 exact c_ret0 X874 hx hby hlk hret d1_9 (by decide) rfl ⟨b874, kb874, rfl, N874, KK874, (Nat.le_trans (Keep.refl h0 [a1]).1 u874_1), u874_2, u874_3, u874_4, u874_5, u874_6⟩
theorem d34_0 : decode jdk_41_method_11_code 0 = .ok (.iload_n 0, 1) := by decide +kernel
theorem d34_1 : decode jdk_41_method_11_code 1 = .ok (.ifCond .lt 8, 3) := by decide +kernel
theorem d34_4 : decode jdk_41_method_11_code 4 = .ok (.iload_n 0, 1) := by decide +kernel
theorem d34_5 : decode jdk_41_method_11_code 5 = .ok (.iload_n 1, 1) := by decide +kernel
theorem d34_6 : decode jdk_41_method_11_code 6 = .ok (.if_icmp .lt 10, 3) := by decide +kernel
theorem d34_16 : decode jdk_41_method_11_code 16 = .ok (.iload_n 0, 1) := by decide +kernel
theorem d34_17 : decode jdk_41_method_11_code 17 = .ok (.ireturn, 1) := by decide +kernel
theorem pn_34 : plainName "jdk/internal/util/Preconditions" = true := by first | (simp [plainName, overriddenIn]; done) | decide +kernel
theorem ef_34 (m : MethodId) (p1 : Int32) (p2 : Int32) (f0 : Value) (hf_f0 : f0.isRef = true) : entryFrame m #[.int p1, .int p2, f0] 3 = mkF m 0 #[.val (.int p1), .val (.int p2), .val f0] [] := by rcases ref_cases hf_f0 with rfl | ⟨z, rfl⟩ <;> first | (simp [entryFrame, mkF, argsToLocals, Value.category]; done) | rfl
def Q34 (Z : State) (p1 p2 : Int32) (f0 : Value) (h0 : Heap) (n0 : Nat) (v : Option Value) (h : Heap) (L : List Loc) : Prop := v = some (.int p1) ∧ Fr n0 L ∧ h = h0
theorem rm34 {l : Launch} {Z : State} {a0 : Array Value} (hw : HW Z a0) (p1 p2 : Int32) (f0 : Value) (h0 : Heap) (n0 : Nat) (Z0 : n0 ≤ h0.size) (h1 : ¬ p1 < 0) (h2 : p1 < p2) (hf_f0 : f0.isRef = true) : own_M l Z ⟨"jdk/internal/util/Preconditions", "checkIndex", "(IILjava/util/function/BiFunction;)I"⟩ jdk_41_method_11_code 3 (some .int) (rmk 0 0 0 0) #[.int p1, .int p2, f0] h0 (Q34 Z p1 p2 f0 h0 n0) := by
 refine own_body rfl (plainFor_of_name pn_34) ?_
 intro p e s m below meth c s₁ hx hby hml hown hnm hlk hret X0 e0 hZ
 have N0 := Fr.nil n0
 refine go (fun _ k => castTop (ef_34 m p1 p2 f0 hf_f0) k) ?_
 show Go _ p e below s _ _ _ (s₁.setTop (mkF m 0 #[iv p1, iv p2, .val f0] []))
 refine c_iloadN X0 hx hby d34_0 rfl <| c_ifNo X0 hx hby d34_1 ((if0 _ _).trans (flt h1).1) <| c_iloadN X0 hx hby d34_4 rfl <| c_iloadN X0 hx hby d34_5 rfl <| c_icmpYes X0 hx hby 16 d34_6 (tlt h2).1 (by decide) <| c_iloadN X0 hx hby d34_16 rfl ?_
 refine c_retI X0 hx hby hlk hret d34_17 rfl (by simp) (by decide) e0 ⟨rfl, N0, rfl⟩
theorem d33_0 : decode jdk_42_method_155_code 0 = .ok (.iload_n 0, 1) := by decide +kernel
theorem d33_1 : decode jdk_42_method_155_code 1 = .ok (.iload_n 1, 1) := by decide +kernel
theorem d33_2 : decode jdk_42_method_155_code 2 = .ok (.getstatic 1053, 3) := by decide +kernel
theorem d33_5 : decode jdk_42_method_155_code 5 = .ok (.invokestatic 1059, 3) := by decide +kernel
theorem d33_8 : decode jdk_42_method_155_code 8 = .ok (.pop, 1) := by decide +kernel
theorem d33_9 : decode jdk_42_method_155_code 9 = .ok (.return_, 1) := by decide +kernel
theorem pn_33 : plainName "java/lang/String" = true := by first | (simp [plainName, overriddenIn]; done) | decide +kernel
theorem pd_17 : parseMethodDescriptor "(IILjava/util/function/BiFunction;)I" = some ⟨[.int, .int, (.object "java/util/function/BiFunction")], some .int⟩ := by decide +kernel
def Q33 (Z : State) (p1 p2 : Int32) (f0 : Value) (h0 : Heap) (n0 : Nat) (v : Option Value) (h : Heap) (L : List Loc) : Prop := v = none ∧ Fr n0 L ∧ h = h0
theorem rm33 {l : Launch} {Z : State} {a0 : Array Value} (hw : HW Z a0) (p1 p2 : Int32) (f0 : Value) (h0 : Heap) (n0 : Nat) (Z0 : n0 ≤ h0.size) (P0 : sPF Z f0) (P1 : Old Z n0 h0) (h1 : ¬ p1 < 0) (h2 : p1 < p2) (hf : f0.isRef = true) : own_M l Z ⟨"java/lang/String", "checkIndex", "(II)V"⟩ jdk_42_method_155_code 2 none (rmk 1 0 0 14) #[.int p1, .int p2] h0 (Q33 Z p1 p2 f0 h0 n0) := by
 refine own_body rfl (plainFor_of_name pn_33) ?_
 intro p e s m below meth c s₁ hx hby hml hown hnm hlk hret X0 e0 hZ
 have N0 := Fr.nil n0
 show Go _ p e below s _ _ _ (s₁.setTop (mkF m 0 #[iv p1, iv p2] []))
 refine c_iloadN X0 hx hby d33_0 rfl <| c_iloadN X0 hx hby d33_1 rfl <| c_gets X0 hx hby hZ hown (gw hw 95 rfl) Via.refl e0 (P0.ext P1.2) d33_2 fun T877 X877 e877 => ?_
 refine c_sh 5 [f0, .int p2, .int p1] rfl rfl <| c_callS X877 hx hby hZ hown hml (gw hw 159 rfl) (gw hw 160 rfl) (gw hw 96 rfl) (gw hw 161 rfl) e877 (rm34 hw p1 p2 f0 h0 n0 Z0 h1 h2 hf) pd_17 rfl d33_5 [] rfl 0 (by decide) rfl rfl fun o878 T878 L878 X878 hQ878 => ?_
 obtain ⟨rfl, N878q, e878⟩ := hQ878
 have N878 := Fr.app N0 N878q
 refine c_sh 8 [.int p1] rfl rfl <| c_pop X878 hx hby d33_8 rfl ?_
 exact c_ret0 X878 hx hby hlk hret d33_9 (by decide) e878 ⟨rfl, N878, rfl⟩
theorem d32_0 : decode jdk_43_method_2_code 0 = .ok (.iload_n 1, 1) := by decide +kernel
theorem d32_1 : decode jdk_43_method_2_code 1 = .ok (.aload_n 0, 1) := by decide +kernel
theorem d32_2 : decode jdk_43_method_2_code 2 = .ok (.arraylength, 1) := by decide +kernel
theorem d32_3 : decode jdk_43_method_2_code 3 = .ok (.invokestatic 9, 3) := by decide +kernel
theorem d32_6 : decode jdk_43_method_2_code 6 = .ok (.aload_n 0, 1) := by decide +kernel
theorem d32_7 : decode jdk_43_method_2_code 7 = .ok (.iload_n 1, 1) := by decide +kernel
theorem d32_8 : decode jdk_43_method_2_code 8 = .ok (.baload, 1) := by decide +kernel
theorem d32_9 : decode jdk_43_method_2_code 9 = .ok (.sipush 255, 3) := by decide +kernel
theorem d32_12 : decode jdk_43_method_2_code 12 = .ok (.iand, 1) := by decide +kernel
theorem d32_13 : decode jdk_43_method_2_code 13 = .ok (.i2c, 1) := by decide +kernel
theorem d32_14 : decode jdk_43_method_2_code 14 = .ok (.ireturn, 1) := by decide +kernel
theorem pn_32 : plainName "java/lang/StringLatin1" = true := by first | (simp [plainName, overriddenIn]; done) | decide +kernel
def Q32 (Z : State) (v1 : Addr) (p2 : Int32) (f0 : Value) (k1 : ClassId) (z1 : Int32) (vs1 : List Value) (y : Int32) (h0 : Heap) (n0 : Nat) (v : Option Value) (h : Heap) (L : List Loc) : Prop := v = some (.int ((y &&& (255 : Int32)).toUInt32.toUInt16.toUInt32.toInt32)) ∧ Fr n0 L ∧ h = h0
theorem rm32 {l : Launch} {Z : State} {a0 : Array Value} (hw : HW Z a0) (v1 : Addr) (p2 : Int32) (f0 : Value) (k1 : ClassId) (z1 : Int32) (vs1 : List Value) (y : Int32) (h0 : Heap) (n0 : Nat) (Z0 : n0 ≤ h0.size) (P0 : sPF Z f0) (P1 : Old Z n0 h0) (P2 : vB Z h0 v1 k1 z1 vs1) (h1 : ¬ p2 < 0) (h2 : p2 < z1) (h3 : vs1.getD p2.toNatClampNeg (.int 0) = .int y) (hf : f0.isRef = true) : own_M l Z ⟨"java/lang/StringLatin1", "charAt", "([BI)C"⟩ jdk_43_method_2_code 2 (some .char) (rmk 2 0 0 27) #[.ref v1, .int p2] h0 (Q32 Z v1 p2 f0 k1 z1 vs1 y h0 n0) := by
 refine own_body rfl (plainFor_of_name pn_32) ?_
 intro p e s m below meth c s₁ hx hby hml hown hnm hlk hret X0 e0 hZ
 have N0 := Fr.nil n0
 show Go _ p e below s _ _ _ (s₁.setTop (mkF m 0 #[rv v1, iv p2] []))
 refine c_iloadN X0 hx hby d32_0 rfl <| c_aloadN X0 hx hby d32_1 rfl rfl <| c_alen X0 hx hby hZ e0 P2 d32_2 <| c_callS X0 hx hby hZ hown hml (gw hw 156 rfl) (gw hw 157 rfl) (gw hw 4 rfl) (gw hw 158 rfl) e0 (rm33 hw p2 z1 f0 h0 n0 Z0 P0 P1 h1 h2 hf) pd_11 rfl d32_3 [] rfl 0 (by decide) rfl rfl fun o881 T881 L881 X881 hQ881 => ?_
 obtain ⟨rfl, N881q, e881⟩ := hQ881
 have N881 := Fr.app N0 N881q
 refine c_sh 6 [] rfl rfl <| c_aloadN X881 hx hby d32_6 rfl rfl <| c_iloadN X881 hx hby d32_7 rfl <| c_bal X881 hx hby hZ e881 P2 ⟨h1, h2⟩ (.int y) h3 d32_8 <| c_sipush X881 hx hby 255 d32_9 rfl <| c_iand X881 hx hby d32_12 <| c_i2c X881 hx hby d32_13 ?_
 refine c_retI X881 hx hby hlk hret d32_14 (own_nar_c _) (by simp) (by decide) e881 ⟨rfl, N881, rfl⟩
theorem d31_0 : decode jdk_42_method_56_code 0 = .ok (.aload_n 0, 1) := by decide +kernel
theorem d31_1 : decode jdk_42_method_56_code 1 = .ok (.invokevirtual 492, 3) := by decide +kernel
theorem d31_4 : decode jdk_42_method_56_code 4 = .ok (.ifCond .eq 12, 3) := by decide +kernel
theorem d31_7 : decode jdk_42_method_56_code 7 = .ok (.aload_n 0, 1) := by decide +kernel
theorem d31_8 : decode jdk_42_method_56_code 8 = .ok (.getfield 9, 3) := by decide +kernel
theorem d31_11 : decode jdk_42_method_56_code 11 = .ok (.iload_n 1, 1) := by decide +kernel
theorem d31_12 : decode jdk_42_method_56_code 12 = .ok (.invokestatic 495, 3) := by decide +kernel
theorem d31_15 : decode jdk_42_method_56_code 15 = .ok (.ireturn, 1) := by decide +kernel
theorem pn_31 : plainName "java/lang/String" = true := by first | (simp [plainName, overriddenIn]; done) | decide +kernel
theorem pd_18 : parseMethodDescriptor "([BI)C" = some ⟨[(.array .byte), .int], some .char⟩ := by decide +kernel
def Q31 (Z : State) (a1 : Addr) (p2 w0 : Int32) (f0 : Value) (v1 : Addr) (k1 : ClassId) (z1 : Int32) (vs1 : List Value) (y : Int32) (h0 : Heap) (n0 : Nat) (v : Option Value) (h : Heap) (L : List Loc) : Prop := v = some (.int ((y &&& (255 : Int32)).toUInt32.toUInt16.toUInt32.toInt32)) ∧ Fr n0 L ∧ h = h0
theorem rm31 {l : Launch} {Z : State} {a0 : Array Value} (hw : HW Z a0) (a1 : Addr) (p2 w0 : Int32) (f0 : Value) (v1 : Addr) (k1 : ClassId) (z1 : Int32) (vs1 : List Value) (y : Int32) (h0 : Heap) (n0 : Nat) (Z0 : n0 ≤ h0.size) (P0 : sCS Z w0) (P1 : sPF Z f0) (P2 : Old Z n0 h0) (P3 : eS Z h0 a1) (P4 : fC Z h0 a1) (P5 : fV Z h0 a1 v1) (P6 : vB Z h0 v1 k1 z1 vs1) (hw0 : ¬ w0 = 0) (h1 : ¬ p2 < 0) (h2 : p2 < z1) (h3 : vs1.getD p2.toNatClampNeg (.int 0) = .int y) (hf : f0.isRef = true) : own_M l Z ⟨"java/lang/String", "charAt", "(I)C"⟩ jdk_42_method_56_code 2 (some .char) (rmk 3 0 0 40) #[.ref a1, .int p2] h0 (Q31 Z a1 p2 w0 f0 v1 k1 z1 vs1 y h0 n0) := by
 refine own_body rfl (plainFor_of_name pn_31) ?_
 intro p e s m below meth c s₁ hx hby hml hown hnm hlk hret X0 e0 hZ
 have N0 := Fr.nil n0
 show Go _ p e below s _ _ _ (s₁.setTop (mkF m 0 #[rv a1, iv p2] []))
 refine c_aloadN X0 hx hby d31_0 rfl rfl <| c_callV X0 hx hby hZ hown hml (gw hw 66 rfl) (gw hw 67 rfl) (gw hw 69 rfl) (gw hw 68 rfl) (gw hw 70 rfl) (gw hw 4 rfl) P3 e0 (rm11 hw a1 w0 h0 n0 Z0 P0 P2 P4 hw0) pd_5 rfl d31_1 [] rfl 0 (by decide) rfl rfl fun o886 T886 L886 X886 hQ886 => ?_
 obtain ⟨rfl, N886q, e886⟩ := hQ886
 have N886 := Fr.app N0 N886q
 refine c_sh 4 [.int 1] rfl rfl <| c_ifNo X886 hx hby d31_4 (by decide) <| c_aloadN X886 hx hby d31_7 rfl rfl <| c_getf X886 hx hby hZ hown (gw hw 21 rfl) Via.refl e886 P5 d31_8 fun T887 X887 e887 => ?_
 refine c_sh 11 [.ref v1] rfl rfl <| c_iloadN X887 hx hby d31_11 rfl <| c_callS X887 hx hby hZ hown hml (gw hw 153 rfl) (gw hw 154 rfl) (gw hw 73 rfl) (gw hw 155 rfl) e887 (rm32 hw v1 p2 f0 k1 z1 vs1 y h0 n0 Z0 P1 P2 P6 h1 h2 h3 hf) pd_18 rfl d31_12 [] rfl 0 (by decide) rfl rfl fun o888 T888 L888 X888 hQ888 => ?_
 obtain ⟨rfl, N888q, e888⟩ := hQ888
 have N888 := Fr.app N886 N888q
 refine c_sh 15 [.int ((y &&& (255 : Int32)).toUInt32.toUInt16.toUInt32.toInt32)] rfl rfl ?_
 refine c_retI X888 hx hby hlk hret d31_15 (own_nar_c _) (by simp) (by decide) e888 ⟨rfl, N888, rfl⟩
theorem d19_0 : decode method_2_code 0 = .ok (.iload_n 1, 1) := by decide +kernel
theorem d19_1 : decode method_2_code 1 = .ok (.iconst 1, 1) := by decide +kernel
theorem d19_2 : decode method_2_code 2 = .ok (.iand, 1) := by decide +kernel
theorem d19_3 : decode method_2_code 3 = .ok (.ifCond .eq 8, 3) := by decide +kernel
theorem d19_6 : decode method_2_code 6 = .ok (.bipush 46, 2) := by decide +kernel
theorem d19_8 : decode method_2_code 8 = .ok (.goto 9, 3) := by decide +kernel
theorem d19_11 : decode method_2_code 11 = .ok (.iload_n 0, 1) := by decide +kernel
theorem d19_12 : decode method_2_code 12 = .ok (.sipush 255, 3) := by decide +kernel
theorem d19_15 : decode method_2_code 15 = .ok (.iand, 1) := by decide +kernel
theorem d19_16 : decode method_2_code 16 = .ok (.i2c, 1) := by decide +kernel
theorem d19_17 : decode method_2_code 17 = .ok (.ireturn, 1) := by decide +kernel
theorem pn_19 : plainName "com/example/fuller_query/fullerquery/knowledge/ApiTypeSimpleNamePinLaw" = true := by first | (simp [plainName, overriddenIn]; done) | decide +kernel
def QPK (Z : State) (p1 p2 : Int32) (h0 : Heap) (n0 : Nat) (v : Option Value) (h : Heap) (L : List Loc) : Prop := ∃ (c : Int32), v = some (.int c) ∧ Fr n0 L ∧ h = h0 ∧ (own_ch c)
theorem rmPK {l : Launch} {Z : State} {a0 : Array Value} (hw : HW Z a0) (p1 p2 : Int32) (h0 : Heap) (n0 : Nat) (Z0 : n0 ≤ h0.size)  : own_M l Z ⟨"com/example/fuller_query/fullerquery/knowledge/ApiTypeSimpleNamePinLaw", "pick", "(II)C"⟩ method_2_code 2 (some .char) (rmk 0 0 0 0) #[.int p1, .int p2] h0 (QPK Z p1 p2 h0 n0) := by
 refine own_body rfl (plainFor_of_name pn_19) ?_
 intro p e s m below meth c s₁ hx hby hml hown hnm hlk hret X0 e0 hZ
 have N0 := Fr.nil n0
 show Go _ p e below s _ _ _ (s₁.setTop (mkF m 0 #[iv p1, iv p2] []))
 refine c_iloadN X0 hx hby d19_0 rfl <| c_iconst X0 hx hby 1 d19_1 rfl <| c_iand X0 hx hby d19_2 ?_
 by_cases hc3_890 : (p2 &&& (1 : Int32)) = (0 : Int32)
 ·refine c_ifYes X0 hx hby 11 d19_3 ((if0 _ _).trans (teq hc3_890).1) (by decide) <| c_iloadN X0 hx hby d19_11 rfl <| c_sipush X0 hx hby 255 d19_12 rfl <| c_iand X0 hx hby d19_15 <| c_i2c X0 hx hby d19_16 ?_
  rw [i2c_mask]
  refine c_sh 17 [.int (p1 &&& (255 : Int32))] rfl rfl ?_
  refine c_retI X0 hx hby hlk hret d19_17 (own_narC (own_chm _)) (by simp) (by decide) e0 ⟨(p1 &&& (255 : Int32)), rfl, N0, rfl, (own_chm _)⟩
 ·refine c_ifNo X0 hx hby d19_3 ((if0 _ _).trans (feq hc3_890).1) <| c_bipush X0 hx hby 46 d19_6 rfl <| c_goto X0 hx hby 17 d19_8 (by decide) ?_
  refine c_retI X0 hx hby hlk hret d19_17 rfl (by simp) (by decide) e0 ⟨(46 : Int32), rfl, N0, rfl, own_ch46⟩
theorem d24_0 : decode jdk_43_method_3_code 0 = .ok (.iload_n 0, 1) := by decide +kernel
theorem d24_1 : decode jdk_43_method_3_code 1 = .ok (.sipush 255, 3) := by decide +kernel
theorem d24_4 : decode jdk_43_method_3_code 4 = .ok (.if_icmp .gt 7, 3) := by decide +kernel
theorem d24_7 : decode jdk_43_method_3_code 7 = .ok (.iconst 1, 1) := by decide +kernel
theorem d24_8 : decode jdk_43_method_3_code 8 = .ok (.goto 4, 3) := by decide +kernel
theorem d24_12 : decode jdk_43_method_3_code 12 = .ok (.ireturn, 1) := by decide +kernel
theorem pn_24 : plainName "java/lang/StringLatin1" = true := by first | (simp [plainName, overriddenIn]; done) | decide +kernel
def Q24 (Z : State) (p1 : Int32) (h0 : Heap) (n0 : Nat) (v : Option Value) (h : Heap) (L : List Loc) : Prop := v = some (.int (1 : Int32)) ∧ Fr n0 L ∧ h = h0
theorem rm24 {l : Launch} {Z : State} {a0 : Array Value} (hw : HW Z a0) (p1 : Int32) (h0 : Heap) (n0 : Nat) (Z0 : n0 ≤ h0.size) (h1 : ¬ (255 : Int32) < p1) : own_M l Z ⟨"java/lang/StringLatin1", "canEncode", "(C)Z"⟩ jdk_43_method_3_code 1 (some .boolean) (rmk 0 0 0 0) #[.int p1] h0 (Q24 Z p1 h0 n0) := by
 refine own_body rfl (plainFor_of_name pn_24) ?_
 intro p e s m below meth c s₁ hx hby hml hown hnm hlk hret X0 e0 hZ
 have N0 := Fr.nil n0
 show Go _ p e below s _ _ _ (s₁.setTop (mkF m 0 #[iv p1] []))
 refine c_iloadN X0 hx hby d24_0 rfl <| c_sipush X0 hx hby 255 d24_1 rfl <| c_icmpNo X0 hx hby d24_4 (flt h1).2.2.1 <| c_iconst X0 hx hby 1 d24_7 rfl <| c_goto X0 hx hby 12 d24_8 (by decide) ?_
 refine c_retI X0 hx hby hlk hret d24_12 rfl (by simp) (by decide) e0 ⟨rfl, N0, rfl⟩
theorem d25_0 : decode jdk_43_method_46_code 0 = .ok (.iconst 1, 1) := by decide +kernel
theorem d25_1 : decode jdk_43_method_46_code 1 = .ok (.newarray .byte, 2) := by decide +kernel
theorem d25_3 : decode jdk_43_method_46_code 3 = .ok (.dup, 1) := by decide +kernel
theorem d25_4 : decode jdk_43_method_46_code 4 = .ok (.iconst 0, 1) := by decide +kernel
theorem d25_5 : decode jdk_43_method_46_code 5 = .ok (.iload_n 0, 1) := by decide +kernel
theorem d25_6 : decode jdk_43_method_46_code 6 = .ok (.i2b, 1) := by decide +kernel
theorem d25_7 : decode jdk_43_method_46_code 7 = .ok (.bastore, 1) := by decide +kernel
theorem d25_8 : decode jdk_43_method_46_code 8 = .ok (.areturn, 1) := by decide +kernel
theorem pn_25 : plainName "java/lang/StringLatin1" = true := by first | (simp [plainName, overriddenIn]; done) | decide +kernel
def Q25 (Z : State) (p1 : Int32) (h0 : Heap) (n0 : Nat) (v : Option Value) (h : Heap) (L : List Loc) : Prop := ∃ (b : Addr), v = some (.ref b) ∧ Fr n0 L ∧ h0.size ≤ b ∧ n0 ≤ b ∧ Keep h0 h [] ∧ Exa Z h b "[B"
theorem rm25 {l : Launch} {Z : State} {a0 : Array Value} (hw : HW Z a0) (p1 : Int32) (h0 : Heap) (n0 : Nat) (Z0 : n0 ≤ h0.size)  : own_M l Z ⟨"java/lang/StringLatin1", "toBytes", "(C)[B"⟩ jdk_43_method_46_code 1 (some (.array .byte)) (rmk 0 1 1 0) #[.int p1] h0 (Q25 Z p1 h0 n0) := by
 refine own_body rfl (plainFor_of_name pn_25) ?_
 intro p e s m below meth c s₁ hx hby hml hown hnm hlk hret X0 e0 hZ
 have N0 := Fr.nil n0
 show Go _ p e below s _ _ _ (s₁.setTop (mkF m 0 #[iv p1] []))
 refine c_iconst X0 hx hby 1 d25_0 rfl <| c_newP X0 hx hby hZ (gw hw 16 rfl) e0 d25_1 (by decide) 1 (by decide) (by decide) "[B" (by first | rfl | decide) fun T894 h894 k894 b894 g894 X894 e894 E894 A894 AE894 => ?_
 have G_b894 := Nat.le_trans Z0 (Nat.le_of_eq g894.symm)
 have KK894 := (Keep.refl h0 []).ext E894
 have ZN894 := Nat.le_trans Z0 E894.1
 have V894 : vB Z h894 b894 k894 1 [.int 0] := (Arv.new A894 (by decide)).pad (pad_rep [] (.int (0 : Int32)) 1)
 refine c_sh 3 [.ref b894] rfl rfl <| c_dup X894 hx hby d25_3 rfl <| c_iconst X894 hx hby 0 d25_4 rfl <| c_iloadN X894 hx hby d25_5 rfl <| c_i2b X894 hx hby d25_6 <| c_bst X894 hx hby hZ e894 V894 (by decide) 0 rfl (Nat.le_of_ble_eq_true rfl) d25_7 fun T895 h895 X895 e895 W895 V895 => ?_
 have V895 : vB Z h895 b894 k894 1 [(.int (nar .byte (p1.toInt8.toInt32)))] := V895
 have KK895 := KK894.wr W895 (Or.inr (Nat.le_trans (Keep.refl h0 []).1 (Nat.le_of_eq g894.symm)))
 have ZN895 := Nat.le_trans ZN894 (Keep.of_wr W895).1
 have NN895 := Fr.snoc X895 N0 G_b894
 refine c_sh 8 [.ref b894] rfl rfl ?_
 have cc896 := AE894.wr W895
 exact c_retA X895 hx hby hlk hret d25_8 rfl ⟨rfl, rfl⟩ (by decide) e895 ⟨b894, rfl, NN895, (Nat.le_trans (Keep.refl h0 []).1 (Nat.le_of_eq g894.symm)), G_b894, KK895, cc896⟩
theorem d23_0 : decode jdk_42_method_139_code 0 = .ok (.getstatic 38, 3) := by decide +kernel
theorem d23_3 : decode jdk_42_method_139_code 3 = .ok (.ifCond .eq 23, 3) := by decide +kernel
theorem d23_6 : decode jdk_42_method_139_code 6 = .ok (.iload_n 0, 1) := by decide +kernel
theorem d23_7 : decode jdk_42_method_139_code 7 = .ok (.invokestatic 1015, 3) := by decide +kernel
theorem d23_10 : decode jdk_42_method_139_code 10 = .ok (.ifCond .eq 16, 3) := by decide +kernel
theorem d23_13 : decode jdk_42_method_139_code 13 = .ok (.new 10, 3) := by decide +kernel
theorem d23_16 : decode jdk_42_method_139_code 16 = .ok (.dup, 1) := by decide +kernel
theorem d23_17 : decode jdk_42_method_139_code 17 = .ok (.iload_n 0, 1) := by decide +kernel
theorem d23_18 : decode jdk_42_method_139_code 18 = .ok (.invokestatic 1018, 3) := by decide +kernel
theorem d23_21 : decode jdk_42_method_139_code 21 = .ok (.iconst 0, 1) := by decide +kernel
theorem d23_22 : decode jdk_42_method_139_code 22 = .ok (.invokespecial 209, 3) := by decide +kernel
theorem d23_25 : decode jdk_42_method_139_code 25 = .ok (.areturn, 1) := by decide +kernel
theorem pn_23 : plainName "java/lang/String" = true := by first | (simp [plainName, overriddenIn]; done) | decide +kernel
theorem pd_19 : parseMethodDescriptor "(C)Z" = some ⟨[.char], some .boolean⟩ := by decide +kernel
theorem pd_20 : parseMethodDescriptor "(C)[B" = some ⟨[.char], some (.array .byte)⟩ := by decide +kernel
def Q23 (Z : State) (p1 w0 : Int32) (h0 : Heap) (n0 : Nat) (v : Option Value) (h : Heap) (L : List Loc) : Prop := ∃ (b : Addr), v = some (.ref b) ∧ Fr n0 L ∧ h0.size ≤ b ∧ n0 ≤ b ∧ Keep h0 h [] ∧ eS Z h b
theorem rm23 {l : Launch} {Z : State} {a0 : Array Value} (hw : HW Z a0) (p1 w0 : Int32) (h0 : Heap) (n0 : Nat) (Z0 : n0 ≤ h0.size) (P0 : sCS Z w0) (P1 : Old Z n0 h0) (hw0 : ¬ w0 = 0) (h1 : ¬ (255 : Int32) < p1) : own_M l Z ⟨"java/lang/String", "valueOf", "(C)Ljava/lang/String;"⟩ jdk_42_method_139_code 1 (some (.object "java/lang/String")) (rmk 2 2 5 27) #[.int p1] h0 (Q23 Z p1 w0 h0 n0) := by
 refine own_body rfl (plainFor_of_name pn_23) ?_
 intro p e s m below meth c s₁ hx hby hml hown hnm hlk hret X0 e0 hZ
 have N0 := Fr.nil n0
 show Go _ p e below s _ _ _ (s₁.setTop (mkF m 0 #[iv p1] []))
 refine c_gets X0 hx hby hZ hown (gw hw 60 rfl) Via.refl e0 (P0.ext P1.2) d23_0 fun T906 X906 e906 => ?_
 refine c_sh 3 [.int w0] rfl rfl <| c_ifNo X906 hx hby d23_3 ((if0 _ _).trans (feq hw0).1) <| c_iloadN X906 hx hby d23_6 rfl <| c_callS X906 hx hby hZ hown hml (gw hw 118 rfl) (gw hw 119 rfl) (gw hw 73 rfl) (gw hw 120 rfl) e906 (rm24 hw p1 h0 n0 Z0 h1) pd_19 rfl d23_7 [] rfl 0 (by decide) rfl rfl fun o907 T907 L907 X907 hQ907 => ?_
 obtain ⟨rfl, N907q, e907⟩ := hQ907
 have N907 := Fr.app N0 N907q
 refine c_sh 10 [.int 1] rfl rfl <| c_ifNo X907 hx hby d23_10 (by decide) <| c_new X907 hx hby hZ hown (gw hw 121 rfl) (gw hw 3 rfl) (gw hw 4 rfl) e907 d23_13 (by decide) fun T908 h908 b908 g908 X908 e908 E908 A908 D908 => ?_
 have G_b908 := Nat.le_trans Z0 (Nat.le_of_eq g908.symm)
 have KK908 := (Keep.refl h0 []).ext E908
 have ZN908 := Nat.le_trans Z0 E908.1
 have OL908 := P1.ext E908
 refine c_sh 16 [.ref b908] rfl rfl <| c_dup X908 hx hby d23_16 rfl <| c_iloadN X908 hx hby d23_17 rfl <| c_callS X908 hx hby hZ hown hml (gw hw 122 rfl) (gw hw 123 rfl) (gw hw 73 rfl) (gw hw 124 rfl) e908 (rm25 hw p1 h908 n0 ZN908 ) pd_20 rfl d23_18 [.ref b908, .ref b908] rfl 2 (by decide) rfl rfl fun o909 T909 L909 X909 hQ909 => ?_
 obtain ⟨b909, rfl, N909q, u909_0, u909_1, K909, u909_3⟩ := hQ909
 have N909 := Fr.app N907 N909q
 have G_b909 := Nat.le_trans ZN908 u909_0
 have KK909 := KK908.trans K909 all0
 have ZN909 := Nat.le_trans ZN908 K909.1
 have OL909 := OL908.keep K909 all0
 refine c_sh 21 [.ref b909, .ref b908, .ref b908] rfl rfl <| c_iconst X909 hx hby 0 d23_21 rfl ?_
 have cc911 := A908.keep K909
 have cc912 := (show Fld Z h908 b908 "java/lang/String" "value" "[B" .null from D908 (Or.inr (gw hw 17 rfl)) (ty := (.array .byte)) (by decide)).keep K909 nin0
 have cc913 := (show fC Z h908 b908 from D908 (Or.inr (gw hw 18 rfl)) (ty := .byte) (by decide)).keep K909 nin0
 refine c_init X909 hx hby hZ hown hml (gw hw 125 rfl) (gw hw 126 rfl) (gw hw 127 rfl) (gw hw 4 rfl) rfl rfl (rm26 hw b908 b909 .null (.int (0 : Int32)) (T909.heap) n0 ZN909 cc911 cc912 cc913 G_b908) pd_13 rfl d23_22 [.ref b908] rfl 1 (by decide) rfl rfl fun o910 T910 L910 X910 hQ910 => ?_
 obtain ⟨rfl, N910q, K910, u910_1, u910_2⟩ := hQ910
 have N910 := Fr.app N909 N910q
 have KK910 := KK909.trans K910 (allS (P := fun x => x ∈ [] ∨ h0.size ≤ x) (Or.inr (Nat.le_trans (Keep.refl h0 []).1 (Nat.le_of_eq g908.symm))) all0)
 have ZN910 := Nat.le_trans ZN909 K910.1
 have OL910 := OL909.keep K910 (allS G_b908 all0)
 refine c_sh 25 [.ref b908] rfl rfl ?_
 have cc914 := cc911.keep K910
 exact c_retA X910 hx hby hlk hret d23_25 rfl ⟨rfl, rfl⟩ (by decide) rfl ⟨b908, rfl, N910, (Nat.le_trans (Keep.refl h0 []).1 (Nat.le_of_eq g908.symm)), G_b908, KK910, cc914⟩
theorem d5_0 : decode jdk_30_method_1_code 0 = .ok (.aload_n 0, 1) := by decide +kernel
theorem d5_1 : decode jdk_30_method_1_code 1 = .ok (.invokespecial 1, 3) := by decide +kernel
theorem d5_4 : decode jdk_30_method_1_code 4 = .ok (.return_, 1) := by decide +kernel
theorem pn_5 : plainName "java/lang/Record" = true := by first | (simp [plainName, overriddenIn]; done) | decide +kernel
def Q5 (Z : State) (a1 : Addr) (h0 : Heap) (n0 : Nat) (v : Option Value) (h : Heap) (L : List Loc) : Prop := v = none ∧ Fr n0 L ∧ h = h0
theorem rm5 {l : Launch} {Z : State} {a0 : Array Value} (hw : HW Z a0) (a1 : Addr) (h0 : Heap) (n0 : Nat) (Z0 : n0 ≤ h0.size)  : own_M l Z ⟨"java/lang/Record", "<init>", "()V"⟩ jdk_30_method_1_code 1 none (rmk 1 0 0 12) #[.ref a1] h0 (Q5 Z a1 h0 n0) := by
 refine own_body rfl (plainFor_of_name pn_5) ?_
 intro p e s m below meth c s₁ hx hby hml hown hnm hlk hret X0 e0 hZ
 have N0 := Fr.nil n0
 show Go _ p e below s _ _ _ (s₁.setTop (mkF m 0 #[rv a1] []))
 refine c_aloadN X0 hx hby d5_0 rfl rfl ?_
 obtain ⟨T916, X916, e916, st916⟩ := initO X0 hx hZ hown (gw hw 35 rfl) (gw hw 13 rfl) (gw hw 14 rfl) e0 (g := (mkF m 1 #[rv a1] [.ref a1])) rfl (by rw [hml]; rfl) rfl (hb hby d5_1) (by decide) (W := 0) (by show 2 * 0 + _ ≤ _; exact Nat.le_of_eq rfl) (by decide)
 refine go st916 ?_
 show Go _ p e below s _ _ _ (T916.setTop (mkF m 4 #[rv a1] []))
 exact c_ret0 X916 hx hby hlk hret d5_4 (by decide) e916 ⟨rfl, N0, rfl⟩
theorem d4_0 : decode prog_24_method_1_code 0 = .ok (.aload_n 0, 1) := by decide +kernel
theorem d4_1 : decode prog_24_method_1_code 1 = .ok (.invokespecial 1, 3) := by decide +kernel
theorem d4_4 : decode prog_24_method_1_code 4 = .ok (.aload_n 0, 1) := by decide +kernel
theorem d4_5 : decode prog_24_method_1_code 5 = .ok (.aload_n 1, 1) := by decide +kernel
theorem d4_6 : decode prog_24_method_1_code 6 = .ok (.putfield 7, 3) := by decide +kernel
theorem d4_9 : decode prog_24_method_1_code 9 = .ok (.aload_n 0, 1) := by decide +kernel
theorem d4_10 : decode prog_24_method_1_code 10 = .ok (.aload_n 2, 1) := by decide +kernel
theorem d4_11 : decode prog_24_method_1_code 11 = .ok (.putfield 13, 3) := by decide +kernel
theorem d4_14 : decode prog_24_method_1_code 14 = .ok (.return_, 1) := by decide +kernel
theorem pn_4 : plainName "com/example/fuller_query/fullerquery/knowledge/ApiTypes$ApiType" = true := by first | (simp [plainName, overriddenIn]; done) | decide +kernel
theorem pd_21 : parseMethodDescriptor "()V" = some ⟨[], none⟩ := by decide +kernel
def Q4 (Z : State) (a1 a2 a3 : Addr) (u1 u2 : Value) (h0 : Heap) (n0 : Nat) (v : Option Value) (h : Heap) (L : List Loc) : Prop := v = none ∧ Fr n0 L ∧ Keep h0 h [a1] ∧ Fld Z h a1 "com/example/fuller_query/fullerquery/knowledge/ApiTypes$ApiType" "name" "Ljava/lang/String;" (.ref a3)
theorem rm4 {l : Launch} {Z : State} {a0 : Array Value} (hw : HW Z a0) (a1 a2 a3 : Addr) (u1 u2 : Value) (h0 : Heap) (n0 : Nat) (Z0 : n0 ≤ h0.size) (P0 : Exa Z h0 a1 "com/example/fuller_query/fullerquery/knowledge/ApiTypes$ApiType") (P1 : Fld Z h0 a1 "com/example/fuller_query/fullerquery/knowledge/ApiTypes$ApiType" "packageName" "Ljava/lang/String;" u1) (P2 : Fld Z h0 a1 "com/example/fuller_query/fullerquery/knowledge/ApiTypes$ApiType" "name" "Ljava/lang/String;" u2) (P3 : n0 ≤ a1) : own_M l Z ⟨"com/example/fuller_query/fullerquery/knowledge/ApiTypes$ApiType", "<init>", "(Ljava/lang/String;Ljava/lang/String;)V"⟩ prog_24_method_1_code 3 none (rmk 2 0 0 24) #[.ref a1, .ref a2, .ref a3] h0 (Q4 Z a1 a2 a3 u1 u2 h0 n0) := by
 refine own_body rfl (plainFor_of_name pn_4) ?_
 intro p e s m below meth c s₁ hx hby hml hown hnm hlk hret X0 e0 hZ
 have N0 := Fr.nil n0
 show Go _ p e below s _ _ _ (s₁.setTop (mkF m 0 #[rv a1, rv a2, rv a3] []))
 refine c_aloadN X0 hx hby d4_0 rfl rfl <| c_init X0 hx hby hZ hown hml (gw hw 30 rfl) (gw hw 31 rfl) (gw hw 34 rfl) (gw hw 33 rfl) rfl e0 (rm5 hw a1 h0 n0 Z0 ) pd_21 rfl d4_1 [] rfl 0 (by decide) rfl rfl fun o922 T922 L922 X922 hQ922 => ?_
 obtain ⟨rfl, N922q, e922⟩ := hQ922
 have N922 := Fr.app N0 N922q
 refine c_sh 4 [] rfl rfl <| c_aloadN X922 hx hby d4_4 rfl rfl <| c_aloadN X922 hx hby d4_5 rfl rfl <| c_putf X922 hx hby hZ hown (gw hw 36 rfl) Via.refl e922 P1 P0 (Or.inr ⟨(gw hw 37 rfl), rfl, hnm⟩) (gw hw 25 rfl) (.object "java/lang/String") (by decide) rfl rfl d4_6 fun T923 h923 X923 e923 W923 => ?_
 have Fw923 := P1.same W923
 have KK923 := (Keep.refl h0 [a1]).wr W923 (Or.inl (List.mem_of_getElem? (i := 0) rfl))
 have ZN923 := Nat.le_trans Z0 (Keep.of_wr W923).1
 have NN923 := Fr.snoc X923 N922 P3
 refine c_sh 9 [] rfl rfl <| c_aloadN X923 hx hby d4_9 rfl rfl <| c_aloadN X923 hx hby d4_10 rfl rfl ?_
 have cc924 := P2.other W923 (Or.inr (slot_ne (Or.inr (gw hw 39 rfl)) (Or.inr (gw hw 37 rfl)) (by decide) (t := (.object "java/lang/String")) (t' := (.object "java/lang/String")) (by decide) (by decide)))
 have cc925 := P0.wr W923
 refine c_putf X923 hx hby hZ hown (gw hw 38 rfl) Via.refl e923 cc924 cc925 (Or.inr ⟨(gw hw 39 rfl), rfl, hnm⟩) (gw hw 25 rfl) (.object "java/lang/String") (by decide) rfl rfl d4_11 fun T926 h926 X926 e926 W926 => ?_
 have Fw926 := cc924.same W926
 have KK926 := KK923.wr W926 (Or.inl (List.mem_of_getElem? (i := 0) rfl))
 have ZN926 := Nat.le_trans ZN923 (Keep.of_wr W926).1
 have NN926 := Fr.snoc X926 NN923 P3
 refine c_sh 14 [] rfl rfl ?_
 exact c_ret0 X926 hx hby hlk hret d4_14 (by decide) e926 ⟨rfl, NN926, KK926, Fw926⟩
theorem d6_0 : decode prog_24_method_3_code 0 = .ok (.aload_n 0, 1) := by decide +kernel
theorem d6_1 : decode prog_24_method_3_code 1 = .ok (.getfield 13, 3) := by decide +kernel
theorem d6_4 : decode prog_24_method_3_code 4 = .ok (.aload_n 0, 1) := by decide +kernel
theorem d6_5 : decode prog_24_method_3_code 5 = .ok (.getfield 13, 3) := by decide +kernel
theorem d6_8 : decode prog_24_method_3_code 8 = .ok (.bipush 46, 2) := by decide +kernel
theorem d6_10 : decode prog_24_method_3_code 10 = .ok (.invokevirtual 26, 3) := by decide +kernel
theorem d6_13 : decode prog_24_method_3_code 13 = .ok (.iconst 1, 1) := by decide +kernel
theorem d6_14 : decode prog_24_method_3_code 14 = .ok (.iadd, 1) := by decide +kernel
theorem d6_15 : decode prog_24_method_3_code 15 = .ok (.invokevirtual 30, 3) := by decide +kernel
theorem d6_18 : decode prog_24_method_3_code 18 = .ok (.areturn, 1) := by decide +kernel
theorem pn_6 : plainName "com/example/fuller_query/fullerquery/knowledge/ApiTypes$ApiType" = true := by first | (simp [plainName, overriddenIn]; done) | decide +kernel
theorem pd_22 : parseMethodDescriptor "(I)I" = some ⟨[.int], some .int⟩ := by decide +kernel
theorem pd_23 : parseMethodDescriptor "(I)Ljava/lang/String;" = some ⟨[.int], some (.object "java/lang/String")⟩ := by decide +kernel
def QSN0_m1 (Z : State) (a1 nm : Addr) (w0 : Int32) (f0 : Value) (v1 : Addr) (k1 : ClassId) (h0 : Heap) (n0 : Nat) (v : Option Value) (h : Heap) (L : List Loc) : Prop := v = some (.ref nm) ∧ Fr n0 L ∧ h = h0
theorem rmSN0_m1 {l : Launch} {Z : State} {a0 : Array Value} (hw : HW Z a0) (a1 nm : Addr) (w0 : Int32) (f0 : Value) (v1 : Addr) (k1 : ClassId) (h0 : Heap) (n0 : Nat) (Z0 : n0 ≤ h0.size) (P0 : Exa Z h0 a1 "com/example/fuller_query/fullerquery/knowledge/ApiTypes$ApiType") (P1 : Fld Z h0 a1 "com/example/fuller_query/fullerquery/knowledge/ApiTypes$ApiType" "name" "Ljava/lang/String;" (.ref nm)) (P2 : sCS Z w0) (P3 : sPF Z f0) (P4 : Old Z n0 h0) (P5 : eS Z h0 nm) (P6 : fC Z h0 nm) (P7 : fV Z h0 nm v1) (P8 : vB Z h0 v1 k1 0 []) (hw0 : ¬ w0 = 0) (hf : f0.isRef = true) : own_M l Z ⟨"com/example/fuller_query/fullerquery/knowledge/ApiTypes$ApiType", "simpleName", "()Ljava/lang/String;"⟩ prog_24_method_3_code 1 (some (.object "java/lang/String")) (rmk 4 0 0 58) #[.ref a1] h0 (QSN0_m1 Z a1 nm w0 f0 v1 k1 h0 n0) := by
 refine own_body rfl (plainFor_of_name pn_6) ?_
 intro p e s m below meth c s₁ hx hby hml hown hnm hlk hret X0 e0 hZ
 have N0 := Fr.nil n0
 show Go _ p e below s _ _ _ (s₁.setTop (mkF m 0 #[rv a1] []))
 refine c_aloadN X0 hx hby d6_0 rfl rfl <| c_getf X0 hx hby hZ hown (gw hw 38 rfl) Via.refl e0 P1 d6_1 fun T931 X931 e931 => ?_
 refine c_sh 4 [.ref nm] rfl rfl <| c_aloadN X931 hx hby d6_4 rfl rfl <| c_getf X931 hx hby hZ hown (gw hw 38 rfl) Via.refl e931 P1 d6_5 fun T932 X932 e932 => ?_
 refine c_sh 8 [.ref nm, .ref nm] rfl rfl <| c_bipush X932 hx hby 46 d6_8 rfl <| c_callV X932 hx hby hZ hown hml (gw hw 45 rfl) (gw hw 46 rfl) (gw hw 48 rfl) (gw hw 47 rfl) (gw hw 49 rfl) (gw hw 4 rfl) P5 e932 (rmLO0_m1 hw nm w0 v1 k1 h0 n0 Z0 P2 P4 P5 P6 P7 P8 hw0) pd_22 rfl d6_10 [.ref nm] rfl 1 (by decide) rfl rfl fun o933 T933 L933 X933 hQ933 => ?_
 obtain ⟨rfl, N933q, e933⟩ := hQ933
 have N933 := Fr.app N0 N933q
 refine c_sh 13 [.int (-1), .ref nm] rfl rfl <| c_iconst X933 hx hby 1 d6_13 rfl <| c_iadd X933 hx hby d6_14 <| c_sh 15 [.int 0, .ref nm] rfl rfl <| c_callV X933 hx hby hZ hown hml (gw hw 82 rfl) (gw hw 83 rfl) (gw hw 85 rfl) (gw hw 84 rfl) (gw hw 86 rfl) (gw hw 4 rfl) P5 e933 (rmSU0_0 hw nm w0 f0 v1 k1 h0 n0 Z0 P2 P3 P4 P5 P6 P7 P8 hw0 hf) pd_23 rfl d6_15 [] rfl 0 (by decide) rfl rfl fun o934 T934 L934 X934 hQ934 => ?_
 obtain ⟨rfl, N934q, e934⟩ := hQ934
 have N934 := Fr.app N933 N934q
 refine c_sh 18 [.ref nm] rfl rfl ?_
 exact c_retA X934 hx hby hlk hret d6_18 rfl ⟨rfl, rfl⟩ (by decide) e934 ⟨rfl, N934, rfl⟩
def QSN1_m1 (Z : State) (a1 nm : Addr) (w0 : Int32) (f0 : Value) (v1 : Addr) (k1 : ClassId) (y0 : Int32) (h0 : Heap) (n0 : Nat) (v : Option Value) (h : Heap) (L : List Loc) : Prop := v = some (.ref nm) ∧ Fr n0 L ∧ h = h0
theorem rmSN1_m1 {l : Launch} {Z : State} {a0 : Array Value} (hw : HW Z a0) (a1 nm : Addr) (w0 : Int32) (f0 : Value) (v1 : Addr) (k1 : ClassId) (y0 : Int32) (h0 : Heap) (n0 : Nat) (Z0 : n0 ≤ h0.size) (P0 : Exa Z h0 a1 "com/example/fuller_query/fullerquery/knowledge/ApiTypes$ApiType") (P1 : Fld Z h0 a1 "com/example/fuller_query/fullerquery/knowledge/ApiTypes$ApiType" "name" "Ljava/lang/String;" (.ref nm)) (P2 : sCS Z w0) (P3 : sPF Z f0) (P4 : Old Z n0 h0) (P5 : eS Z h0 nm) (P6 : fC Z h0 nm) (P7 : fV Z h0 nm v1) (P8 : vB Z h0 v1 k1 1 [.int y0]) (hw0 : ¬ w0 = 0) (hf : f0.isRef = true) (hy0 : ¬ y0 = (46 : Int32)) : own_M l Z ⟨"com/example/fuller_query/fullerquery/knowledge/ApiTypes$ApiType", "simpleName", "()Ljava/lang/String;"⟩ prog_24_method_3_code 1 (some (.object "java/lang/String")) (rmk 4 0 0 58) #[.ref a1] h0 (QSN1_m1 Z a1 nm w0 f0 v1 k1 y0 h0 n0) := by
 refine own_body rfl (plainFor_of_name pn_6) ?_
 intro p e s m below meth c s₁ hx hby hml hown hnm hlk hret X0 e0 hZ
 have N0 := Fr.nil n0
 show Go _ p e below s _ _ _ (s₁.setTop (mkF m 0 #[rv a1] []))
 refine c_aloadN X0 hx hby d6_0 rfl rfl <| c_getf X0 hx hby hZ hown (gw hw 38 rfl) Via.refl e0 P1 d6_1 fun T939 X939 e939 => ?_
 refine c_sh 4 [.ref nm] rfl rfl <| c_aloadN X939 hx hby d6_4 rfl rfl <| c_getf X939 hx hby hZ hown (gw hw 38 rfl) Via.refl e939 P1 d6_5 fun T940 X940 e940 => ?_
 refine c_sh 8 [.ref nm, .ref nm] rfl rfl <| c_bipush X940 hx hby 46 d6_8 rfl <| c_callV X940 hx hby hZ hown hml (gw hw 45 rfl) (gw hw 46 rfl) (gw hw 48 rfl) (gw hw 47 rfl) (gw hw 49 rfl) (gw hw 4 rfl) P5 e940 (rmLO1_m1 hw nm w0 v1 k1 y0 h0 n0 Z0 P2 P4 P5 P6 P7 P8 hw0 hy0) pd_22 rfl d6_10 [.ref nm] rfl 1 (by decide) rfl rfl fun o941 T941 L941 X941 hQ941 => ?_
 obtain ⟨rfl, N941q, e941⟩ := hQ941
 have N941 := Fr.app N0 N941q
 refine c_sh 13 [.int (-1), .ref nm] rfl rfl <| c_iconst X941 hx hby 1 d6_13 rfl <| c_iadd X941 hx hby d6_14 <| c_sh 15 [.int 0, .ref nm] rfl rfl <| c_callV X941 hx hby hZ hown hml (gw hw 82 rfl) (gw hw 83 rfl) (gw hw 85 rfl) (gw hw 84 rfl) (gw hw 86 rfl) (gw hw 4 rfl) P5 e941 (rmSU1_0 hw nm w0 f0 v1 k1 y0 h0 n0 Z0 P2 P3 P4 P5 P6 P7 P8 hw0 hf) pd_23 rfl d6_15 [] rfl 0 (by decide) rfl rfl fun o942 T942 L942 X942 hQ942 => ?_
 obtain ⟨rfl, N942q, e942⟩ := hQ942
 have N942 := Fr.app N941 N942q
 refine c_sh 18 [.ref nm] rfl rfl ?_
 exact c_retA X942 hx hby hlk hret d6_18 rfl ⟨rfl, rfl⟩ (by decide) e942 ⟨rfl, N942, rfl⟩
def QSN1_0 (Z : State) (a1 nm : Addr) (w0 : Int32) (f0 : Value) (v1 : Addr) (k1 : ClassId) (y0 : Int32) (h0 : Heap) (n0 : Nat) (v : Option Value) (h : Heap) (L : List Loc) : Prop := ∃ (b : Addr), ∃ (bb : Addr), ∃ (kb : ClassId), v = some (.ref b) ∧ Fr n0 L ∧ Keep h0 h [] ∧ eS Z h b ∧ fC Z h b ∧ fV Z h b bb ∧ vB Z h bb kb 0 []
theorem rmSN1_0 {l : Launch} {Z : State} {a0 : Array Value} (hw : HW Z a0) (a1 nm : Addr) (w0 : Int32) (f0 : Value) (v1 : Addr) (k1 : ClassId) (y0 : Int32) (h0 : Heap) (n0 : Nat) (Z0 : n0 ≤ h0.size) (P0 : Exa Z h0 a1 "com/example/fuller_query/fullerquery/knowledge/ApiTypes$ApiType") (P1 : Fld Z h0 a1 "com/example/fuller_query/fullerquery/knowledge/ApiTypes$ApiType" "name" "Ljava/lang/String;" (.ref nm)) (P2 : sCS Z w0) (P3 : sPF Z f0) (P4 : Old Z n0 h0) (P5 : eS Z h0 nm) (P6 : fC Z h0 nm) (P7 : fV Z h0 nm v1) (P8 : vB Z h0 v1 k1 1 [.int y0]) (hw0 : ¬ w0 = 0) (hf : f0.isRef = true) (hy0 : y0 = (46 : Int32)) : own_MH l Z ⟨"com/example/fuller_query/fullerquery/knowledge/ApiTypes$ApiType", "simpleName", "()Ljava/lang/String;"⟩ prog_24_method_3_code 1 (some (.object "java/lang/String")) (rmk 4 2 4 58) #[.ref a1] h0 (QSN1_0 Z a1 nm w0 f0 v1 k1 y0 h0 n0) := by
 refine own_bodyH rfl (plainFor_of_name pn_6) ?_
 intro p e s m below meth c s₁ hx hby hml hown hnm hlk hret X0 e0 hZ hh ch0 hS0
 have N0 := Fr.nil n0
 show Go _ p e below s _ _ _ (s₁.setTop (mkF m 0 #[rv a1] []))
 refine c_aloadN X0 hx hby d6_0 rfl rfl <| c_getf X0 hx hby hZ hown (gw hw 38 rfl) Via.refl e0 P1 d6_1 fun T947 X947 e947 => ?_
 refine c_sh 4 [.ref nm] rfl rfl <| c_aloadN X947 hx hby d6_4 rfl rfl <| c_getf X947 hx hby hZ hown (gw hw 38 rfl) Via.refl e947 P1 d6_5 fun T948 X948 e948 => ?_
 refine c_sh 8 [.ref nm, .ref nm] rfl rfl <| c_bipush X948 hx hby 46 d6_8 rfl <| c_callV X948 hx hby hZ hown hml (gw hw 45 rfl) (gw hw 46 rfl) (gw hw 48 rfl) (gw hw 47 rfl) (gw hw 49 rfl) (gw hw 4 rfl) P5 e948 (rmLO1_0 hw nm w0 v1 k1 y0 h0 n0 Z0 P2 P4 P5 P6 P7 P8 hw0 hy0) pd_22 rfl d6_10 [.ref nm] rfl 1 (by decide) rfl rfl fun o949 T949 L949 X949 hQ949 => ?_
 obtain ⟨rfl, N949q, e949⟩ := hQ949
 have N949 := Fr.app N0 N949q
 refine c_sh 13 [.int 0, .ref nm] rfl rfl <| c_iconst X949 hx hby 1 d6_13 rfl <| c_iadd X949 hx hby d6_14 <| c_sh 15 [.int 1, .ref nm] rfl rfl <| c_callVH X949 hx hby hZ hown hml (gw hw 82 rfl) (gw hw 83 rfl) (gw hw 85 rfl) (gw hw 84 rfl) (gw hw 86 rfl) (gw hw 4 rfl) P5 e949 (own_EW hw) ch0 hS0 (Nat.zero_le _) (rmSW1 hw nm w0 f0 v1 k1 y0 h0 n0 Z0 P2 P3 P4 P5 P6 P7 P8 hw0 hf) pd_23 rfl d6_15 [] rfl 0 (by decide) rfl rfl fun o950 T950 L950 X950 hS950 hZ hown hR950 ch950 hQ950 => ?_
 obtain ⟨b950, bb950, kb950, rfl, N950q, K950, u950_1, u950_2, u950_3, u950_4⟩ := hQ950
 have N950 := Fr.app N949 N950q
 have KK950 := (Keep.refl h0 []).trans K950 all0
 have ZN950 := Nat.le_trans Z0 K950.1
 have OL950 := P4.keep K950 all0
 refine c_sh 18 [.ref b950] rfl rfl ?_
 exact c_retAH X950 hx hby hZ hlk hret d6_18 rfl ⟨rfl, rfl⟩ (by decide) rfl hh (own_EW hw) ch950 hS950 (Nat.le_refl _) ⟨b950, bb950, kb950, rfl, N950, KK950, u950_1, u950_2, u950_3, u950_4⟩
def QSN2_m1 (Z : State) (a1 nm : Addr) (w0 : Int32) (f0 : Value) (v1 : Addr) (k1 : ClassId) (y0 y1 : Int32) (h0 : Heap) (n0 : Nat) (v : Option Value) (h : Heap) (L : List Loc) : Prop := v = some (.ref nm) ∧ Fr n0 L ∧ h = h0
theorem rmSN2_m1 {l : Launch} {Z : State} {a0 : Array Value} (hw : HW Z a0) (a1 nm : Addr) (w0 : Int32) (f0 : Value) (v1 : Addr) (k1 : ClassId) (y0 y1 : Int32) (h0 : Heap) (n0 : Nat) (Z0 : n0 ≤ h0.size) (P0 : Exa Z h0 a1 "com/example/fuller_query/fullerquery/knowledge/ApiTypes$ApiType") (P1 : Fld Z h0 a1 "com/example/fuller_query/fullerquery/knowledge/ApiTypes$ApiType" "name" "Ljava/lang/String;" (.ref nm)) (P2 : sCS Z w0) (P3 : sPF Z f0) (P4 : Old Z n0 h0) (P5 : eS Z h0 nm) (P6 : fC Z h0 nm) (P7 : fV Z h0 nm v1) (P8 : vB Z h0 v1 k1 2 [.int y0, .int y1]) (hw0 : ¬ w0 = 0) (hf : f0.isRef = true) (hy0 : ¬ y0 = (46 : Int32)) (hy1 : ¬ y1 = (46 : Int32)) : own_M l Z ⟨"com/example/fuller_query/fullerquery/knowledge/ApiTypes$ApiType", "simpleName", "()Ljava/lang/String;"⟩ prog_24_method_3_code 1 (some (.object "java/lang/String")) (rmk 4 0 0 58) #[.ref a1] h0 (QSN2_m1 Z a1 nm w0 f0 v1 k1 y0 y1 h0 n0) := by
 refine own_body rfl (plainFor_of_name pn_6) ?_
 intro p e s m below meth c s₁ hx hby hml hown hnm hlk hret X0 e0 hZ
 have N0 := Fr.nil n0
 show Go _ p e below s _ _ _ (s₁.setTop (mkF m 0 #[rv a1] []))
 refine c_aloadN X0 hx hby d6_0 rfl rfl <| c_getf X0 hx hby hZ hown (gw hw 38 rfl) Via.refl e0 P1 d6_1 fun T955 X955 e955 => ?_
 refine c_sh 4 [.ref nm] rfl rfl <| c_aloadN X955 hx hby d6_4 rfl rfl <| c_getf X955 hx hby hZ hown (gw hw 38 rfl) Via.refl e955 P1 d6_5 fun T956 X956 e956 => ?_
 refine c_sh 8 [.ref nm, .ref nm] rfl rfl <| c_bipush X956 hx hby 46 d6_8 rfl <| c_callV X956 hx hby hZ hown hml (gw hw 45 rfl) (gw hw 46 rfl) (gw hw 48 rfl) (gw hw 47 rfl) (gw hw 49 rfl) (gw hw 4 rfl) P5 e956 (rmLO2_m1 hw nm w0 v1 k1 y0 y1 h0 n0 Z0 P2 P4 P5 P6 P7 P8 hw0 hy0 hy1) pd_22 rfl d6_10 [.ref nm] rfl 1 (by decide) rfl rfl fun o957 T957 L957 X957 hQ957 => ?_
 obtain ⟨rfl, N957q, e957⟩ := hQ957
 have N957 := Fr.app N0 N957q
 refine c_sh 13 [.int (-1), .ref nm] rfl rfl <| c_iconst X957 hx hby 1 d6_13 rfl <| c_iadd X957 hx hby d6_14 <| c_sh 15 [.int 0, .ref nm] rfl rfl <| c_callV X957 hx hby hZ hown hml (gw hw 82 rfl) (gw hw 83 rfl) (gw hw 85 rfl) (gw hw 84 rfl) (gw hw 86 rfl) (gw hw 4 rfl) P5 e957 (rmSU2_0 hw nm w0 f0 v1 k1 y0 y1 h0 n0 Z0 P2 P3 P4 P5 P6 P7 P8 hw0 hf) pd_23 rfl d6_15 [] rfl 0 (by decide) rfl rfl fun o958 T958 L958 X958 hQ958 => ?_
 obtain ⟨rfl, N958q, e958⟩ := hQ958
 have N958 := Fr.app N957 N958q
 refine c_sh 18 [.ref nm] rfl rfl ?_
 exact c_retA X958 hx hby hlk hret d6_18 rfl ⟨rfl, rfl⟩ (by decide) e958 ⟨rfl, N958, rfl⟩
def QSN2_0 (Z : State) (a1 nm : Addr) (w0 : Int32) (f0 : Value) (v1 : Addr) (k1 : ClassId) (y0 y1 : Int32) (h0 : Heap) (n0 : Nat) (v : Option Value) (h : Heap) (L : List Loc) : Prop := ∃ (b : Addr), ∃ (bb : Addr), ∃ (kb : ClassId), v = some (.ref b) ∧ Fr n0 L ∧ h0.size ≤ b ∧ n0 ≤ b ∧ Keep h0 h [] ∧ eS Z h b ∧ fC Z h b ∧ fV Z h b bb ∧ vB Z h bb kb 1 [.int y1]
theorem rmSN2_0 {l : Launch} {Z : State} {a0 : Array Value} (hw : HW Z a0) (a1 nm : Addr) (w0 : Int32) (f0 : Value) (v1 : Addr) (k1 : ClassId) (y0 y1 : Int32) (h0 : Heap) (n0 : Nat) (Z0 : n0 ≤ h0.size) (P0 : Exa Z h0 a1 "com/example/fuller_query/fullerquery/knowledge/ApiTypes$ApiType") (P1 : Fld Z h0 a1 "com/example/fuller_query/fullerquery/knowledge/ApiTypes$ApiType" "name" "Ljava/lang/String;" (.ref nm)) (P2 : sCS Z w0) (P3 : sPF Z f0) (P4 : Old Z n0 h0) (P5 : eS Z h0 nm) (P6 : fC Z h0 nm) (P7 : fV Z h0 nm v1) (P8 : vB Z h0 v1 k1 2 [.int y0, .int y1]) (hw0 : ¬ w0 = 0) (hf : f0.isRef = true) (hy0 : y0 = (46 : Int32)) (hy1 : ¬ y1 = (46 : Int32)) : own_M l Z ⟨"com/example/fuller_query/fullerquery/knowledge/ApiTypes$ApiType", "simpleName", "()Ljava/lang/String;"⟩ prog_24_method_3_code 1 (some (.object "java/lang/String")) (rmk 6 2 5 115) #[.ref a1] h0 (QSN2_0 Z a1 nm w0 f0 v1 k1 y0 y1 h0 n0) := by
 refine own_body rfl (plainFor_of_name pn_6) ?_
 intro p e s m below meth c s₁ hx hby hml hown hnm hlk hret X0 e0 hZ
 have N0 := Fr.nil n0
 show Go _ p e below s _ _ _ (s₁.setTop (mkF m 0 #[rv a1] []))
 refine c_aloadN X0 hx hby d6_0 rfl rfl <| c_getf X0 hx hby hZ hown (gw hw 38 rfl) Via.refl e0 P1 d6_1 fun T963 X963 e963 => ?_
 refine c_sh 4 [.ref nm] rfl rfl <| c_aloadN X963 hx hby d6_4 rfl rfl <| c_getf X963 hx hby hZ hown (gw hw 38 rfl) Via.refl e963 P1 d6_5 fun T964 X964 e964 => ?_
 refine c_sh 8 [.ref nm, .ref nm] rfl rfl <| c_bipush X964 hx hby 46 d6_8 rfl <| c_callV X964 hx hby hZ hown hml (gw hw 45 rfl) (gw hw 46 rfl) (gw hw 48 rfl) (gw hw 47 rfl) (gw hw 49 rfl) (gw hw 4 rfl) P5 e964 (rmLO2_0 hw nm w0 v1 k1 y0 y1 h0 n0 Z0 P2 P4 P5 P6 P7 P8 hw0 hy0 hy1) pd_22 rfl d6_10 [.ref nm] rfl 1 (by decide) rfl rfl fun o965 T965 L965 X965 hQ965 => ?_
 obtain ⟨rfl, N965q, e965⟩ := hQ965
 have N965 := Fr.app N0 N965q
 refine c_sh 13 [.int 0, .ref nm] rfl rfl <| c_iconst X965 hx hby 1 d6_13 rfl <| c_iadd X965 hx hby d6_14 <| c_sh 15 [.int 1, .ref nm] rfl rfl <| c_callV X965 hx hby hZ hown hml (gw hw 82 rfl) (gw hw 83 rfl) (gw hw 85 rfl) (gw hw 84 rfl) (gw hw 86 rfl) (gw hw 4 rfl) P5 e965 (rmSU2_1 hw nm w0 f0 v1 k1 y0 y1 h0 n0 Z0 P2 P3 P4 P5 P6 P7 P8 hw0 hf) pd_23 rfl d6_15 [] rfl 0 (by decide) rfl rfl fun o966 T966 L966 X966 hQ966 => ?_
 obtain ⟨b966, bb966, kb966, rfl, N966q, u966_0, u966_1, K966, u966_3, u966_4, u966_5, u966_6⟩ := hQ966
 have N966 := Fr.app N965 N966q
 have G_b966 := Nat.le_trans Z0 u966_0
 have KK966 := (Keep.refl h0 []).trans K966 all0
 have ZN966 := Nat.le_trans Z0 K966.1
 have OL966 := P4.keep K966 all0
 refine c_sh 18 [.ref b966] rfl rfl ?_
 exact c_retA X966 hx hby hlk hret d6_18 rfl ⟨rfl, rfl⟩ (by decide) rfl ⟨b966, bb966, kb966, rfl, N966, (Nat.le_trans (Keep.refl h0 []).1 u966_0), u966_1, KK966, u966_3, u966_4, u966_5, u966_6⟩
def QSN2_1 (Z : State) (a1 nm : Addr) (w0 : Int32) (f0 : Value) (v1 : Addr) (k1 : ClassId) (y0 y1 : Int32) (h0 : Heap) (n0 : Nat) (v : Option Value) (h : Heap) (L : List Loc) : Prop := ∃ (b : Addr), ∃ (bb : Addr), ∃ (kb : ClassId), v = some (.ref b) ∧ Fr n0 L ∧ Keep h0 h [] ∧ eS Z h b ∧ fC Z h b ∧ fV Z h b bb ∧ vB Z h bb kb 0 []
theorem rmSN2_1 {l : Launch} {Z : State} {a0 : Array Value} (hw : HW Z a0) (a1 nm : Addr) (w0 : Int32) (f0 : Value) (v1 : Addr) (k1 : ClassId) (y0 y1 : Int32) (h0 : Heap) (n0 : Nat) (Z0 : n0 ≤ h0.size) (P0 : Exa Z h0 a1 "com/example/fuller_query/fullerquery/knowledge/ApiTypes$ApiType") (P1 : Fld Z h0 a1 "com/example/fuller_query/fullerquery/knowledge/ApiTypes$ApiType" "name" "Ljava/lang/String;" (.ref nm)) (P2 : sCS Z w0) (P3 : sPF Z f0) (P4 : Old Z n0 h0) (P5 : eS Z h0 nm) (P6 : fC Z h0 nm) (P7 : fV Z h0 nm v1) (P8 : vB Z h0 v1 k1 2 [.int y0, .int y1]) (hw0 : ¬ w0 = 0) (hf : f0.isRef = true) (hy1 : y1 = (46 : Int32)) : own_MH l Z ⟨"com/example/fuller_query/fullerquery/knowledge/ApiTypes$ApiType", "simpleName", "()Ljava/lang/String;"⟩ prog_24_method_3_code 1 (some (.object "java/lang/String")) (rmk 4 2 4 58) #[.ref a1] h0 (QSN2_1 Z a1 nm w0 f0 v1 k1 y0 y1 h0 n0) := by
 refine own_bodyH rfl (plainFor_of_name pn_6) ?_
 intro p e s m below meth c s₁ hx hby hml hown hnm hlk hret X0 e0 hZ hh ch0 hS0
 have N0 := Fr.nil n0
 show Go _ p e below s _ _ _ (s₁.setTop (mkF m 0 #[rv a1] []))
 refine c_aloadN X0 hx hby d6_0 rfl rfl <| c_getf X0 hx hby hZ hown (gw hw 38 rfl) Via.refl e0 P1 d6_1 fun T971 X971 e971 => ?_
 refine c_sh 4 [.ref nm] rfl rfl <| c_aloadN X971 hx hby d6_4 rfl rfl <| c_getf X971 hx hby hZ hown (gw hw 38 rfl) Via.refl e971 P1 d6_5 fun T972 X972 e972 => ?_
 refine c_sh 8 [.ref nm, .ref nm] rfl rfl <| c_bipush X972 hx hby 46 d6_8 rfl <| c_callV X972 hx hby hZ hown hml (gw hw 45 rfl) (gw hw 46 rfl) (gw hw 48 rfl) (gw hw 47 rfl) (gw hw 49 rfl) (gw hw 4 rfl) P5 e972 (rmLO2_1 hw nm w0 v1 k1 y0 y1 h0 n0 Z0 P2 P4 P5 P6 P7 P8 hw0 hy1) pd_22 rfl d6_10 [.ref nm] rfl 1 (by decide) rfl rfl fun o973 T973 L973 X973 hQ973 => ?_
 obtain ⟨rfl, N973q, e973⟩ := hQ973
 have N973 := Fr.app N0 N973q
 refine c_sh 13 [.int 1, .ref nm] rfl rfl <| c_iconst X973 hx hby 1 d6_13 rfl <| c_iadd X973 hx hby d6_14 <| c_sh 15 [.int 2, .ref nm] rfl rfl <| c_callVH X973 hx hby hZ hown hml (gw hw 82 rfl) (gw hw 83 rfl) (gw hw 85 rfl) (gw hw 84 rfl) (gw hw 86 rfl) (gw hw 4 rfl) P5 e973 (own_EW hw) ch0 hS0 (Nat.zero_le _) (rmSW2 hw nm w0 f0 v1 k1 y0 y1 h0 n0 Z0 P2 P3 P4 P5 P6 P7 P8 hw0 hf) pd_23 rfl d6_15 [] rfl 0 (by decide) rfl rfl fun o974 T974 L974 X974 hS974 hZ hown hR974 ch974 hQ974 => ?_
 obtain ⟨b974, bb974, kb974, rfl, N974q, K974, u974_1, u974_2, u974_3, u974_4⟩ := hQ974
 have N974 := Fr.app N973 N974q
 have KK974 := (Keep.refl h0 []).trans K974 all0
 have ZN974 := Nat.le_trans Z0 K974.1
 have OL974 := P4.keep K974 all0
 refine c_sh 18 [.ref b974] rfl rfl ?_
 exact c_retAH X974 hx hby hZ hlk hret d6_18 rfl ⟨rfl, rfl⟩ (by decide) rfl hh (own_EW hw) ch974 hS974 (Nat.le_refl _) ⟨b974, bb974, kb974, rfl, N974, KK974, u974_1, u974_2, u974_3, u974_4⟩
def QSN3_m1 (Z : State) (a1 nm : Addr) (w0 : Int32) (f0 : Value) (v1 : Addr) (k1 : ClassId) (y0 y1 y2 : Int32) (h0 : Heap) (n0 : Nat) (v : Option Value) (h : Heap) (L : List Loc) : Prop := v = some (.ref nm) ∧ Fr n0 L ∧ h = h0
theorem rmSN3_m1 {l : Launch} {Z : State} {a0 : Array Value} (hw : HW Z a0) (a1 nm : Addr) (w0 : Int32) (f0 : Value) (v1 : Addr) (k1 : ClassId) (y0 y1 y2 : Int32) (h0 : Heap) (n0 : Nat) (Z0 : n0 ≤ h0.size) (P0 : Exa Z h0 a1 "com/example/fuller_query/fullerquery/knowledge/ApiTypes$ApiType") (P1 : Fld Z h0 a1 "com/example/fuller_query/fullerquery/knowledge/ApiTypes$ApiType" "name" "Ljava/lang/String;" (.ref nm)) (P2 : sCS Z w0) (P3 : sPF Z f0) (P4 : Old Z n0 h0) (P5 : eS Z h0 nm) (P6 : fC Z h0 nm) (P7 : fV Z h0 nm v1) (P8 : vB Z h0 v1 k1 3 [.int y0, .int y1, .int y2]) (hw0 : ¬ w0 = 0) (hf : f0.isRef = true) (hy0 : ¬ y0 = (46 : Int32)) (hy1 : ¬ y1 = (46 : Int32)) (hy2 : ¬ y2 = (46 : Int32)) : own_M l Z ⟨"com/example/fuller_query/fullerquery/knowledge/ApiTypes$ApiType", "simpleName", "()Ljava/lang/String;"⟩ prog_24_method_3_code 1 (some (.object "java/lang/String")) (rmk 4 0 0 58) #[.ref a1] h0 (QSN3_m1 Z a1 nm w0 f0 v1 k1 y0 y1 y2 h0 n0) := by
 refine own_body rfl (plainFor_of_name pn_6) ?_
 intro p e s m below meth c s₁ hx hby hml hown hnm hlk hret X0 e0 hZ
 have N0 := Fr.nil n0
 show Go _ p e below s _ _ _ (s₁.setTop (mkF m 0 #[rv a1] []))
 refine c_aloadN X0 hx hby d6_0 rfl rfl <| c_getf X0 hx hby hZ hown (gw hw 38 rfl) Via.refl e0 P1 d6_1 fun T979 X979 e979 => ?_
 refine c_sh 4 [.ref nm] rfl rfl <| c_aloadN X979 hx hby d6_4 rfl rfl <| c_getf X979 hx hby hZ hown (gw hw 38 rfl) Via.refl e979 P1 d6_5 fun T980 X980 e980 => ?_
 refine c_sh 8 [.ref nm, .ref nm] rfl rfl <| c_bipush X980 hx hby 46 d6_8 rfl <| c_callV X980 hx hby hZ hown hml (gw hw 45 rfl) (gw hw 46 rfl) (gw hw 48 rfl) (gw hw 47 rfl) (gw hw 49 rfl) (gw hw 4 rfl) P5 e980 (rmLO3_m1 hw nm w0 v1 k1 y0 y1 y2 h0 n0 Z0 P2 P4 P5 P6 P7 P8 hw0 hy0 hy1 hy2) pd_22 rfl d6_10 [.ref nm] rfl 1 (by decide) rfl rfl fun o981 T981 L981 X981 hQ981 => ?_
 obtain ⟨rfl, N981q, e981⟩ := hQ981
 have N981 := Fr.app N0 N981q
 refine c_sh 13 [.int (-1), .ref nm] rfl rfl <| c_iconst X981 hx hby 1 d6_13 rfl <| c_iadd X981 hx hby d6_14 <| c_sh 15 [.int 0, .ref nm] rfl rfl <| c_callV X981 hx hby hZ hown hml (gw hw 82 rfl) (gw hw 83 rfl) (gw hw 85 rfl) (gw hw 84 rfl) (gw hw 86 rfl) (gw hw 4 rfl) P5 e981 (rmSU3_0 hw nm w0 f0 v1 k1 y0 y1 y2 h0 n0 Z0 P2 P3 P4 P5 P6 P7 P8 hw0 hf) pd_23 rfl d6_15 [] rfl 0 (by decide) rfl rfl fun o982 T982 L982 X982 hQ982 => ?_
 obtain ⟨rfl, N982q, e982⟩ := hQ982
 have N982 := Fr.app N981 N982q
 refine c_sh 18 [.ref nm] rfl rfl ?_
 exact c_retA X982 hx hby hlk hret d6_18 rfl ⟨rfl, rfl⟩ (by decide) e982 ⟨rfl, N982, rfl⟩
def QSN3_0 (Z : State) (a1 nm : Addr) (w0 : Int32) (f0 : Value) (v1 : Addr) (k1 : ClassId) (y0 y1 y2 : Int32) (h0 : Heap) (n0 : Nat) (v : Option Value) (h : Heap) (L : List Loc) : Prop := ∃ (b : Addr), ∃ (bb : Addr), ∃ (kb : ClassId), v = some (.ref b) ∧ Fr n0 L ∧ h0.size ≤ b ∧ n0 ≤ b ∧ Keep h0 h [] ∧ eS Z h b ∧ fC Z h b ∧ fV Z h b bb ∧ vB Z h bb kb 2 [.int y1, .int y2]
theorem rmSN3_0 {l : Launch} {Z : State} {a0 : Array Value} (hw : HW Z a0) (a1 nm : Addr) (w0 : Int32) (f0 : Value) (v1 : Addr) (k1 : ClassId) (y0 y1 y2 : Int32) (h0 : Heap) (n0 : Nat) (Z0 : n0 ≤ h0.size) (P0 : Exa Z h0 a1 "com/example/fuller_query/fullerquery/knowledge/ApiTypes$ApiType") (P1 : Fld Z h0 a1 "com/example/fuller_query/fullerquery/knowledge/ApiTypes$ApiType" "name" "Ljava/lang/String;" (.ref nm)) (P2 : sCS Z w0) (P3 : sPF Z f0) (P4 : Old Z n0 h0) (P5 : eS Z h0 nm) (P6 : fC Z h0 nm) (P7 : fV Z h0 nm v1) (P8 : vB Z h0 v1 k1 3 [.int y0, .int y1, .int y2]) (hw0 : ¬ w0 = 0) (hf : f0.isRef = true) (hy0 : y0 = (46 : Int32)) (hy1 : ¬ y1 = (46 : Int32)) (hy2 : ¬ y2 = (46 : Int32)) : own_M l Z ⟨"com/example/fuller_query/fullerquery/knowledge/ApiTypes$ApiType", "simpleName", "()Ljava/lang/String;"⟩ prog_24_method_3_code 1 (some (.object "java/lang/String")) (rmk 6 2 6 115) #[.ref a1] h0 (QSN3_0 Z a1 nm w0 f0 v1 k1 y0 y1 y2 h0 n0) := by
 refine own_body rfl (plainFor_of_name pn_6) ?_
 intro p e s m below meth c s₁ hx hby hml hown hnm hlk hret X0 e0 hZ
 have N0 := Fr.nil n0
 show Go _ p e below s _ _ _ (s₁.setTop (mkF m 0 #[rv a1] []))
 refine c_aloadN X0 hx hby d6_0 rfl rfl <| c_getf X0 hx hby hZ hown (gw hw 38 rfl) Via.refl e0 P1 d6_1 fun T987 X987 e987 => ?_
 refine c_sh 4 [.ref nm] rfl rfl <| c_aloadN X987 hx hby d6_4 rfl rfl <| c_getf X987 hx hby hZ hown (gw hw 38 rfl) Via.refl e987 P1 d6_5 fun T988 X988 e988 => ?_
 refine c_sh 8 [.ref nm, .ref nm] rfl rfl <| c_bipush X988 hx hby 46 d6_8 rfl <| c_callV X988 hx hby hZ hown hml (gw hw 45 rfl) (gw hw 46 rfl) (gw hw 48 rfl) (gw hw 47 rfl) (gw hw 49 rfl) (gw hw 4 rfl) P5 e988 (rmLO3_0 hw nm w0 v1 k1 y0 y1 y2 h0 n0 Z0 P2 P4 P5 P6 P7 P8 hw0 hy0 hy1 hy2) pd_22 rfl d6_10 [.ref nm] rfl 1 (by decide) rfl rfl fun o989 T989 L989 X989 hQ989 => ?_
 obtain ⟨rfl, N989q, e989⟩ := hQ989
 have N989 := Fr.app N0 N989q
 refine c_sh 13 [.int 0, .ref nm] rfl rfl <| c_iconst X989 hx hby 1 d6_13 rfl <| c_iadd X989 hx hby d6_14 <| c_sh 15 [.int 1, .ref nm] rfl rfl <| c_callV X989 hx hby hZ hown hml (gw hw 82 rfl) (gw hw 83 rfl) (gw hw 85 rfl) (gw hw 84 rfl) (gw hw 86 rfl) (gw hw 4 rfl) P5 e989 (rmSU3_1 hw nm w0 f0 v1 k1 y0 y1 y2 h0 n0 Z0 P2 P3 P4 P5 P6 P7 P8 hw0 hf) pd_23 rfl d6_15 [] rfl 0 (by decide) rfl rfl fun o990 T990 L990 X990 hQ990 => ?_
 obtain ⟨b990, bb990, kb990, rfl, N990q, u990_0, u990_1, K990, u990_3, u990_4, u990_5, u990_6⟩ := hQ990
 have N990 := Fr.app N989 N990q
 have G_b990 := Nat.le_trans Z0 u990_0
 have KK990 := (Keep.refl h0 []).trans K990 all0
 have ZN990 := Nat.le_trans Z0 K990.1
 have OL990 := P4.keep K990 all0
 refine c_sh 18 [.ref b990] rfl rfl ?_
 exact c_retA X990 hx hby hlk hret d6_18 rfl ⟨rfl, rfl⟩ (by decide) rfl ⟨b990, bb990, kb990, rfl, N990, (Nat.le_trans (Keep.refl h0 []).1 u990_0), u990_1, KK990, u990_3, u990_4, u990_5, u990_6⟩
def QSN3_1 (Z : State) (a1 nm : Addr) (w0 : Int32) (f0 : Value) (v1 : Addr) (k1 : ClassId) (y0 y1 y2 : Int32) (h0 : Heap) (n0 : Nat) (v : Option Value) (h : Heap) (L : List Loc) : Prop := ∃ (b : Addr), ∃ (bb : Addr), ∃ (kb : ClassId), v = some (.ref b) ∧ Fr n0 L ∧ h0.size ≤ b ∧ n0 ≤ b ∧ Keep h0 h [] ∧ eS Z h b ∧ fC Z h b ∧ fV Z h b bb ∧ vB Z h bb kb 1 [.int y2]
theorem rmSN3_1 {l : Launch} {Z : State} {a0 : Array Value} (hw : HW Z a0) (a1 nm : Addr) (w0 : Int32) (f0 : Value) (v1 : Addr) (k1 : ClassId) (y0 y1 y2 : Int32) (h0 : Heap) (n0 : Nat) (Z0 : n0 ≤ h0.size) (P0 : Exa Z h0 a1 "com/example/fuller_query/fullerquery/knowledge/ApiTypes$ApiType") (P1 : Fld Z h0 a1 "com/example/fuller_query/fullerquery/knowledge/ApiTypes$ApiType" "name" "Ljava/lang/String;" (.ref nm)) (P2 : sCS Z w0) (P3 : sPF Z f0) (P4 : Old Z n0 h0) (P5 : eS Z h0 nm) (P6 : fC Z h0 nm) (P7 : fV Z h0 nm v1) (P8 : vB Z h0 v1 k1 3 [.int y0, .int y1, .int y2]) (hw0 : ¬ w0 = 0) (hf : f0.isRef = true) (hy1 : y1 = (46 : Int32)) (hy2 : ¬ y2 = (46 : Int32)) : own_M l Z ⟨"com/example/fuller_query/fullerquery/knowledge/ApiTypes$ApiType", "simpleName", "()Ljava/lang/String;"⟩ prog_24_method_3_code 1 (some (.object "java/lang/String")) (rmk 6 2 5 115) #[.ref a1] h0 (QSN3_1 Z a1 nm w0 f0 v1 k1 y0 y1 y2 h0 n0) := by
 refine own_body rfl (plainFor_of_name pn_6) ?_
 intro p e s m below meth c s₁ hx hby hml hown hnm hlk hret X0 e0 hZ
 have N0 := Fr.nil n0
 show Go _ p e below s _ _ _ (s₁.setTop (mkF m 0 #[rv a1] []))
 refine c_aloadN X0 hx hby d6_0 rfl rfl <| c_getf X0 hx hby hZ hown (gw hw 38 rfl) Via.refl e0 P1 d6_1 fun T995 X995 e995 => ?_
 refine c_sh 4 [.ref nm] rfl rfl <| c_aloadN X995 hx hby d6_4 rfl rfl <| c_getf X995 hx hby hZ hown (gw hw 38 rfl) Via.refl e995 P1 d6_5 fun T996 X996 e996 => ?_
 refine c_sh 8 [.ref nm, .ref nm] rfl rfl <| c_bipush X996 hx hby 46 d6_8 rfl <| c_callV X996 hx hby hZ hown hml (gw hw 45 rfl) (gw hw 46 rfl) (gw hw 48 rfl) (gw hw 47 rfl) (gw hw 49 rfl) (gw hw 4 rfl) P5 e996 (rmLO3_1 hw nm w0 v1 k1 y0 y1 y2 h0 n0 Z0 P2 P4 P5 P6 P7 P8 hw0 hy1 hy2) pd_22 rfl d6_10 [.ref nm] rfl 1 (by decide) rfl rfl fun o997 T997 L997 X997 hQ997 => ?_
 obtain ⟨rfl, N997q, e997⟩ := hQ997
 have N997 := Fr.app N0 N997q
 refine c_sh 13 [.int 1, .ref nm] rfl rfl <| c_iconst X997 hx hby 1 d6_13 rfl <| c_iadd X997 hx hby d6_14 <| c_sh 15 [.int 2, .ref nm] rfl rfl <| c_callV X997 hx hby hZ hown hml (gw hw 82 rfl) (gw hw 83 rfl) (gw hw 85 rfl) (gw hw 84 rfl) (gw hw 86 rfl) (gw hw 4 rfl) P5 e997 (rmSU3_2 hw nm w0 f0 v1 k1 y0 y1 y2 h0 n0 Z0 P2 P3 P4 P5 P6 P7 P8 hw0 hf) pd_23 rfl d6_15 [] rfl 0 (by decide) rfl rfl fun o998 T998 L998 X998 hQ998 => ?_
 obtain ⟨b998, bb998, kb998, rfl, N998q, u998_0, u998_1, K998, u998_3, u998_4, u998_5, u998_6⟩ := hQ998
 have N998 := Fr.app N997 N998q
 have G_b998 := Nat.le_trans Z0 u998_0
 have KK998 := (Keep.refl h0 []).trans K998 all0
 have ZN998 := Nat.le_trans Z0 K998.1
 have OL998 := P4.keep K998 all0
 refine c_sh 18 [.ref b998] rfl rfl ?_
 exact c_retA X998 hx hby hlk hret d6_18 rfl ⟨rfl, rfl⟩ (by decide) rfl ⟨b998, bb998, kb998, rfl, N998, (Nat.le_trans (Keep.refl h0 []).1 u998_0), u998_1, KK998, u998_3, u998_4, u998_5, u998_6⟩
def QSN3_2 (Z : State) (a1 nm : Addr) (w0 : Int32) (f0 : Value) (v1 : Addr) (k1 : ClassId) (y0 y1 y2 : Int32) (h0 : Heap) (n0 : Nat) (v : Option Value) (h : Heap) (L : List Loc) : Prop := ∃ (b : Addr), ∃ (bb : Addr), ∃ (kb : ClassId), v = some (.ref b) ∧ Fr n0 L ∧ Keep h0 h [] ∧ eS Z h b ∧ fC Z h b ∧ fV Z h b bb ∧ vB Z h bb kb 0 []
theorem rmSN3_2 {l : Launch} {Z : State} {a0 : Array Value} (hw : HW Z a0) (a1 nm : Addr) (w0 : Int32) (f0 : Value) (v1 : Addr) (k1 : ClassId) (y0 y1 y2 : Int32) (h0 : Heap) (n0 : Nat) (Z0 : n0 ≤ h0.size) (P0 : Exa Z h0 a1 "com/example/fuller_query/fullerquery/knowledge/ApiTypes$ApiType") (P1 : Fld Z h0 a1 "com/example/fuller_query/fullerquery/knowledge/ApiTypes$ApiType" "name" "Ljava/lang/String;" (.ref nm)) (P2 : sCS Z w0) (P3 : sPF Z f0) (P4 : Old Z n0 h0) (P5 : eS Z h0 nm) (P6 : fC Z h0 nm) (P7 : fV Z h0 nm v1) (P8 : vB Z h0 v1 k1 3 [.int y0, .int y1, .int y2]) (hw0 : ¬ w0 = 0) (hf : f0.isRef = true) (hy2 : y2 = (46 : Int32)) : own_MH l Z ⟨"com/example/fuller_query/fullerquery/knowledge/ApiTypes$ApiType", "simpleName", "()Ljava/lang/String;"⟩ prog_24_method_3_code 1 (some (.object "java/lang/String")) (rmk 4 2 4 58) #[.ref a1] h0 (QSN3_2 Z a1 nm w0 f0 v1 k1 y0 y1 y2 h0 n0) := by
 refine own_bodyH rfl (plainFor_of_name pn_6) ?_
 intro p e s m below meth c s₁ hx hby hml hown hnm hlk hret X0 e0 hZ hh ch0 hS0
 have N0 := Fr.nil n0
 show Go _ p e below s _ _ _ (s₁.setTop (mkF m 0 #[rv a1] []))
 refine c_aloadN X0 hx hby d6_0 rfl rfl <| c_getf X0 hx hby hZ hown (gw hw 38 rfl) Via.refl e0 P1 d6_1 fun T1003 X1003 e1003 => ?_
 refine c_sh 4 [.ref nm] rfl rfl <| c_aloadN X1003 hx hby d6_4 rfl rfl <| c_getf X1003 hx hby hZ hown (gw hw 38 rfl) Via.refl e1003 P1 d6_5 fun T1004 X1004 e1004 => ?_
 refine c_sh 8 [.ref nm, .ref nm] rfl rfl <| c_bipush X1004 hx hby 46 d6_8 rfl <| c_callV X1004 hx hby hZ hown hml (gw hw 45 rfl) (gw hw 46 rfl) (gw hw 48 rfl) (gw hw 47 rfl) (gw hw 49 rfl) (gw hw 4 rfl) P5 e1004 (rmLO3_2 hw nm w0 v1 k1 y0 y1 y2 h0 n0 Z0 P2 P4 P5 P6 P7 P8 hw0 hy2) pd_22 rfl d6_10 [.ref nm] rfl 1 (by decide) rfl rfl fun o1005 T1005 L1005 X1005 hQ1005 => ?_
 obtain ⟨rfl, N1005q, e1005⟩ := hQ1005
 have N1005 := Fr.app N0 N1005q
 refine c_sh 13 [.int 2, .ref nm] rfl rfl <| c_iconst X1005 hx hby 1 d6_13 rfl <| c_iadd X1005 hx hby d6_14 <| c_sh 15 [.int 3, .ref nm] rfl rfl <| c_callVH X1005 hx hby hZ hown hml (gw hw 82 rfl) (gw hw 83 rfl) (gw hw 85 rfl) (gw hw 84 rfl) (gw hw 86 rfl) (gw hw 4 rfl) P5 e1005 (own_EW hw) ch0 hS0 (Nat.zero_le _) (rmSW3 hw nm w0 f0 v1 k1 y0 y1 y2 h0 n0 Z0 P2 P3 P4 P5 P6 P7 P8 hw0 hf) pd_23 rfl d6_15 [] rfl 0 (by decide) rfl rfl fun o1006 T1006 L1006 X1006 hS1006 hZ hown hR1006 ch1006 hQ1006 => ?_
 obtain ⟨b1006, bb1006, kb1006, rfl, N1006q, K1006, u1006_1, u1006_2, u1006_3, u1006_4⟩ := hQ1006
 have N1006 := Fr.app N1005 N1006q
 have KK1006 := (Keep.refl h0 []).trans K1006 all0
 have ZN1006 := Nat.le_trans Z0 K1006.1
 have OL1006 := P4.keep K1006 all0
 refine c_sh 18 [.ref b1006] rfl rfl ?_
 exact c_retAH X1006 hx hby hZ hlk hret d6_18 rfl ⟨rfl, rfl⟩ (by decide) rfl hh (own_EW hw) ch1006 hS1006 (Nat.le_refl _) ⟨b1006, bb1006, kb1006, rfl, N1006, KK1006, u1006_1, u1006_2, u1006_3, u1006_4⟩
def QSN4_m1 (Z : State) (a1 nm : Addr) (w0 : Int32) (f0 : Value) (v1 : Addr) (k1 : ClassId) (y0 y1 y2 y3 : Int32) (h0 : Heap) (n0 : Nat) (v : Option Value) (h : Heap) (L : List Loc) : Prop := v = some (.ref nm) ∧ Fr n0 L ∧ h = h0
theorem rmSN4_m1 {l : Launch} {Z : State} {a0 : Array Value} (hw : HW Z a0) (a1 nm : Addr) (w0 : Int32) (f0 : Value) (v1 : Addr) (k1 : ClassId) (y0 y1 y2 y3 : Int32) (h0 : Heap) (n0 : Nat) (Z0 : n0 ≤ h0.size) (P0 : Exa Z h0 a1 "com/example/fuller_query/fullerquery/knowledge/ApiTypes$ApiType") (P1 : Fld Z h0 a1 "com/example/fuller_query/fullerquery/knowledge/ApiTypes$ApiType" "name" "Ljava/lang/String;" (.ref nm)) (P2 : sCS Z w0) (P3 : sPF Z f0) (P4 : Old Z n0 h0) (P5 : eS Z h0 nm) (P6 : fC Z h0 nm) (P7 : fV Z h0 nm v1) (P8 : vB Z h0 v1 k1 4 [.int y0, .int y1, .int y2, .int y3]) (hw0 : ¬ w0 = 0) (hf : f0.isRef = true) (hy0 : ¬ y0 = (46 : Int32)) (hy1 : ¬ y1 = (46 : Int32)) (hy2 : ¬ y2 = (46 : Int32)) (hy3 : ¬ y3 = (46 : Int32)) : own_M l Z ⟨"com/example/fuller_query/fullerquery/knowledge/ApiTypes$ApiType", "simpleName", "()Ljava/lang/String;"⟩ prog_24_method_3_code 1 (some (.object "java/lang/String")) (rmk 4 0 0 58) #[.ref a1] h0 (QSN4_m1 Z a1 nm w0 f0 v1 k1 y0 y1 y2 y3 h0 n0) := by
 refine own_body rfl (plainFor_of_name pn_6) ?_
 intro p e s m below meth c s₁ hx hby hml hown hnm hlk hret X0 e0 hZ
 have N0 := Fr.nil n0
 show Go _ p e below s _ _ _ (s₁.setTop (mkF m 0 #[rv a1] []))
 refine c_aloadN X0 hx hby d6_0 rfl rfl <| c_getf X0 hx hby hZ hown (gw hw 38 rfl) Via.refl e0 P1 d6_1 fun T1011 X1011 e1011 => ?_
 refine c_sh 4 [.ref nm] rfl rfl <| c_aloadN X1011 hx hby d6_4 rfl rfl <| c_getf X1011 hx hby hZ hown (gw hw 38 rfl) Via.refl e1011 P1 d6_5 fun T1012 X1012 e1012 => ?_
 refine c_sh 8 [.ref nm, .ref nm] rfl rfl <| c_bipush X1012 hx hby 46 d6_8 rfl <| c_callV X1012 hx hby hZ hown hml (gw hw 45 rfl) (gw hw 46 rfl) (gw hw 48 rfl) (gw hw 47 rfl) (gw hw 49 rfl) (gw hw 4 rfl) P5 e1012 (rmLO4_m1 hw nm w0 v1 k1 y0 y1 y2 y3 h0 n0 Z0 P2 P4 P5 P6 P7 P8 hw0 hy0 hy1 hy2 hy3) pd_22 rfl d6_10 [.ref nm] rfl 1 (by decide) rfl rfl fun o1013 T1013 L1013 X1013 hQ1013 => ?_
 obtain ⟨rfl, N1013q, e1013⟩ := hQ1013
 have N1013 := Fr.app N0 N1013q
 refine c_sh 13 [.int (-1), .ref nm] rfl rfl <| c_iconst X1013 hx hby 1 d6_13 rfl <| c_iadd X1013 hx hby d6_14 <| c_sh 15 [.int 0, .ref nm] rfl rfl <| c_callV X1013 hx hby hZ hown hml (gw hw 82 rfl) (gw hw 83 rfl) (gw hw 85 rfl) (gw hw 84 rfl) (gw hw 86 rfl) (gw hw 4 rfl) P5 e1013 (rmSU4_0 hw nm w0 f0 v1 k1 y0 y1 y2 y3 h0 n0 Z0 P2 P3 P4 P5 P6 P7 P8 hw0 hf) pd_23 rfl d6_15 [] rfl 0 (by decide) rfl rfl fun o1014 T1014 L1014 X1014 hQ1014 => ?_
 obtain ⟨rfl, N1014q, e1014⟩ := hQ1014
 have N1014 := Fr.app N1013 N1014q
 refine c_sh 18 [.ref nm] rfl rfl ?_
 exact c_retA X1014 hx hby hlk hret d6_18 rfl ⟨rfl, rfl⟩ (by decide) e1014 ⟨rfl, N1014, rfl⟩
def QSN4_0 (Z : State) (a1 nm : Addr) (w0 : Int32) (f0 : Value) (v1 : Addr) (k1 : ClassId) (y0 y1 y2 y3 : Int32) (h0 : Heap) (n0 : Nat) (v : Option Value) (h : Heap) (L : List Loc) : Prop := ∃ (b : Addr), ∃ (bb : Addr), ∃ (kb : ClassId), v = some (.ref b) ∧ Fr n0 L ∧ h0.size ≤ b ∧ n0 ≤ b ∧ Keep h0 h [] ∧ eS Z h b ∧ fC Z h b ∧ fV Z h b bb ∧ vB Z h bb kb 3 [.int y1, .int y2, .int y3]
theorem rmSN4_0 {l : Launch} {Z : State} {a0 : Array Value} (hw : HW Z a0) (a1 nm : Addr) (w0 : Int32) (f0 : Value) (v1 : Addr) (k1 : ClassId) (y0 y1 y2 y3 : Int32) (h0 : Heap) (n0 : Nat) (Z0 : n0 ≤ h0.size) (P0 : Exa Z h0 a1 "com/example/fuller_query/fullerquery/knowledge/ApiTypes$ApiType") (P1 : Fld Z h0 a1 "com/example/fuller_query/fullerquery/knowledge/ApiTypes$ApiType" "name" "Ljava/lang/String;" (.ref nm)) (P2 : sCS Z w0) (P3 : sPF Z f0) (P4 : Old Z n0 h0) (P5 : eS Z h0 nm) (P6 : fC Z h0 nm) (P7 : fV Z h0 nm v1) (P8 : vB Z h0 v1 k1 4 [.int y0, .int y1, .int y2, .int y3]) (hw0 : ¬ w0 = 0) (hf : f0.isRef = true) (hy0 : y0 = (46 : Int32)) (hy1 : ¬ y1 = (46 : Int32)) (hy2 : ¬ y2 = (46 : Int32)) (hy3 : ¬ y3 = (46 : Int32)) : own_M l Z ⟨"com/example/fuller_query/fullerquery/knowledge/ApiTypes$ApiType", "simpleName", "()Ljava/lang/String;"⟩ prog_24_method_3_code 1 (some (.object "java/lang/String")) (rmk 6 2 7 115) #[.ref a1] h0 (QSN4_0 Z a1 nm w0 f0 v1 k1 y0 y1 y2 y3 h0 n0) := by
 refine own_body rfl (plainFor_of_name pn_6) ?_
 intro p e s m below meth c s₁ hx hby hml hown hnm hlk hret X0 e0 hZ
 have N0 := Fr.nil n0
 show Go _ p e below s _ _ _ (s₁.setTop (mkF m 0 #[rv a1] []))
 refine c_aloadN X0 hx hby d6_0 rfl rfl <| c_getf X0 hx hby hZ hown (gw hw 38 rfl) Via.refl e0 P1 d6_1 fun T1019 X1019 e1019 => ?_
 refine c_sh 4 [.ref nm] rfl rfl <| c_aloadN X1019 hx hby d6_4 rfl rfl <| c_getf X1019 hx hby hZ hown (gw hw 38 rfl) Via.refl e1019 P1 d6_5 fun T1020 X1020 e1020 => ?_
 refine c_sh 8 [.ref nm, .ref nm] rfl rfl <| c_bipush X1020 hx hby 46 d6_8 rfl <| c_callV X1020 hx hby hZ hown hml (gw hw 45 rfl) (gw hw 46 rfl) (gw hw 48 rfl) (gw hw 47 rfl) (gw hw 49 rfl) (gw hw 4 rfl) P5 e1020 (rmLO4_0 hw nm w0 v1 k1 y0 y1 y2 y3 h0 n0 Z0 P2 P4 P5 P6 P7 P8 hw0 hy0 hy1 hy2 hy3) pd_22 rfl d6_10 [.ref nm] rfl 1 (by decide) rfl rfl fun o1021 T1021 L1021 X1021 hQ1021 => ?_
 obtain ⟨rfl, N1021q, e1021⟩ := hQ1021
 have N1021 := Fr.app N0 N1021q
 refine c_sh 13 [.int 0, .ref nm] rfl rfl <| c_iconst X1021 hx hby 1 d6_13 rfl <| c_iadd X1021 hx hby d6_14 <| c_sh 15 [.int 1, .ref nm] rfl rfl <| c_callV X1021 hx hby hZ hown hml (gw hw 82 rfl) (gw hw 83 rfl) (gw hw 85 rfl) (gw hw 84 rfl) (gw hw 86 rfl) (gw hw 4 rfl) P5 e1021 (rmSU4_1 hw nm w0 f0 v1 k1 y0 y1 y2 y3 h0 n0 Z0 P2 P3 P4 P5 P6 P7 P8 hw0 hf) pd_23 rfl d6_15 [] rfl 0 (by decide) rfl rfl fun o1022 T1022 L1022 X1022 hQ1022 => ?_
 obtain ⟨b1022, bb1022, kb1022, rfl, N1022q, u1022_0, u1022_1, K1022, u1022_3, u1022_4, u1022_5, u1022_6⟩ := hQ1022
 have N1022 := Fr.app N1021 N1022q
 have G_b1022 := Nat.le_trans Z0 u1022_0
 have KK1022 := (Keep.refl h0 []).trans K1022 all0
 have ZN1022 := Nat.le_trans Z0 K1022.1
 have OL1022 := P4.keep K1022 all0
 refine c_sh 18 [.ref b1022] rfl rfl ?_
 exact c_retA X1022 hx hby hlk hret d6_18 rfl ⟨rfl, rfl⟩ (by decide) rfl ⟨b1022, bb1022, kb1022, rfl, N1022, (Nat.le_trans (Keep.refl h0 []).1 u1022_0), u1022_1, KK1022, u1022_3, u1022_4, u1022_5, u1022_6⟩
def QSN4_1 (Z : State) (a1 nm : Addr) (w0 : Int32) (f0 : Value) (v1 : Addr) (k1 : ClassId) (y0 y1 y2 y3 : Int32) (h0 : Heap) (n0 : Nat) (v : Option Value) (h : Heap) (L : List Loc) : Prop := ∃ (b : Addr), ∃ (bb : Addr), ∃ (kb : ClassId), v = some (.ref b) ∧ Fr n0 L ∧ h0.size ≤ b ∧ n0 ≤ b ∧ Keep h0 h [] ∧ eS Z h b ∧ fC Z h b ∧ fV Z h b bb ∧ vB Z h bb kb 2 [.int y2, .int y3]
theorem rmSN4_1 {l : Launch} {Z : State} {a0 : Array Value} (hw : HW Z a0) (a1 nm : Addr) (w0 : Int32) (f0 : Value) (v1 : Addr) (k1 : ClassId) (y0 y1 y2 y3 : Int32) (h0 : Heap) (n0 : Nat) (Z0 : n0 ≤ h0.size) (P0 : Exa Z h0 a1 "com/example/fuller_query/fullerquery/knowledge/ApiTypes$ApiType") (P1 : Fld Z h0 a1 "com/example/fuller_query/fullerquery/knowledge/ApiTypes$ApiType" "name" "Ljava/lang/String;" (.ref nm)) (P2 : sCS Z w0) (P3 : sPF Z f0) (P4 : Old Z n0 h0) (P5 : eS Z h0 nm) (P6 : fC Z h0 nm) (P7 : fV Z h0 nm v1) (P8 : vB Z h0 v1 k1 4 [.int y0, .int y1, .int y2, .int y3]) (hw0 : ¬ w0 = 0) (hf : f0.isRef = true) (hy1 : y1 = (46 : Int32)) (hy2 : ¬ y2 = (46 : Int32)) (hy3 : ¬ y3 = (46 : Int32)) : own_M l Z ⟨"com/example/fuller_query/fullerquery/knowledge/ApiTypes$ApiType", "simpleName", "()Ljava/lang/String;"⟩ prog_24_method_3_code 1 (some (.object "java/lang/String")) (rmk 6 2 6 115) #[.ref a1] h0 (QSN4_1 Z a1 nm w0 f0 v1 k1 y0 y1 y2 y3 h0 n0) := by
 refine own_body rfl (plainFor_of_name pn_6) ?_
 intro p e s m below meth c s₁ hx hby hml hown hnm hlk hret X0 e0 hZ
 have N0 := Fr.nil n0
 show Go _ p e below s _ _ _ (s₁.setTop (mkF m 0 #[rv a1] []))
 refine c_aloadN X0 hx hby d6_0 rfl rfl <| c_getf X0 hx hby hZ hown (gw hw 38 rfl) Via.refl e0 P1 d6_1 fun T1027 X1027 e1027 => ?_
 refine c_sh 4 [.ref nm] rfl rfl <| c_aloadN X1027 hx hby d6_4 rfl rfl <| c_getf X1027 hx hby hZ hown (gw hw 38 rfl) Via.refl e1027 P1 d6_5 fun T1028 X1028 e1028 => ?_
 refine c_sh 8 [.ref nm, .ref nm] rfl rfl <| c_bipush X1028 hx hby 46 d6_8 rfl <| c_callV X1028 hx hby hZ hown hml (gw hw 45 rfl) (gw hw 46 rfl) (gw hw 48 rfl) (gw hw 47 rfl) (gw hw 49 rfl) (gw hw 4 rfl) P5 e1028 (rmLO4_1 hw nm w0 v1 k1 y0 y1 y2 y3 h0 n0 Z0 P2 P4 P5 P6 P7 P8 hw0 hy1 hy2 hy3) pd_22 rfl d6_10 [.ref nm] rfl 1 (by decide) rfl rfl fun o1029 T1029 L1029 X1029 hQ1029 => ?_
 obtain ⟨rfl, N1029q, e1029⟩ := hQ1029
 have N1029 := Fr.app N0 N1029q
 refine c_sh 13 [.int 1, .ref nm] rfl rfl <| c_iconst X1029 hx hby 1 d6_13 rfl <| c_iadd X1029 hx hby d6_14 <| c_sh 15 [.int 2, .ref nm] rfl rfl <| c_callV X1029 hx hby hZ hown hml (gw hw 82 rfl) (gw hw 83 rfl) (gw hw 85 rfl) (gw hw 84 rfl) (gw hw 86 rfl) (gw hw 4 rfl) P5 e1029 (rmSU4_2 hw nm w0 f0 v1 k1 y0 y1 y2 y3 h0 n0 Z0 P2 P3 P4 P5 P6 P7 P8 hw0 hf) pd_23 rfl d6_15 [] rfl 0 (by decide) rfl rfl fun o1030 T1030 L1030 X1030 hQ1030 => ?_
 obtain ⟨b1030, bb1030, kb1030, rfl, N1030q, u1030_0, u1030_1, K1030, u1030_3, u1030_4, u1030_5, u1030_6⟩ := hQ1030
 have N1030 := Fr.app N1029 N1030q
 have G_b1030 := Nat.le_trans Z0 u1030_0
 have KK1030 := (Keep.refl h0 []).trans K1030 all0
 have ZN1030 := Nat.le_trans Z0 K1030.1
 have OL1030 := P4.keep K1030 all0
 refine c_sh 18 [.ref b1030] rfl rfl ?_
 exact c_retA X1030 hx hby hlk hret d6_18 rfl ⟨rfl, rfl⟩ (by decide) rfl ⟨b1030, bb1030, kb1030, rfl, N1030, (Nat.le_trans (Keep.refl h0 []).1 u1030_0), u1030_1, KK1030, u1030_3, u1030_4, u1030_5, u1030_6⟩
def QSN4_2 (Z : State) (a1 nm : Addr) (w0 : Int32) (f0 : Value) (v1 : Addr) (k1 : ClassId) (y0 y1 y2 y3 : Int32) (h0 : Heap) (n0 : Nat) (v : Option Value) (h : Heap) (L : List Loc) : Prop := ∃ (b : Addr), ∃ (bb : Addr), ∃ (kb : ClassId), v = some (.ref b) ∧ Fr n0 L ∧ h0.size ≤ b ∧ n0 ≤ b ∧ Keep h0 h [] ∧ eS Z h b ∧ fC Z h b ∧ fV Z h b bb ∧ vB Z h bb kb 1 [.int y3]
theorem rmSN4_2 {l : Launch} {Z : State} {a0 : Array Value} (hw : HW Z a0) (a1 nm : Addr) (w0 : Int32) (f0 : Value) (v1 : Addr) (k1 : ClassId) (y0 y1 y2 y3 : Int32) (h0 : Heap) (n0 : Nat) (Z0 : n0 ≤ h0.size) (P0 : Exa Z h0 a1 "com/example/fuller_query/fullerquery/knowledge/ApiTypes$ApiType") (P1 : Fld Z h0 a1 "com/example/fuller_query/fullerquery/knowledge/ApiTypes$ApiType" "name" "Ljava/lang/String;" (.ref nm)) (P2 : sCS Z w0) (P3 : sPF Z f0) (P4 : Old Z n0 h0) (P5 : eS Z h0 nm) (P6 : fC Z h0 nm) (P7 : fV Z h0 nm v1) (P8 : vB Z h0 v1 k1 4 [.int y0, .int y1, .int y2, .int y3]) (hw0 : ¬ w0 = 0) (hf : f0.isRef = true) (hy2 : y2 = (46 : Int32)) (hy3 : ¬ y3 = (46 : Int32)) : own_M l Z ⟨"com/example/fuller_query/fullerquery/knowledge/ApiTypes$ApiType", "simpleName", "()Ljava/lang/String;"⟩ prog_24_method_3_code 1 (some (.object "java/lang/String")) (rmk 6 2 5 115) #[.ref a1] h0 (QSN4_2 Z a1 nm w0 f0 v1 k1 y0 y1 y2 y3 h0 n0) := by
 refine own_body rfl (plainFor_of_name pn_6) ?_
 intro p e s m below meth c s₁ hx hby hml hown hnm hlk hret X0 e0 hZ
 have N0 := Fr.nil n0
 show Go _ p e below s _ _ _ (s₁.setTop (mkF m 0 #[rv a1] []))
 refine c_aloadN X0 hx hby d6_0 rfl rfl <| c_getf X0 hx hby hZ hown (gw hw 38 rfl) Via.refl e0 P1 d6_1 fun T1035 X1035 e1035 => ?_
 refine c_sh 4 [.ref nm] rfl rfl <| c_aloadN X1035 hx hby d6_4 rfl rfl <| c_getf X1035 hx hby hZ hown (gw hw 38 rfl) Via.refl e1035 P1 d6_5 fun T1036 X1036 e1036 => ?_
 refine c_sh 8 [.ref nm, .ref nm] rfl rfl <| c_bipush X1036 hx hby 46 d6_8 rfl <| c_callV X1036 hx hby hZ hown hml (gw hw 45 rfl) (gw hw 46 rfl) (gw hw 48 rfl) (gw hw 47 rfl) (gw hw 49 rfl) (gw hw 4 rfl) P5 e1036 (rmLO4_2 hw nm w0 v1 k1 y0 y1 y2 y3 h0 n0 Z0 P2 P4 P5 P6 P7 P8 hw0 hy2 hy3) pd_22 rfl d6_10 [.ref nm] rfl 1 (by decide) rfl rfl fun o1037 T1037 L1037 X1037 hQ1037 => ?_
 obtain ⟨rfl, N1037q, e1037⟩ := hQ1037
 have N1037 := Fr.app N0 N1037q
 refine c_sh 13 [.int 2, .ref nm] rfl rfl <| c_iconst X1037 hx hby 1 d6_13 rfl <| c_iadd X1037 hx hby d6_14 <| c_sh 15 [.int 3, .ref nm] rfl rfl <| c_callV X1037 hx hby hZ hown hml (gw hw 82 rfl) (gw hw 83 rfl) (gw hw 85 rfl) (gw hw 84 rfl) (gw hw 86 rfl) (gw hw 4 rfl) P5 e1037 (rmSU4_3 hw nm w0 f0 v1 k1 y0 y1 y2 y3 h0 n0 Z0 P2 P3 P4 P5 P6 P7 P8 hw0 hf) pd_23 rfl d6_15 [] rfl 0 (by decide) rfl rfl fun o1038 T1038 L1038 X1038 hQ1038 => ?_
 obtain ⟨b1038, bb1038, kb1038, rfl, N1038q, u1038_0, u1038_1, K1038, u1038_3, u1038_4, u1038_5, u1038_6⟩ := hQ1038
 have N1038 := Fr.app N1037 N1038q
 have G_b1038 := Nat.le_trans Z0 u1038_0
 have KK1038 := (Keep.refl h0 []).trans K1038 all0
 have ZN1038 := Nat.le_trans Z0 K1038.1
 have OL1038 := P4.keep K1038 all0
 refine c_sh 18 [.ref b1038] rfl rfl ?_
 exact c_retA X1038 hx hby hlk hret d6_18 rfl ⟨rfl, rfl⟩ (by decide) rfl ⟨b1038, bb1038, kb1038, rfl, N1038, (Nat.le_trans (Keep.refl h0 []).1 u1038_0), u1038_1, KK1038, u1038_3, u1038_4, u1038_5, u1038_6⟩
def QSN4_3 (Z : State) (a1 nm : Addr) (w0 : Int32) (f0 : Value) (v1 : Addr) (k1 : ClassId) (y0 y1 y2 y3 : Int32) (h0 : Heap) (n0 : Nat) (v : Option Value) (h : Heap) (L : List Loc) : Prop := ∃ (b : Addr), ∃ (bb : Addr), ∃ (kb : ClassId), v = some (.ref b) ∧ Fr n0 L ∧ Keep h0 h [] ∧ eS Z h b ∧ fC Z h b ∧ fV Z h b bb ∧ vB Z h bb kb 0 []
theorem rmSN4_3 {l : Launch} {Z : State} {a0 : Array Value} (hw : HW Z a0) (a1 nm : Addr) (w0 : Int32) (f0 : Value) (v1 : Addr) (k1 : ClassId) (y0 y1 y2 y3 : Int32) (h0 : Heap) (n0 : Nat) (Z0 : n0 ≤ h0.size) (P0 : Exa Z h0 a1 "com/example/fuller_query/fullerquery/knowledge/ApiTypes$ApiType") (P1 : Fld Z h0 a1 "com/example/fuller_query/fullerquery/knowledge/ApiTypes$ApiType" "name" "Ljava/lang/String;" (.ref nm)) (P2 : sCS Z w0) (P3 : sPF Z f0) (P4 : Old Z n0 h0) (P5 : eS Z h0 nm) (P6 : fC Z h0 nm) (P7 : fV Z h0 nm v1) (P8 : vB Z h0 v1 k1 4 [.int y0, .int y1, .int y2, .int y3]) (hw0 : ¬ w0 = 0) (hf : f0.isRef = true) (hy3 : y3 = (46 : Int32)) : own_MH l Z ⟨"com/example/fuller_query/fullerquery/knowledge/ApiTypes$ApiType", "simpleName", "()Ljava/lang/String;"⟩ prog_24_method_3_code 1 (some (.object "java/lang/String")) (rmk 4 2 4 58) #[.ref a1] h0 (QSN4_3 Z a1 nm w0 f0 v1 k1 y0 y1 y2 y3 h0 n0) := by
 refine own_bodyH rfl (plainFor_of_name pn_6) ?_
 intro p e s m below meth c s₁ hx hby hml hown hnm hlk hret X0 e0 hZ hh ch0 hS0
 have N0 := Fr.nil n0
 show Go _ p e below s _ _ _ (s₁.setTop (mkF m 0 #[rv a1] []))
 refine c_aloadN X0 hx hby d6_0 rfl rfl <| c_getf X0 hx hby hZ hown (gw hw 38 rfl) Via.refl e0 P1 d6_1 fun T1043 X1043 e1043 => ?_
 refine c_sh 4 [.ref nm] rfl rfl <| c_aloadN X1043 hx hby d6_4 rfl rfl <| c_getf X1043 hx hby hZ hown (gw hw 38 rfl) Via.refl e1043 P1 d6_5 fun T1044 X1044 e1044 => ?_
 refine c_sh 8 [.ref nm, .ref nm] rfl rfl <| c_bipush X1044 hx hby 46 d6_8 rfl <| c_callV X1044 hx hby hZ hown hml (gw hw 45 rfl) (gw hw 46 rfl) (gw hw 48 rfl) (gw hw 47 rfl) (gw hw 49 rfl) (gw hw 4 rfl) P5 e1044 (rmLO4_3 hw nm w0 v1 k1 y0 y1 y2 y3 h0 n0 Z0 P2 P4 P5 P6 P7 P8 hw0 hy3) pd_22 rfl d6_10 [.ref nm] rfl 1 (by decide) rfl rfl fun o1045 T1045 L1045 X1045 hQ1045 => ?_
 obtain ⟨rfl, N1045q, e1045⟩ := hQ1045
 have N1045 := Fr.app N0 N1045q
 refine c_sh 13 [.int 3, .ref nm] rfl rfl <| c_iconst X1045 hx hby 1 d6_13 rfl <| c_iadd X1045 hx hby d6_14 <| c_sh 15 [.int 4, .ref nm] rfl rfl <| c_callVH X1045 hx hby hZ hown hml (gw hw 82 rfl) (gw hw 83 rfl) (gw hw 85 rfl) (gw hw 84 rfl) (gw hw 86 rfl) (gw hw 4 rfl) P5 e1045 (own_EW hw) ch0 hS0 (Nat.zero_le _) (rmSW4 hw nm w0 f0 v1 k1 y0 y1 y2 y3 h0 n0 Z0 P2 P3 P4 P5 P6 P7 P8 hw0 hf) pd_23 rfl d6_15 [] rfl 0 (by decide) rfl rfl fun o1046 T1046 L1046 X1046 hS1046 hZ hown hR1046 ch1046 hQ1046 => ?_
 obtain ⟨b1046, bb1046, kb1046, rfl, N1046q, K1046, u1046_1, u1046_2, u1046_3, u1046_4⟩ := hQ1046
 have N1046 := Fr.app N1045 N1046q
 have KK1046 := (Keep.refl h0 []).trans K1046 all0
 have ZN1046 := Nat.le_trans Z0 K1046.1
 have OL1046 := P4.keep K1046 all0
 refine c_sh 18 [.ref b1046] rfl rfl ?_
 exact c_retAH X1046 hx hby hZ hlk hret d6_18 rfl ⟨rfl, rfl⟩ (by decide) rfl hh (own_EW hw) ch1046 hS1046 (Nat.le_refl _) ⟨b1046, bb1046, kb1046, rfl, N1046, KK1046, u1046_1, u1046_2, u1046_3, u1046_4⟩
theorem pn_0 : plainName "com/example/fuller_query/fullerquery/knowledge/ApiTypeSimpleNamePinLaw" = true := by first | (simp [plainName, overriddenIn]; done) | decide +kernel
theorem pd_24 : parseMethodDescriptor "([C)V" = some ⟨[(.array .char)], none⟩ := by decide +kernel
theorem pd_25 : parseMethodDescriptor "(C)Ljava/lang/String;" = some ⟨[.char], some (.object "java/lang/String")⟩ := by decide +kernel
theorem pd_26 : parseMethodDescriptor "(Ljava/lang/String;Ljava/lang/String;)V" = some ⟨[(.object "java/lang/String"), (.object "java/lang/String")], none⟩ := by decide +kernel
theorem pd_27 : parseMethodDescriptor "()Ljava/lang/String;" = some ⟨[], some (.object "java/lang/String")⟩ := by decide +kernel
theorem pd_28 : parseMethodDescriptor "(II)C" = some ⟨[.int, .int], some .char⟩ := by decide +kernel
theorem pd_29 : parseMethodDescriptor "(I)C" = some ⟨[.int], some .char⟩ := by decide +kernel
theorem ef_0 (m : MethodId) (p1 : Int32) (p2 : Int32) (p3 : Int32) (p4 : Int32) (p5 : Int32) (p6 : Int32) : entryFrame m #[.int p1, .int p2, .int p3, .int p4, .int p5, .int p6] maxLocals = mkF m 0 #[.val (.int p1), .val (.int p2), .val (.int p3), .val (.int p4), .val (.int p5), .val (.int p6), .unset, .unset, .unset, .unset, .unset, .unset, .unset, .unset] [] := by first | (simp [entryFrame, mkF, argsToLocals, Value.category, maxLocals]; done) | rfl
def Q0 (Z : State) (p1 p2 p3 p4 p5 p6 w0 : Int32) (f0 : Value) (h0 : Heap) (n0 : Nat) (v : Option Value) (h : Heap) (L : List Loc) : Prop := v = some (.int (1 : Int32)) ∧ Fr n0 L
set_option maxRecDepth 65536 in
set_option maxHeartbeats 40000000 in
theorem rm0 (l : Launch) (Z : State) (a0 : Array Value) (hw : HW Z a0) (ws : List Jvm.Cond) (p1 p2 p3 p4 p5 p6 w0 : Int32) (f0 : Value) (h0 : Heap) (n0 : Nat) (Z0 : n0 ≤ h0.size) (P0 : Old Z n0 h0) (P1 : sCS Z w0) (P2 : sPF Z f0) (hw0 : ¬ w0 = 0) (hf : f0.isRef = true) :
    MetFree l x (head1 (Jvm.Cond.code x code maxLocals ret :: ws) room_1) (fun a U => a = #[.int p1, .int p2, .int p3, .int p4, .int p5, .int p6] ∧ Z.Warmed39 U.vm ∧ U.heap = h0 ∧ CHv Z own_EL U.vm h0) (fun _ _ _ _ _ => True) (fun _ U o U' => ∃ v L, o = .returned v ∧ Q0 Z p1 p2 p3 p4 p5 p6 w0 f0 h0 n0 v U'.heap L ∧ CHr Z own_EL U.vm U.heap U'.vm U'.heap ∧ ReturnedEndW U o U' L room_1.cells room_1.slots) := by
 refine MetFree.of_bodySF (plainFor_of_name pn_0) hisR ?_
 intro p e s m args below meth c s₁ Bd hml0 hP hK
 obtain ⟨rfl, hZ, hh, hCH⟩ := hP
 have hx := Bd.exec
 have hby := Bd.bytes
 have hml : c.maxLocals = 14 := hml0
 have hown : s.vm.findClass "com/example/fuller_query/fullerquery/knowledge/ApiTypeSimpleNamePinLaw" = some m.cls := findClass_of_methodNamed Bd.named
 have hnm := (name_of_methodNamed Bd.named Bd.method).1
 have X0 : Stand p l e room_1 (s.setVm s.vm) m #[.int p1, .int p2, .int p3, .int p4, .int p5, .int p6] below meth c s₁ [] 0 0 := Stand.of_body Bd
 have e0 : s₁.heap = h0 := by rw [← hh, Bd.state]; rfl
 have N0 := Fr.nil n0
 have hS0 : s.Since s.vm 0 := (State.WarmedH.refl s).since 0
 have ch0 := CHr.refl hCH
 show Go (own_EndH Z) p e below s room_1.cells room_1.slots (Q0 Z p1 p2 p3 p4 p5 p6 w0 f0 h0 n0) (s₁.setTop (entryFrame m #[.int p1, .int p2, .int p3, .int p4, .int p5, .int p6] maxLocals))
 refine go (fun _ k => castTop (ef_0 m p1 p2 p3 p4 p5 p6) k) ?_
 show Go _ p e below s _ _ _ (s₁.setTop (mkF m 0 #[iv p1, iv p2, iv p3, iv p4, iv p5, iv p6, .unset, .unset, .unset, .unset, .unset, .unset, .unset, .unset] []))
 refine c_iload X0 hx hby at_0 rfl <| c_ldcI X0 hx hby hZ hown (gw hw 0 rfl) at_2 <| c_iand X0 hx hby at_4 <| c_iconst X0 hx hby 5 at_5 rfl <| c_irem X0 hx hby at_6 (by decide) <| c_istore X0 hx hby _ at_7 rfl <| c_shL #[iv p1, iv p2, iv p3, iv p4, iv p5, iv p6, iv ((p5 &&& (2147483647 : Int32)) % (5 : Int32)), .unset, .unset, .unset, .unset, .unset, .unset, .unset] rfl ?_
 have hn5 := own_five p5
 generalize ((p5 &&& (2147483647 : Int32)) % (5 : Int32)) = nn at hn5 ⊢
 rcases hn5 with rfl | rfl | rfl | rfl | rfl
 ·refine c_sh 9 [] rfl rfl <| c_iload X0 hx hby at_9 rfl <| c_newP X0 hx hby hZ (gw hw 1 rfl) e0 at_11 (by decide) 0 (by decide) (by decide) "[C" (by first | rfl | decide) fun T1047 h1047 k1047 b1047 g1047 X1047 e1047 E1047 A1047 AE1047 => ?_
  have G_b1047 := Nat.le_trans Z0 (Nat.le_of_eq g1047.symm)
  have KK1047 := (Keep.refl h0 []).ext E1047
  have ZN1047 := Nat.le_trans Z0 E1047.1
  have HK1047 : 0 ≤ h1047.size := Nat.le_trans (Nat.zero_le _) E1047.1
  have OL1047 := P0.ext E1047
  have ch1047 := ch0.trans (CHr.ext E1047 ch0.1)
  have V1047 : Arv Z h1047 b1047 k1047 .char (0 : Int32) [] (.int (0 : Int32)) := (Arv.new A1047 (by decide)).pad (pad_rep [] (.int (0 : Int32)) 0)
  refine c_sh 13 [.ref b1047] rfl rfl <| c_astore X1047 hx hby _ at_13 rfl rfl <| c_iload X1047 hx hby at_15 rfl <| c_ifYes X1047 hx hby 32 at_17 (by decide) (by decide) <| c_iload X1047 hx hby at_32 rfl <| c_iconst X1047 hx hby 1 at_34 rfl <| c_icmpYes X1047 hx hby 50 at_35 (by decide) (by decide) <| c_iload X1047 hx hby at_50 rfl <| c_iconst X1047 hx hby 2 at_52 rfl <| c_icmpYes X1047 hx hby 68 at_53 (by decide) (by decide) <| c_iload X1047 hx hby at_68 rfl <| c_iconst X1047 hx hby 3 at_70 rfl <| c_icmpYes X1047 hx hby 87 at_71 (by decide) (by decide) <| c_shL #[iv p1, iv p2, iv p3, iv p4, iv p5, iv p6, iv 0, rv b1047, .unset, .unset, .unset, .unset, .unset, .unset] rfl <| c_new X1047 hx hby hZ hown (gw hw 2 rfl) (gw hw 3 rfl) (gw hw 4 rfl) e1047 at_87 (by decide) fun T1048 h1048 b1048 g1048 X1048 e1048 E1048 A1048 D1048 => ?_
  have G_b1048 := Nat.le_trans ZN1047 (Nat.le_of_eq g1048.symm)
  have KK1048 := KK1047.ext E1048
  have ZN1048 := Nat.le_trans ZN1047 E1048.1
  have HK1048 := Nat.le_trans HK1047 E1048.1
  have OL1048 := OL1047.ext E1048
  have sf1048_b1048 := Safe.ext E1048 ch1047.1 (Safe.new (Nat.le_of_eq g1048.symm))
  have ch1048 := ch1047.trans (CHr.ext E1048 ch1047.1)
  refine c_sh 90 [.ref b1048] rfl rfl <| c_dup X1048 hx hby at_90 rfl <| c_aload X1048 hx hby at_91 rfl rfl ?_
  have cc1050 := show Fld Z h1048 b1048 "java/lang/String" "value" "[B" .null from D1048 (Or.inr (gw hw 17 rfl)) (ty := (.array .byte)) (by decide)
  have cc1051 := show fC Z h1048 b1048 from D1048 (Or.inr (gw hw 18 rfl)) (ty := .byte) (by decide)
  have cc1052 := V1047.ext E1048
  have ne1053 : b1048 ≠ b1047 := (Ne.symm (Nat.ne_of_lt (Nat.lt_of_lt_of_le AE1047.lt (Nat.le_of_eq g1048.symm))))
  refine c_initH X1048 hx hby hZ hown hml (gw hw 5 rfl) (gw hw 6 rfl) (gw hw 7 rfl) (gw hw 4 rfl) rfl e1048 (own_EW hw) ch1048 hS0 HK1048 (rmSJ0 hw b1048 b1047 (.int (0 : Int32)) k1047 h1048 n0 ZN1048 A1048 cc1050 cc1051 G_b1048 cc1052 ne1053) pd_24 rfl at_93 [.ref b1048] rfl 1 (by decide) rfl rfl fun o1049 T1049 L1049 X1049 hS1049 hZ hown hR1049 ch1049 hQ1049 => ?_
  have sf1049_b1048 := CHr.safe hR1049 A1048.lt sf1048_b1048
  obtain ⟨b1049, kb1049, rfl, N1049q, K1049, u1049_1, u1049_2, u1049_3⟩ := hQ1049
  have N1049 := Fr.app N0 N1049q
  have KK1049 := KK1048.trans K1049 (allS (P := fun x => x ∈ [] ∨ h0.size ≤ x) (Or.inr (Nat.le_trans KK1047.1 (Nat.le_of_eq g1048.symm))) all0)
  have ZN1049 := Nat.le_trans ZN1048 K1049.1
  have OL1049 := OL1048.keep K1049 (allS G_b1048 all0)
  refine c_sh 96 [.ref b1048] rfl rfl <| c_astore X1049 hx hby _ at_96 rfl rfl <| c_iload X1049 hx hby at_98 rfl <| c_iconst X1049 hx hby 1 at_100 rfl <| c_iand X1049 hx hby at_101 <| c_shL #[iv p1, iv p2, iv p3, iv p4, iv p5, iv p6, iv 0, rv b1047, rv b1048, .unset, .unset, .unset, .unset, .unset] rfl ?_
  by_cases hc102_1054 : (p6 &&& (1 : Int32)) = (0 : Int32)
  ·refine c_ifYes X1049 hx hby 110 at_102 ((if0 _ _).trans (teq hc102_1054).1) (by decide) <| c_iload X1049 hx hby at_110 rfl <| c_iconst X1049 hx hby 1 at_112 rfl <| c_iushr X1049 hx hby at_113 <| c_sipush X1049 hx hby 255 at_114 rfl <| c_iand X1049 hx hby at_117 <| c_i2c X1049 hx hby at_118 ?_
   rw [i2c_mask]
   refine c_sh 119 [.int (((p6.toUInt32 >>> ((1 : Int32) &&& 31).toUInt32).toInt32) &&& (255 : Int32))] rfl rfl <| c_callS X1049 hx hby hZ hown hml (gw hw 115 rfl) (gw hw 116 rfl) (gw hw 4 rfl) (gw hw 117 rfl) rfl (rm23 hw (((p6.toUInt32 >>> ((1 : Int32) &&& 31).toUInt32).toInt32) &&& (255 : Int32)) w0 (T1049.heap) n0 ZN1049 P1 OL1049 hw0 (own_le (own_chm _))) pd_25 rfl at_119 [] rfl 0 (by decide) rfl rfl fun o1055 T1055 L1055 X1055 hQ1055 => ?_
   obtain ⟨b1055, rfl, N1055q, u1055_0, u1055_1, K1055, u1055_3⟩ := hQ1055
   have N1055 := Fr.app N1049 N1055q
   have G_b1055 := Nat.le_trans ZN1049 u1055_0
   have KK1055 := KK1049.trans K1055 all0
   have ZN1055 := Nat.le_trans ZN1049 K1055.1
   have HK1055 : T1049.heap.size ≤ T1055.heap.size := Nat.le_trans (Nat.le_refl _) K1055.1
   have sf1055_b1048 := Safe.keep K1055 all0 ch1049.1 sf1049_b1048
   have ch1055 := ch1049.trans (CHr.keep K1055 all0 ch1049.1)
   have OL1055 := OL1049.keep K1055 all0
   refine c_sh 122 [.ref b1055] rfl rfl <| c_astore X1055 hx hby _ at_122 rfl rfl <| c_shL #[iv p1, iv p2, iv p3, iv p4, iv p5, iv p6, iv 0, rv b1047, rv b1048, rv b1055, .unset, .unset, .unset, .unset] rfl <| c_new X1055 hx hby hZ hown (gw hw 24 rfl) (gw hw 25 rfl) (gw hw 26 rfl) rfl at_124 (by decide) fun T1056 h1056 b1056 g1056 X1056 e1056 E1056 A1056 D1056 => ?_
   have G_b1056 := Nat.le_trans ZN1055 (Nat.le_of_eq g1056.symm)
   have KK1056 := KK1055.ext E1056
   have ZN1056 := Nat.le_trans ZN1055 E1056.1
   have HK1056 := Nat.le_trans HK1055 E1056.1
   have OL1056 := OL1055.ext E1056
   have sf1056_b1048 := Safe.ext E1056 ch1055.1 sf1055_b1048
   have ch1056 := ch1055.trans (CHr.ext E1056 ch1055.1)
   refine c_sh 127 [.ref b1056] rfl rfl <| c_dup X1056 hx hby at_127 rfl <| c_aload X1056 hx hby at_128 rfl rfl <| c_aload X1056 hx hby at_130 rfl rfl ?_
   have cc1058 := show Fld Z h1056 b1056 "com/example/fuller_query/fullerquery/knowledge/ApiTypes$ApiType" "packageName" "Ljava/lang/String;" .null from D1056 (Or.inr (gw hw 37 rfl)) (ty := (.object "java/lang/String")) (by decide)
   have cc1059 := show Fld Z h1056 b1056 "com/example/fuller_query/fullerquery/knowledge/ApiTypes$ApiType" "name" "Ljava/lang/String;" .null from D1056 (Or.inr (gw hw 39 rfl)) (ty := (.object "java/lang/String")) (by decide)
   refine c_init X1056 hx hby hZ hown hml (gw hw 27 rfl) (gw hw 28 rfl) (gw hw 29 rfl) (gw hw 26 rfl) rfl e1056 (rm4 hw b1056 b1055 b1048 .null .null h1056 n0 ZN1056 A1056 cc1058 cc1059 G_b1056) pd_26 rfl at_132 [.ref b1056] rfl 1 (by decide) rfl rfl fun o1057 T1057 L1057 X1057 hQ1057 => ?_
   obtain ⟨rfl, N1057q, K1057, u1057_1⟩ := hQ1057
   have N1057 := Fr.app N1055 N1057q
   have ne1060 : b1047 ≠ b1056 := (Nat.ne_of_lt (Nat.lt_of_lt_of_le (((AE1047.ext E1048).keep K1049).keep K1055).lt (Nat.le_of_eq g1056.symm)))
   have ne1061 : b1048 ≠ b1056 := (Nat.ne_of_lt (Nat.lt_of_lt_of_le ((A1048.keep K1049).keep K1055).lt (Nat.le_of_eq g1056.symm)))
   have ne1062 : b1049 ≠ b1056 := (Nat.ne_of_lt (Nat.lt_of_lt_of_le (u1049_3.keep K1055 nin0).lt (Nat.le_of_eq g1056.symm)))
   have KK1057 := KK1056.trans K1057 (allS (P := fun x => x ∈ [] ∨ h0.size ≤ x) (Or.inr (Nat.le_trans KK1055.1 (Nat.le_of_eq g1056.symm))) all0)
   have ZN1057 := Nat.le_trans ZN1056 K1057.1
   have HK1057 : T1049.heap.size ≤ T1057.heap.size := Nat.le_trans HK1056 K1057.1
   have sf1057_b1048 := Safe.keep K1057 (allS (Safe.exa hZ.alike A1056 (by decide) (by decide)) all0) ch1056.1 sf1056_b1048
   have ch1057 := ch1056.trans (CHr.keep K1057 (allS (Safe.exa hZ.alike A1056 (by decide) (by decide)) all0) ch1056.1)
   have OL1057 := OL1056.keep K1057 (allS G_b1056 all0)
   refine c_sh 135 [.ref b1056] rfl rfl <| c_astore X1057 hx hby _ at_135 rfl rfl <| c_aload X1057 hx hby at_137 rfl rfl <| c_shL #[iv p1, iv p2, iv p3, iv p4, iv p5, iv p6, iv 0, rv b1047, rv b1048, rv b1055, rv b1056, .unset, .unset, .unset] rfl ?_
   have cc1064 := A1056.keep K1057
   have cc1065 := (((A1048.keep K1049).keep K1055).ext E1056).keep K1057
   have cc1066 := ((u1049_2.keep K1055 nin0).ext E1056).keep K1057 (ninS ne1061 nin0)
   have cc1067 := ((u1049_1.keep K1055 nin0).ext E1056).keep K1057 (ninS ne1061 nin0)
   have cc1068 := ((u1049_3.keep K1055 nin0).ext E1056).keep K1057 (ninS ne1062 nin0)
   refine c_callV X1057 hx hby hZ hown hml (gw hw 40 rfl) (gw hw 41 rfl) (gw hw 43 rfl) (gw hw 42 rfl) (gw hw 44 rfl) (gw hw 26 rfl) cc1064 rfl (rmSN0_m1 hw b1056 b1048 w0 f0 b1049 kb1049 (T1057.heap) n0 ZN1057 cc1064 u1057_1 P1 P2 OL1057 cc1065 cc1066 cc1067 cc1068 hw0 hf) pd_27 rfl at_139 [] rfl 0 (by decide) rfl rfl fun o1063 T1063 L1063 X1063 hQ1063 => ?_
   obtain ⟨rfl, N1063q, e1063⟩ := hQ1063
   have N1063 := Fr.app N1057 N1063q
   refine c_sh 142 [.ref b1048] rfl rfl <| c_astore X1063 hx hby _ at_142 rfl rfl <| c_iconst X1063 hx hby (-1) at_144 rfl <| c_istore X1063 hx hby _ at_145 rfl <| c_iload X1063 hx hby at_147 rfl <| c_ifYes X1063 hx hby 164 at_149 (by decide) (by decide) <| c_iload X1063 hx hby at_164 rfl <| c_iconst X1063 hx hby 1 at_166 rfl <| c_icmpYes X1063 hx hby 182 at_167 (by decide) (by decide) <| c_iload X1063 hx hby at_182 rfl <| c_iconst X1063 hx hby 2 at_184 rfl <| c_icmpYes X1063 hx hby 200 at_185 (by decide) (by decide) <| c_iload X1063 hx hby at_200 rfl <| c_iconst X1063 hx hby 3 at_202 rfl <| c_icmpYes X1063 hx hby 218 at_203 (by decide) (by decide) <| c_iload X1063 hx hby at_218 rfl <| c_iload X1063 hx hby at_220 rfl <| c_isub X1063 hx hby at_222 <| c_sh 223 [.int 1] rfl rfl <| c_iconst X1063 hx hby 1 at_223 rfl <| c_isub X1063 hx hby at_224 <| c_sh 225 [.int 0] rfl rfl <| c_istore X1063 hx hby _ at_225 rfl <| c_aload X1063 hx hby at_227 rfl rfl <| c_ifnullNo X1063 hx hby at_229 <| c_aload X1063 hx hby at_232 rfl rfl <| c_shL #[iv p1, iv p2, iv p3, iv p4, iv p5, iv p6, iv 0, rv b1047, rv b1048, rv b1055, rv b1056, rv b1048, iv (-1), iv 0] rfl <| c_callV X1063 hx hby hZ hown hml (gw hw 100 rfl) (gw hw 51 rfl) (gw hw 53 rfl) (gw hw 52 rfl) (gw hw 54 rfl) (gw hw 4 rfl) cc1065 e1063 (rm8 hw b1048 w0 b1049 kb1049 (0 : Int32) [] (T1057.heap) n0 ZN1057 P1 OL1057 cc1065 cc1066 cc1067 cc1068 hw0) pd_3 rfl at_234 [] rfl 0 (by decide) rfl rfl fun o1069 T1069 L1069 X1069 hQ1069 => ?_
   obtain ⟨rfl, N1069q, e1069⟩ := hQ1069
   have N1069 := Fr.app N1063 N1069q
   refine c_sh 237 [.int 0] rfl rfl <| c_iload X1069 hx hby at_237 rfl <| c_icmpYes X1069 hx hby 244 at_239 (teq (rfl : (0 : Int32) = (0 : Int32))).1 (by decide) <| c_iload X1069 hx hby at_244 rfl <| c_ifYes X1069 hx hby 267 at_246 (by decide) (by decide) <| c_iload X1069 hx hby at_267 rfl <| c_iconst X1069 hx hby 1 at_269 rfl <| c_icmpYes X1069 hx hby 291 at_270 (by decide) (by decide) <| c_iload X1069 hx hby at_291 rfl <| c_iconst X1069 hx hby 2 at_293 rfl <| c_icmpYes X1069 hx hby 315 at_294 (by decide) (by decide) <| c_iload X1069 hx hby at_315 rfl <| c_iconst X1069 hx hby 3 at_317 rfl <| c_icmpYes X1069 hx hby 339 at_318 (by decide) (by decide) <| c_iconst X1069 hx hby 1 at_339 rfl ?_
   refine goRetH X1069 hZ (own_EW hw) ch1057 hh e1069 hS1049 HK1057 hx Bd.notSynchronized Bd.returns rfl (Or.inl ⟨rfl, Or.inr (Or.inl rfl), _, rfl⟩) (hb hby at_340) (by decide) (by decide) ⟨rfl, N1069⟩
  ·refine c_ifNo X1049 hx hby at_102 ((if0 _ _).trans (feq hc102_1054).1) ?_
   obtain ⟨t1070, T1070, h1070, k1070, bs1070, ks1070, X1070, e1070, E1070, hS1070, hk1070, hZ, hown, LE1070, LC1070, LV1070, LA1070, -, -, cr1070, -, sn1070, st1070⟩ := ldcCH X1049 hx hZ hown (gw hw 23 rfl) (own_wS hw) rfl hS1049 (Nat.le_refl _) (own_EW hw) (List.mem_of_getElem? (i := 0) rfl) ch1049.1 (vs := []) (z := (0 : Int32)) ⟨by decide, by decide⟩ (by decide) (by decide) (g := (mkF m 105 #[iv p1, iv p2, iv p3, iv p4, iv p5, iv p6, iv 0, rv b1047, rv b1048, .unset, .unset, .unset, .unset, .unset] [])) rfl (hb hby at_105) (n := 0) (by decide) (by decide) (by decide) (by decide)
   have sf1070_b1048 := CHr.safe cr1070 (A1048.keep K1049).lt sf1049_b1048
   have ch1070 := ch1049.trans cr1070
   have KK1070 := KK1049.ext E1070
   have ZN1070 := Nat.le_trans ZN1049 E1070.1
   have OL1070 := OL1049.ext E1070
   refine go st1070 ?_
   show Go _ p e below s _ _ _ (T1070.setTop (mkF m 107 #[iv p1, iv p2, iv p3, iv p4, iv p5, iv p6, iv 0, rv b1047, rv b1048, .unset, .unset, .unset, .unset, .unset] [.ref t1070]))
   refine c_goto X1070 hx hby 122 at_107 (by decide) <| c_astore X1070 hx hby _ at_122 rfl rfl <| c_shL #[iv p1, iv p2, iv p3, iv p4, iv p5, iv p6, iv 0, rv b1047, rv b1048, rv t1070, .unset, .unset, .unset, .unset] rfl <| c_new X1070 hx hby hZ hown (gw hw 24 rfl) (gw hw 25 rfl) (gw hw 26 rfl) e1070 at_124 (by decide) fun T1071 h1071 b1071 g1071 X1071 e1071 E1071 A1071 D1071 => ?_
   have G_b1071 := Nat.le_trans ZN1070 (Nat.le_of_eq g1071.symm)
   have KK1071 := KK1070.ext E1071
   have ZN1071 := Nat.le_trans ZN1070 E1071.1
   have HK1071 := Nat.le_trans hk1070 E1071.1
   have OL1071 := OL1070.ext E1071
   have sf1071_b1048 := Safe.ext E1071 ch1070.1 sf1070_b1048
   have ch1071 := ch1070.trans (CHr.ext E1071 ch1070.1)
   refine c_sh 127 [.ref b1071] rfl rfl <| c_dup X1071 hx hby at_127 rfl <| c_aload X1071 hx hby at_128 rfl rfl <| c_aload X1071 hx hby at_130 rfl rfl ?_
   have cc1073 := show Fld Z h1071 b1071 "com/example/fuller_query/fullerquery/knowledge/ApiTypes$ApiType" "packageName" "Ljava/lang/String;" .null from D1071 (Or.inr (gw hw 37 rfl)) (ty := (.object "java/lang/String")) (by decide)
   have cc1074 := show Fld Z h1071 b1071 "com/example/fuller_query/fullerquery/knowledge/ApiTypes$ApiType" "name" "Ljava/lang/String;" .null from D1071 (Or.inr (gw hw 39 rfl)) (ty := (.object "java/lang/String")) (by decide)
   refine c_init X1071 hx hby hZ hown hml (gw hw 27 rfl) (gw hw 28 rfl) (gw hw 29 rfl) (gw hw 26 rfl) rfl e1071 (rm4 hw b1071 t1070 b1048 .null .null h1071 n0 ZN1071 A1071 cc1073 cc1074 G_b1071) pd_26 rfl at_132 [.ref b1071] rfl 1 (by decide) rfl rfl fun o1072 T1072 L1072 X1072 hQ1072 => ?_
   obtain ⟨rfl, N1072q, K1072, u1072_1⟩ := hQ1072
   have N1072 := Fr.app N1049 N1072q
   have ne1075 : b1047 ≠ b1071 := (Nat.ne_of_lt (Nat.lt_of_lt_of_le (((AE1047.ext E1048).keep K1049).ext E1070).lt (Nat.le_of_eq g1071.symm)))
   have ne1076 : b1048 ≠ b1071 := (Nat.ne_of_lt (Nat.lt_of_lt_of_le ((A1048.keep K1049).ext E1070).lt (Nat.le_of_eq g1071.symm)))
   have ne1077 : b1049 ≠ b1071 := (Nat.ne_of_lt (Nat.lt_of_lt_of_le (u1049_3.ext E1070).lt (Nat.le_of_eq g1071.symm)))
   have ne1078 : t1070 ≠ b1071 := (Nat.ne_of_lt (Nat.lt_of_lt_of_le LE1070.lt (Nat.le_of_eq g1071.symm)))
   have ne1079 : bs1070 ≠ b1071 := (Nat.ne_of_lt (Nat.lt_of_lt_of_le LA1070.lt (Nat.le_of_eq g1071.symm)))
   have KK1072 := KK1071.trans K1072 (allS (P := fun x => x ∈ [] ∨ h0.size ≤ x) (Or.inr (Nat.le_trans KK1070.1 (Nat.le_of_eq g1071.symm))) all0)
   have ZN1072 := Nat.le_trans ZN1071 K1072.1
   have HK1072 : k1070 ≤ T1072.heap.size := Nat.le_trans HK1071 K1072.1
   have sf1072_b1048 := Safe.keep K1072 (allS (Safe.exa hZ.alike A1071 (by decide) (by decide)) all0) ch1071.1 sf1071_b1048
   have ch1072 := ch1071.trans (CHr.keep K1072 (allS (Safe.exa hZ.alike A1071 (by decide) (by decide)) all0) ch1071.1)
   have OL1072 := OL1071.keep K1072 (allS G_b1071 all0)
   refine c_sh 135 [.ref b1071] rfl rfl <| c_astore X1072 hx hby _ at_135 rfl rfl <| c_aload X1072 hx hby at_137 rfl rfl <| c_shL #[iv p1, iv p2, iv p3, iv p4, iv p5, iv p6, iv 0, rv b1047, rv b1048, rv t1070, rv b1071, .unset, .unset, .unset] rfl ?_
   have cc1081 := A1071.keep K1072
   have cc1082 := (((A1048.keep K1049).ext E1070).ext E1071).keep K1072
   have cc1083 := ((u1049_2.ext E1070).ext E1071).keep K1072 (ninS ne1076 nin0)
   have cc1084 := ((u1049_1.ext E1070).ext E1071).keep K1072 (ninS ne1076 nin0)
   have cc1085 := ((u1049_3.ext E1070).ext E1071).keep K1072 (ninS ne1077 nin0)
   refine c_callV X1072 hx hby hZ hown hml (gw hw 40 rfl) (gw hw 41 rfl) (gw hw 43 rfl) (gw hw 42 rfl) (gw hw 44 rfl) (gw hw 26 rfl) cc1081 rfl (rmSN0_m1 hw b1071 b1048 w0 f0 b1049 kb1049 (T1072.heap) n0 ZN1072 cc1081 u1072_1 P1 P2 OL1072 cc1082 cc1083 cc1084 cc1085 hw0 hf) pd_27 rfl at_139 [] rfl 0 (by decide) rfl rfl fun o1080 T1080 L1080 X1080 hQ1080 => ?_
   obtain ⟨rfl, N1080q, e1080⟩ := hQ1080
   have N1080 := Fr.app N1072 N1080q
   refine c_sh 142 [.ref b1048] rfl rfl <| c_astore X1080 hx hby _ at_142 rfl rfl <| c_iconst X1080 hx hby (-1) at_144 rfl <| c_istore X1080 hx hby _ at_145 rfl <| c_iload X1080 hx hby at_147 rfl <| c_ifYes X1080 hx hby 164 at_149 (by decide) (by decide) <| c_iload X1080 hx hby at_164 rfl <| c_iconst X1080 hx hby 1 at_166 rfl <| c_icmpYes X1080 hx hby 182 at_167 (by decide) (by decide) <| c_iload X1080 hx hby at_182 rfl <| c_iconst X1080 hx hby 2 at_184 rfl <| c_icmpYes X1080 hx hby 200 at_185 (by decide) (by decide) <| c_iload X1080 hx hby at_200 rfl <| c_iconst X1080 hx hby 3 at_202 rfl <| c_icmpYes X1080 hx hby 218 at_203 (by decide) (by decide) <| c_iload X1080 hx hby at_218 rfl <| c_iload X1080 hx hby at_220 rfl <| c_isub X1080 hx hby at_222 <| c_sh 223 [.int 1] rfl rfl <| c_iconst X1080 hx hby 1 at_223 rfl <| c_isub X1080 hx hby at_224 <| c_sh 225 [.int 0] rfl rfl <| c_istore X1080 hx hby _ at_225 rfl <| c_aload X1080 hx hby at_227 rfl rfl <| c_ifnullNo X1080 hx hby at_229 <| c_aload X1080 hx hby at_232 rfl rfl <| c_shL #[iv p1, iv p2, iv p3, iv p4, iv p5, iv p6, iv 0, rv b1047, rv b1048, rv t1070, rv b1071, rv b1048, iv (-1), iv 0] rfl <| c_callV X1080 hx hby hZ hown hml (gw hw 100 rfl) (gw hw 51 rfl) (gw hw 53 rfl) (gw hw 52 rfl) (gw hw 54 rfl) (gw hw 4 rfl) cc1082 e1080 (rm8 hw b1048 w0 b1049 kb1049 (0 : Int32) [] (T1072.heap) n0 ZN1072 P1 OL1072 cc1082 cc1083 cc1084 cc1085 hw0) pd_3 rfl at_234 [] rfl 0 (by decide) rfl rfl fun o1086 T1086 L1086 X1086 hQ1086 => ?_
   obtain ⟨rfl, N1086q, e1086⟩ := hQ1086
   have N1086 := Fr.app N1080 N1086q
   refine c_sh 237 [.int 0] rfl rfl <| c_iload X1086 hx hby at_237 rfl <| c_icmpYes X1086 hx hby 244 at_239 (teq (rfl : (0 : Int32) = (0 : Int32))).1 (by decide) <| c_iload X1086 hx hby at_244 rfl <| c_ifYes X1086 hx hby 267 at_246 (by decide) (by decide) <| c_iload X1086 hx hby at_267 rfl <| c_iconst X1086 hx hby 1 at_269 rfl <| c_icmpYes X1086 hx hby 291 at_270 (by decide) (by decide) <| c_iload X1086 hx hby at_291 rfl <| c_iconst X1086 hx hby 2 at_293 rfl <| c_icmpYes X1086 hx hby 315 at_294 (by decide) (by decide) <| c_iload X1086 hx hby at_315 rfl <| c_iconst X1086 hx hby 3 at_317 rfl <| c_icmpYes X1086 hx hby 339 at_318 (by decide) (by decide) <| c_iconst X1086 hx hby 1 at_339 rfl ?_
   refine goRetH X1086 hZ (own_EW hw) ch1072 hh e1086 hS1070 HK1072 hx Bd.notSynchronized Bd.returns rfl (Or.inl ⟨rfl, Or.inr (Or.inl rfl), _, rfl⟩) (hb hby at_340) (by decide) (by decide) ⟨rfl, N1086⟩
 ·refine c_sh 9 [] rfl rfl <| c_iload X0 hx hby at_9 rfl <| c_newP X0 hx hby hZ (gw hw 1 rfl) e0 at_11 (by decide) 1 (by decide) (by decide) "[C" (by first | rfl | decide) fun T1087 h1087 k1087 b1087 g1087 X1087 e1087 E1087 A1087 AE1087 => ?_
  have G_b1087 := Nat.le_trans Z0 (Nat.le_of_eq g1087.symm)
  have KK1087 := (Keep.refl h0 []).ext E1087
  have ZN1087 := Nat.le_trans Z0 E1087.1
  have HK1087 : 0 ≤ h1087.size := Nat.le_trans (Nat.zero_le _) E1087.1
  have OL1087 := P0.ext E1087
  have ch1087 := ch0.trans (CHr.ext E1087 ch0.1)
  have V1087 : Arv Z h1087 b1087 k1087 .char (1 : Int32) [(.int (0 : Int32))] (.int (0 : Int32)) := (Arv.new A1087 (by decide)).pad (pad_rep [] (.int (0 : Int32)) 1)
  refine c_sh 13 [.ref b1087] rfl rfl <| c_astore X1087 hx hby _ at_13 rfl rfl <| c_iload X1087 hx hby at_15 rfl <| c_ifNo X1087 hx hby at_17 (by decide) <| c_aload X1087 hx hby at_20 rfl rfl <| c_iconst X1087 hx hby 0 at_22 rfl <| c_iloadN X1087 hx hby at_23 rfl <| c_iload X1087 hx hby at_24 rfl <| c_iconst X1087 hx hby 3 at_26 rfl <| c_iushr X1087 hx hby at_27 <| c_shL #[iv p1, iv p2, iv p3, iv p4, iv p5, iv p6, iv 1, rv b1087, .unset, .unset, .unset, .unset, .unset, .unset] rfl <| c_callS X1087 hx hby hZ hown hml (gw hw 101 rfl) (gw hw 102 rfl) (gw hw 103 rfl) (gw hw 104 rfl) e1087 (rmPK hw p1 ((p5.toUInt32 >>> ((3 : Int32) &&& 31).toUInt32).toInt32) h1087 n0 ZN1087 ) pd_28 rfl at_28 [.int 0, .ref b1087] rfl 2 (by decide) rfl rfl fun o1088 T1088 L1088 X1088 hQ1088 => ?_
  obtain ⟨c1088, rfl, N1088q, e1088, u1088_1⟩ := hQ1088
  have N1088 := Fr.app N0 N1088q
  refine c_sh 31 [.int c1088, .int 0, .ref b1087] rfl rfl <| c_cst X1088 hx hby hZ e1088 V1087 (by decide) 0 rfl (Nat.le_of_ble_eq_true rfl) at_31 fun T1089 h1089 X1089 e1089 W1089 V1089 => ?_
  rw [own_nc u1088_1] at V1089
  have V1089 : Arv Z h1089 b1087 k1087 .char (1 : Int32) [(.int c1088)] (.int (0 : Int32)) := V1089
  have KK1089 := KK1087.wr W1089 (Or.inr (Nat.le_trans (Keep.refl h0 []).1 (Nat.le_of_eq g1087.symm)))
  have ZN1089 := Nat.le_trans ZN1087 (Keep.of_wr W1089).1
  have HK1089 : 0 ≤ h1089.size := Nat.le_trans HK1087 (Keep.of_wr W1089).1
  have NN1089 := Fr.snoc X1089 N1088 G_b1087
  have OL1089 := OL1087.wr W1089 G_b1087
  have ch1089 := ch1087.trans (CHr.wr W1089 (Safe.exa hZ.alike AE1087 (by decide) (by decide)) ch1087.1)
  refine c_sh 32 [] rfl rfl <| c_iload X1089 hx hby at_32 rfl <| c_iconst X1089 hx hby 1 at_34 rfl <| c_icmpYes X1089 hx hby 50 at_35 (by decide) (by decide) <| c_iload X1089 hx hby at_50 rfl <| c_iconst X1089 hx hby 2 at_52 rfl <| c_icmpYes X1089 hx hby 68 at_53 (by decide) (by decide) <| c_iload X1089 hx hby at_68 rfl <| c_iconst X1089 hx hby 3 at_70 rfl <| c_icmpYes X1089 hx hby 87 at_71 (by decide) (by decide) <| c_new X1089 hx hby hZ hown (gw hw 2 rfl) (gw hw 3 rfl) (gw hw 4 rfl) e1089 at_87 (by decide) fun T1090 h1090 b1090 g1090 X1090 e1090 E1090 A1090 D1090 => ?_
  have G_b1090 := Nat.le_trans ZN1089 (Nat.le_of_eq g1090.symm)
  have KK1090 := KK1089.ext E1090
  have ZN1090 := Nat.le_trans ZN1089 E1090.1
  have HK1090 := Nat.le_trans HK1089 E1090.1
  have OL1090 := OL1089.ext E1090
  have sf1090_b1090 := Safe.ext E1090 ch1089.1 (Safe.new (Nat.le_of_eq g1090.symm))
  have ch1090 := ch1089.trans (CHr.ext E1090 ch1089.1)
  refine c_sh 90 [.ref b1090] rfl rfl <| c_dup X1090 hx hby at_90 rfl <| c_aload X1090 hx hby at_91 rfl rfl ?_
  have cc1092 := show Fld Z h1090 b1090 "java/lang/String" "value" "[B" .null from D1090 (Or.inr (gw hw 17 rfl)) (ty := (.array .byte)) (by decide)
  have cc1093 := show fC Z h1090 b1090 from D1090 (Or.inr (gw hw 18 rfl)) (ty := .byte) (by decide)
  have cc1094 := V1089.ext E1090
  have ne1095 : b1090 ≠ b1087 := (Ne.symm (Nat.ne_of_lt (Nat.lt_of_lt_of_le (AE1087.wr W1089).lt (Nat.le_of_eq g1090.symm))))
  refine c_init X1090 hx hby hZ hown hml (gw hw 5 rfl) (gw hw 6 rfl) (gw hw 7 rfl) (gw hw 4 rfl) rfl e1090 (rmSJ1 hw b1090 b1087 w0 .null (.int (0 : Int32)) k1087 c1088 h1090 n0 ZN1090 P1 OL1090 A1090 cc1092 cc1093 G_b1090 cc1094 ne1095 hw0 u1088_1) pd_24 rfl at_93 [.ref b1090] rfl 1 (by decide) rfl rfl fun o1091 T1091 L1091 X1091 hQ1091 => ?_
  obtain ⟨b1091, kb1091, rfl, N1091q, K1091, u1091_1, u1091_2, u1091_3, u1091_4, u1091_5, u1091_6⟩ := hQ1091
  have N1091 := Fr.app NN1089 N1091q
  have G_b1091 := Nat.le_trans ZN1090 u1091_1
  have KK1091 := KK1090.trans K1091 (allS (P := fun x => x ∈ [] ∨ h0.size ≤ x) (Or.inr (Nat.le_trans KK1089.1 (Nat.le_of_eq g1090.symm))) all0)
  have ZN1091 := Nat.le_trans ZN1090 K1091.1
  have HK1091 : 0 ≤ T1091.heap.size := Nat.le_trans HK1090 K1091.1
  have sf1091_b1090 := Safe.keep K1091 (allS sf1090_b1090 all0) ch1090.1 sf1090_b1090
  have ch1091 := ch1090.trans (CHr.keep K1091 (allS sf1090_b1090 all0) ch1090.1)
  have OL1091 := OL1090.keep K1091 (allS G_b1090 all0)
  refine c_sh 96 [.ref b1090] rfl rfl <| c_astore X1091 hx hby _ at_96 rfl rfl <| c_iload X1091 hx hby at_98 rfl <| c_iconst X1091 hx hby 1 at_100 rfl <| c_iand X1091 hx hby at_101 <| c_shL #[iv p1, iv p2, iv p3, iv p4, iv p5, iv p6, iv 1, rv b1087, rv b1090, .unset, .unset, .unset, .unset, .unset] rfl ?_
  by_cases hc102_1096 : (p6 &&& (1 : Int32)) = (0 : Int32)
  ·refine c_ifYes X1091 hx hby 110 at_102 ((if0 _ _).trans (teq hc102_1096).1) (by decide) <| c_iload X1091 hx hby at_110 rfl <| c_iconst X1091 hx hby 1 at_112 rfl <| c_iushr X1091 hx hby at_113 <| c_sipush X1091 hx hby 255 at_114 rfl <| c_iand X1091 hx hby at_117 <| c_i2c X1091 hx hby at_118 ?_
   rw [i2c_mask]
   refine c_sh 119 [.int (((p6.toUInt32 >>> ((1 : Int32) &&& 31).toUInt32).toInt32) &&& (255 : Int32))] rfl rfl <| c_callS X1091 hx hby hZ hown hml (gw hw 115 rfl) (gw hw 116 rfl) (gw hw 4 rfl) (gw hw 117 rfl) rfl (rm23 hw (((p6.toUInt32 >>> ((1 : Int32) &&& 31).toUInt32).toInt32) &&& (255 : Int32)) w0 (T1091.heap) n0 ZN1091 P1 OL1091 hw0 (own_le (own_chm _))) pd_25 rfl at_119 [] rfl 0 (by decide) rfl rfl fun o1097 T1097 L1097 X1097 hQ1097 => ?_
   obtain ⟨b1097, rfl, N1097q, u1097_0, u1097_1, K1097, u1097_3⟩ := hQ1097
   have N1097 := Fr.app N1091 N1097q
   have G_b1097 := Nat.le_trans ZN1091 u1097_0
   have KK1097 := KK1091.trans K1097 all0
   have ZN1097 := Nat.le_trans ZN1091 K1097.1
   have HK1097 : 0 ≤ T1097.heap.size := Nat.le_trans HK1091 K1097.1
   have sf1097_b1090 := Safe.keep K1097 all0 ch1091.1 sf1091_b1090
   have ch1097 := ch1091.trans (CHr.keep K1097 all0 ch1091.1)
   have OL1097 := OL1091.keep K1097 all0
   refine c_sh 122 [.ref b1097] rfl rfl <| c_astore X1097 hx hby _ at_122 rfl rfl <| c_shL #[iv p1, iv p2, iv p3, iv p4, iv p5, iv p6, iv 1, rv b1087, rv b1090, rv b1097, .unset, .unset, .unset, .unset] rfl <| c_new X1097 hx hby hZ hown (gw hw 24 rfl) (gw hw 25 rfl) (gw hw 26 rfl) rfl at_124 (by decide) fun T1098 h1098 b1098 g1098 X1098 e1098 E1098 A1098 D1098 => ?_
   have G_b1098 := Nat.le_trans ZN1097 (Nat.le_of_eq g1098.symm)
   have KK1098 := KK1097.ext E1098
   have ZN1098 := Nat.le_trans ZN1097 E1098.1
   have HK1098 := Nat.le_trans HK1097 E1098.1
   have OL1098 := OL1097.ext E1098
   have sf1098_b1090 := Safe.ext E1098 ch1097.1 sf1097_b1090
   have ch1098 := ch1097.trans (CHr.ext E1098 ch1097.1)
   refine c_sh 127 [.ref b1098] rfl rfl <| c_dup X1098 hx hby at_127 rfl <| c_aload X1098 hx hby at_128 rfl rfl <| c_aload X1098 hx hby at_130 rfl rfl ?_
   have cc1100 := show Fld Z h1098 b1098 "com/example/fuller_query/fullerquery/knowledge/ApiTypes$ApiType" "packageName" "Ljava/lang/String;" .null from D1098 (Or.inr (gw hw 37 rfl)) (ty := (.object "java/lang/String")) (by decide)
   have cc1101 := show Fld Z h1098 b1098 "com/example/fuller_query/fullerquery/knowledge/ApiTypes$ApiType" "name" "Ljava/lang/String;" .null from D1098 (Or.inr (gw hw 39 rfl)) (ty := (.object "java/lang/String")) (by decide)
   refine c_init X1098 hx hby hZ hown hml (gw hw 27 rfl) (gw hw 28 rfl) (gw hw 29 rfl) (gw hw 26 rfl) rfl e1098 (rm4 hw b1098 b1097 b1090 .null .null h1098 n0 ZN1098 A1098 cc1100 cc1101 G_b1098) pd_26 rfl at_132 [.ref b1098] rfl 1 (by decide) rfl rfl fun o1099 T1099 L1099 X1099 hQ1099 => ?_
   obtain ⟨rfl, N1099q, K1099, u1099_1⟩ := hQ1099
   have N1099 := Fr.app N1097 N1099q
   have ne1102 : b1087 ≠ b1098 := (Nat.ne_of_lt (Nat.lt_of_lt_of_le ((((AE1087.wr W1089).ext E1090).keep K1091).keep K1097).lt (Nat.le_of_eq g1098.symm)))
   have ne1103 : b1091 ≠ b1098 := (Nat.ne_of_lt (Nat.lt_of_lt_of_le (u1091_3.keep K1097).lt (Nat.le_of_eq g1098.symm)))
   have ne1104 : b1090 ≠ b1098 := (Nat.ne_of_lt (Nat.lt_of_lt_of_le ((A1090.keep K1091).keep K1097).lt (Nat.le_of_eq g1098.symm)))
   have KK1099 := KK1098.trans K1099 (allS (P := fun x => x ∈ [] ∨ h0.size ≤ x) (Or.inr (Nat.le_trans KK1097.1 (Nat.le_of_eq g1098.symm))) all0)
   have ZN1099 := Nat.le_trans ZN1098 K1099.1
   have HK1099 : 0 ≤ T1099.heap.size := Nat.le_trans HK1098 K1099.1
   have sf1099_b1090 := Safe.keep K1099 (allS (Safe.exa hZ.alike A1098 (by decide) (by decide)) all0) ch1098.1 sf1098_b1090
   have ch1099 := ch1098.trans (CHr.keep K1099 (allS (Safe.exa hZ.alike A1098 (by decide) (by decide)) all0) ch1098.1)
   have OL1099 := OL1098.keep K1099 (allS G_b1098 all0)
   refine c_sh 135 [.ref b1098] rfl rfl <| c_astore X1099 hx hby _ at_135 rfl rfl <| c_shL #[iv p1, iv p2, iv p3, iv p4, iv p5, iv p6, iv 1, rv b1087, rv b1090, rv b1097, rv b1098, .unset, .unset, .unset] rfl ?_
   by_cases hk0_1105 : c1088 = (46 : Int32)
   ·refine c_aload X1099 hx hby at_137 rfl rfl ?_
    have cc1107 := A1098.keep K1099
    have cc1108 := (((A1090.keep K1091).keep K1097).ext E1098).keep K1099
    have cc1109 := ((u1091_6.keep K1097 nin0).ext E1098).keep K1099 (ninS ne1104 nin0)
    have cc1110 := ((u1091_5.keep K1097 nin0).ext E1098).keep K1099 (ninS ne1104 nin0)
    have cc1111 := ((u1091_4.keep K1097 nin0).ext E1098).keep K1099 (ninS ne1103 nin0)
    refine c_callVH X1099 hx hby hZ hown hml (gw hw 40 rfl) (gw hw 41 rfl) (gw hw 43 rfl) (gw hw 42 rfl) (gw hw 44 rfl) (gw hw 26 rfl) cc1107 rfl (own_EW hw) ch1099 hS0 HK1099 (rmSN1_0 hw b1098 b1090 w0 f0 b1091 kb1091 (c1088.toInt8.toInt32) (T1099.heap) n0 ZN1099 cc1107 u1099_1 P1 P2 OL1099 cc1108 cc1109 cc1110 cc1111 hw0 hf ((own_46 u1088_1).mpr hk0_1105)) pd_27 rfl at_139 [] rfl 0 (by decide) rfl rfl fun o1106 T1106 L1106 X1106 hS1106 hZ hown hR1106 ch1106 hQ1106 => ?_
    have sf1106_b1090 := CHr.safe hR1106 cc1108.lt sf1099_b1090
    obtain ⟨b1106, bb1106, kb1106, rfl, N1106q, K1106, u1106_1, u1106_2, u1106_3, u1106_4⟩ := hQ1106
    have N1106 := Fr.app N1099 N1106q
    have KK1106 := KK1099.trans K1106 all0
    have ZN1106 := Nat.le_trans ZN1099 K1106.1
    have OL1106 := OL1099.keep K1106 all0
    refine c_sh 142 [.ref b1106] rfl rfl <| c_astore X1106 hx hby _ at_142 rfl rfl <| c_iconst X1106 hx hby (-1) at_144 rfl <| c_istore X1106 hx hby _ at_145 rfl <| c_iload X1106 hx hby at_147 rfl <| c_ifNo X1106 hx hby at_149 (by decide) <| c_aload X1106 hx hby at_152 rfl rfl <| c_iconst X1106 hx hby 0 at_154 rfl <| c_shL #[iv p1, iv p2, iv p3, iv p4, iv p5, iv p6, iv 1, rv b1087, rv b1090, rv b1097, rv b1098, rv b1106, iv (-1), .unset] rfl ?_
    have cc1112 := ((((cc1094.keep K1091 (ninS (Ne.symm ne1095) nin0)).keep K1097 nin0).ext E1098).keep K1099 (ninS ne1102 nin0)).keep K1106 nin0
    refine c_cal X1106 hx hby hZ rfl cc1112 (by decide) (.int c1088) rfl at_155 <| c_bipush X1106 hx hby 46 at_156 rfl <| c_icmpNo X1106 hx hby at_158 (teq hk0_1105).2 <| c_iconst X1106 hx hby 0 at_161 rfl <| c_istore X1106 hx hby _ at_162 rfl <| c_iload X1106 hx hby at_164 rfl <| c_iconst X1106 hx hby 1 at_166 rfl <| c_icmpYes X1106 hx hby 182 at_167 (by decide) (by decide) <| c_iload X1106 hx hby at_182 rfl <| c_iconst X1106 hx hby 2 at_184 rfl <| c_icmpYes X1106 hx hby 200 at_185 (by decide) (by decide) <| c_iload X1106 hx hby at_200 rfl <| c_iconst X1106 hx hby 3 at_202 rfl <| c_icmpYes X1106 hx hby 218 at_203 (by decide) (by decide) <| c_iload X1106 hx hby at_218 rfl <| c_iload X1106 hx hby at_220 rfl <| c_isub X1106 hx hby at_222 <| c_sh 223 [.int 1] rfl rfl <| c_iconst X1106 hx hby 1 at_223 rfl <| c_isub X1106 hx hby at_224 <| c_sh 225 [.int 0] rfl rfl <| c_istore X1106 hx hby _ at_225 rfl <| c_aload X1106 hx hby at_227 rfl rfl <| c_ifnullNo X1106 hx hby at_229 <| c_aload X1106 hx hby at_232 rfl rfl <| c_shL #[iv p1, iv p2, iv p3, iv p4, iv p5, iv p6, iv 1, rv b1087, rv b1090, rv b1097, rv b1098, rv b1106, iv 0, iv 0] rfl <| c_callV X1106 hx hby hZ hown hml (gw hw 100 rfl) (gw hw 51 rfl) (gw hw 53 rfl) (gw hw 52 rfl) (gw hw 54 rfl) (gw hw 4 rfl) u1106_1 rfl (rm8 hw b1106 w0 bb1106 kb1106 (0 : Int32) [] (T1106.heap) n0 ZN1106 P1 OL1106 u1106_1 u1106_2 u1106_3 u1106_4 hw0) pd_3 rfl at_234 [] rfl 0 (by decide) rfl rfl fun o1113 T1113 L1113 X1113 hQ1113 => ?_
    obtain ⟨rfl, N1113q, e1113⟩ := hQ1113
    have N1113 := Fr.app N1106 N1113q
    refine c_sh 237 [.int 0] rfl rfl <| c_iload X1113 hx hby at_237 rfl <| c_icmpYes X1113 hx hby 244 at_239 (teq (rfl : (0 : Int32) = (0 : Int32))).1 (by decide) <| c_iload X1113 hx hby at_244 rfl <| c_ifYes X1113 hx hby 267 at_246 (by decide) (by decide) <| c_iload X1113 hx hby at_267 rfl <| c_iconst X1113 hx hby 1 at_269 rfl <| c_icmpYes X1113 hx hby 291 at_270 (by decide) (by decide) <| c_iload X1113 hx hby at_291 rfl <| c_iconst X1113 hx hby 2 at_293 rfl <| c_icmpYes X1113 hx hby 315 at_294 (by decide) (by decide) <| c_iload X1113 hx hby at_315 rfl <| c_iconst X1113 hx hby 3 at_317 rfl <| c_icmpYes X1113 hx hby 339 at_318 (by decide) (by decide) <| c_iconst X1113 hx hby 1 at_339 rfl ?_
    refine goRetH X1113 hZ (own_EW hw) ch1106 hh e1113 hS1106 (Nat.le_refl _) hx Bd.notSynchronized Bd.returns rfl (Or.inl ⟨rfl, Or.inr (Or.inl rfl), _, rfl⟩) (hb hby at_340) (by decide) (by decide) ⟨rfl, N1113⟩
   ·refine c_aload X1099 hx hby at_137 rfl rfl ?_
    have cc1115 := A1098.keep K1099
    have cc1116 := (((A1090.keep K1091).keep K1097).ext E1098).keep K1099
    have cc1117 := ((u1091_6.keep K1097 nin0).ext E1098).keep K1099 (ninS ne1104 nin0)
    have cc1118 := ((u1091_5.keep K1097 nin0).ext E1098).keep K1099 (ninS ne1104 nin0)
    have cc1119 := ((u1091_4.keep K1097 nin0).ext E1098).keep K1099 (ninS ne1103 nin0)
    refine c_callV X1099 hx hby hZ hown hml (gw hw 40 rfl) (gw hw 41 rfl) (gw hw 43 rfl) (gw hw 42 rfl) (gw hw 44 rfl) (gw hw 26 rfl) cc1115 rfl (rmSN1_m1 hw b1098 b1090 w0 f0 b1091 kb1091 (c1088.toInt8.toInt32) (T1099.heap) n0 ZN1099 cc1115 u1099_1 P1 P2 OL1099 cc1116 cc1117 cc1118 cc1119 hw0 hf (fun qq => hk0_1105 ((own_46 u1088_1).mp qq))) pd_27 rfl at_139 [] rfl 0 (by decide) rfl rfl fun o1114 T1114 L1114 X1114 hQ1114 => ?_
    obtain ⟨rfl, N1114q, e1114⟩ := hQ1114
    have N1114 := Fr.app N1099 N1114q
    refine c_sh 142 [.ref b1090] rfl rfl <| c_astore X1114 hx hby _ at_142 rfl rfl <| c_iconst X1114 hx hby (-1) at_144 rfl <| c_istore X1114 hx hby _ at_145 rfl <| c_iload X1114 hx hby at_147 rfl <| c_ifNo X1114 hx hby at_149 (by decide) <| c_aload X1114 hx hby at_152 rfl rfl <| c_iconst X1114 hx hby 0 at_154 rfl <| c_shL #[iv p1, iv p2, iv p3, iv p4, iv p5, iv p6, iv 1, rv b1087, rv b1090, rv b1097, rv b1098, rv b1090, iv (-1), .unset] rfl ?_
    have cc1120 := (((cc1094.keep K1091 (ninS (Ne.symm ne1095) nin0)).keep K1097 nin0).ext E1098).keep K1099 (ninS ne1102 nin0)
    refine c_cal X1114 hx hby hZ e1114 cc1120 (by decide) (.int c1088) rfl at_155 <| c_bipush X1114 hx hby 46 at_156 rfl <| c_icmpYes X1114 hx hby 164 at_158 (feq hk0_1105).2 (by decide) <| c_iload X1114 hx hby at_164 rfl <| c_iconst X1114 hx hby 1 at_166 rfl <| c_icmpYes X1114 hx hby 182 at_167 (by decide) (by decide) <| c_iload X1114 hx hby at_182 rfl <| c_iconst X1114 hx hby 2 at_184 rfl <| c_icmpYes X1114 hx hby 200 at_185 (by decide) (by decide) <| c_iload X1114 hx hby at_200 rfl <| c_iconst X1114 hx hby 3 at_202 rfl <| c_icmpYes X1114 hx hby 218 at_203 (by decide) (by decide) <| c_iload X1114 hx hby at_218 rfl <| c_iload X1114 hx hby at_220 rfl <| c_isub X1114 hx hby at_222 <| c_sh 223 [.int 2] rfl rfl <| c_iconst X1114 hx hby 1 at_223 rfl <| c_isub X1114 hx hby at_224 <| c_sh 225 [.int 1] rfl rfl <| c_istore X1114 hx hby _ at_225 rfl <| c_aload X1114 hx hby at_227 rfl rfl <| c_ifnullNo X1114 hx hby at_229 <| c_aload X1114 hx hby at_232 rfl rfl <| c_shL #[iv p1, iv p2, iv p3, iv p4, iv p5, iv p6, iv 1, rv b1087, rv b1090, rv b1097, rv b1098, rv b1090, iv (-1), iv 1] rfl <| c_callV X1114 hx hby hZ hown hml (gw hw 100 rfl) (gw hw 51 rfl) (gw hw 53 rfl) (gw hw 52 rfl) (gw hw 54 rfl) (gw hw 4 rfl) cc1116 e1114 (rm8 hw b1090 w0 b1091 kb1091 (1 : Int32) [(.int (c1088.toInt8.toInt32))] (T1099.heap) n0 ZN1099 P1 OL1099 cc1116 cc1117 cc1118 cc1119 hw0) pd_3 rfl at_234 [] rfl 0 (by decide) rfl rfl fun o1121 T1121 L1121 X1121 hQ1121 => ?_
    obtain ⟨rfl, N1121q, e1121⟩ := hQ1121
    have N1121 := Fr.app N1114 N1121q
    refine c_sh 237 [.int 1] rfl rfl <| c_iload X1121 hx hby at_237 rfl <| c_icmpYes X1121 hx hby 244 at_239 (teq (rfl : (1 : Int32) = (1 : Int32))).1 (by decide) <| c_iload X1121 hx hby at_244 rfl <| c_ifNo X1121 hx hby at_246 (by decide) <| c_aload X1121 hx hby at_249 rfl rfl <| c_iconst X1121 hx hby 0 at_251 rfl <| c_callV X1121 hx hby hZ hown hml (gw hw 148 rfl) (gw hw 149 rfl) (gw hw 151 rfl) (gw hw 150 rfl) (gw hw 152 rfl) (gw hw 4 rfl) cc1116 e1121 (rm31 hw b1090 (0 : Int32) w0 f0 b1091 kb1091 (1 : Int32) [(.int (c1088.toInt8.toInt32))] (c1088.toInt8.toInt32) (T1099.heap) n0 ZN1099 P1 P2 OL1099 cc1116 cc1117 cc1118 cc1119 hw0 (by decide) (by decide) rfl hf) pd_29 rfl at_252 [] rfl 0 (by decide) rfl rfl fun o1122 T1122 L1122 X1122 hQ1122 => ?_
    obtain ⟨rfl, N1122q, e1122⟩ := hQ1122
    have N1122 := Fr.app N1121 N1122q
    refine c_sh 255 [.int (((c1088.toInt8.toInt32) &&& (255 : Int32)).toUInt32.toUInt16.toUInt32.toInt32)] rfl rfl <| c_aload X1122 hx hby at_255 rfl rfl <| c_iload X1122 hx hby at_257 rfl <| c_iconst X1122 hx hby 1 at_259 rfl <| c_iadd X1122 hx hby at_260 <| c_sh 261 [.int 0, .ref b1087, .int (((c1088.toInt8.toInt32) &&& (255 : Int32)).toUInt32.toUInt16.toUInt32.toInt32)] rfl rfl <| c_cal X1122 hx hby hZ e1122 cc1120 (by decide) (.int c1088) rfl at_261 <| c_icmpYes X1122 hx hby 267 at_262 (teq (own_bk u1088_1)).1 (by decide) <| c_iload X1122 hx hby at_267 rfl <| c_iconst X1122 hx hby 1 at_269 rfl <| c_icmpYes X1122 hx hby 291 at_270 (by decide) (by decide) <| c_iload X1122 hx hby at_291 rfl <| c_iconst X1122 hx hby 2 at_293 rfl <| c_icmpYes X1122 hx hby 315 at_294 (by decide) (by decide) <| c_iload X1122 hx hby at_315 rfl <| c_iconst X1122 hx hby 3 at_317 rfl <| c_icmpYes X1122 hx hby 339 at_318 (by decide) (by decide) <| c_iconst X1122 hx hby 1 at_339 rfl ?_
    refine goRetH X1122 hZ (own_EW hw) ch1099 hh e1122 hS0 HK1099 hx Bd.notSynchronized Bd.returns rfl (Or.inl ⟨rfl, Or.inr (Or.inl rfl), _, rfl⟩) (hb hby at_340) (by decide) (by decide) ⟨rfl, N1122⟩
  ·refine c_ifNo X1091 hx hby at_102 ((if0 _ _).trans (feq hc102_1096).1) ?_
   obtain ⟨t1123, T1123, h1123, k1123, bs1123, ks1123, X1123, e1123, E1123, hS1123, hk1123, hZ, hown, LE1123, LC1123, LV1123, LA1123, -, -, cr1123, -, sn1123, st1123⟩ := ldcCH X1091 hx hZ hown (gw hw 23 rfl) (own_wS hw) rfl hS0 HK1091 (own_EW hw) (List.mem_of_getElem? (i := 0) rfl) ch1091.1 (vs := []) (z := (0 : Int32)) ⟨by decide, by decide⟩ (by decide) (by decide) (g := (mkF m 105 #[iv p1, iv p2, iv p3, iv p4, iv p5, iv p6, iv 1, rv b1087, rv b1090, .unset, .unset, .unset, .unset, .unset] [])) rfl (hb hby at_105) (n := 0) (by decide) (by decide) (by decide) (by decide)
   have sf1123_b1090 := CHr.safe cr1123 (A1090.keep K1091).lt sf1091_b1090
   have ch1123 := ch1091.trans cr1123
   have KK1123 := KK1091.ext E1123
   have ZN1123 := Nat.le_trans ZN1091 E1123.1
   have OL1123 := OL1091.ext E1123
   refine go st1123 ?_
   show Go _ p e below s _ _ _ (T1123.setTop (mkF m 107 #[iv p1, iv p2, iv p3, iv p4, iv p5, iv p6, iv 1, rv b1087, rv b1090, .unset, .unset, .unset, .unset, .unset] [.ref t1123]))
   refine c_goto X1123 hx hby 122 at_107 (by decide) <| c_astore X1123 hx hby _ at_122 rfl rfl <| c_shL #[iv p1, iv p2, iv p3, iv p4, iv p5, iv p6, iv 1, rv b1087, rv b1090, rv t1123, .unset, .unset, .unset, .unset] rfl <| c_new X1123 hx hby hZ hown (gw hw 24 rfl) (gw hw 25 rfl) (gw hw 26 rfl) e1123 at_124 (by decide) fun T1124 h1124 b1124 g1124 X1124 e1124 E1124 A1124 D1124 => ?_
   have G_b1124 := Nat.le_trans ZN1123 (Nat.le_of_eq g1124.symm)
   have KK1124 := KK1123.ext E1124
   have ZN1124 := Nat.le_trans ZN1123 E1124.1
   have HK1124 := Nat.le_trans hk1123 E1124.1
   have OL1124 := OL1123.ext E1124
   have sf1124_b1090 := Safe.ext E1124 ch1123.1 sf1123_b1090
   have ch1124 := ch1123.trans (CHr.ext E1124 ch1123.1)
   refine c_sh 127 [.ref b1124] rfl rfl <| c_dup X1124 hx hby at_127 rfl <| c_aload X1124 hx hby at_128 rfl rfl <| c_aload X1124 hx hby at_130 rfl rfl ?_
   have cc1126 := show Fld Z h1124 b1124 "com/example/fuller_query/fullerquery/knowledge/ApiTypes$ApiType" "packageName" "Ljava/lang/String;" .null from D1124 (Or.inr (gw hw 37 rfl)) (ty := (.object "java/lang/String")) (by decide)
   have cc1127 := show Fld Z h1124 b1124 "com/example/fuller_query/fullerquery/knowledge/ApiTypes$ApiType" "name" "Ljava/lang/String;" .null from D1124 (Or.inr (gw hw 39 rfl)) (ty := (.object "java/lang/String")) (by decide)
   refine c_init X1124 hx hby hZ hown hml (gw hw 27 rfl) (gw hw 28 rfl) (gw hw 29 rfl) (gw hw 26 rfl) rfl e1124 (rm4 hw b1124 t1123 b1090 .null .null h1124 n0 ZN1124 A1124 cc1126 cc1127 G_b1124) pd_26 rfl at_132 [.ref b1124] rfl 1 (by decide) rfl rfl fun o1125 T1125 L1125 X1125 hQ1125 => ?_
   obtain ⟨rfl, N1125q, K1125, u1125_1⟩ := hQ1125
   have N1125 := Fr.app N1091 N1125q
   have ne1128 : b1087 ≠ b1124 := (Nat.ne_of_lt (Nat.lt_of_lt_of_le ((((AE1087.wr W1089).ext E1090).keep K1091).ext E1123).lt (Nat.le_of_eq g1124.symm)))
   have ne1129 : b1091 ≠ b1124 := (Nat.ne_of_lt (Nat.lt_of_lt_of_le (u1091_3.ext E1123).lt (Nat.le_of_eq g1124.symm)))
   have ne1130 : b1090 ≠ b1124 := (Nat.ne_of_lt (Nat.lt_of_lt_of_le ((A1090.keep K1091).ext E1123).lt (Nat.le_of_eq g1124.symm)))
   have ne1131 : t1123 ≠ b1124 := (Nat.ne_of_lt (Nat.lt_of_lt_of_le LE1123.lt (Nat.le_of_eq g1124.symm)))
   have ne1132 : bs1123 ≠ b1124 := (Nat.ne_of_lt (Nat.lt_of_lt_of_le LA1123.lt (Nat.le_of_eq g1124.symm)))
   have KK1125 := KK1124.trans K1125 (allS (P := fun x => x ∈ [] ∨ h0.size ≤ x) (Or.inr (Nat.le_trans KK1123.1 (Nat.le_of_eq g1124.symm))) all0)
   have ZN1125 := Nat.le_trans ZN1124 K1125.1
   have HK1125 : k1123 ≤ T1125.heap.size := Nat.le_trans HK1124 K1125.1
   have sf1125_b1090 := Safe.keep K1125 (allS (Safe.exa hZ.alike A1124 (by decide) (by decide)) all0) ch1124.1 sf1124_b1090
   have ch1125 := ch1124.trans (CHr.keep K1125 (allS (Safe.exa hZ.alike A1124 (by decide) (by decide)) all0) ch1124.1)
   have OL1125 := OL1124.keep K1125 (allS G_b1124 all0)
   refine c_sh 135 [.ref b1124] rfl rfl <| c_astore X1125 hx hby _ at_135 rfl rfl <| c_shL #[iv p1, iv p2, iv p3, iv p4, iv p5, iv p6, iv 1, rv b1087, rv b1090, rv t1123, rv b1124, .unset, .unset, .unset] rfl ?_
   by_cases hk0_1133 : c1088 = (46 : Int32)
   ·refine c_aload X1125 hx hby at_137 rfl rfl ?_
    have cc1135 := A1124.keep K1125
    have cc1136 := (((A1090.keep K1091).ext E1123).ext E1124).keep K1125
    have cc1137 := ((u1091_6.ext E1123).ext E1124).keep K1125 (ninS ne1130 nin0)
    have cc1138 := ((u1091_5.ext E1123).ext E1124).keep K1125 (ninS ne1130 nin0)
    have cc1139 := ((u1091_4.ext E1123).ext E1124).keep K1125 (ninS ne1129 nin0)
    refine c_callVH X1125 hx hby hZ hown hml (gw hw 40 rfl) (gw hw 41 rfl) (gw hw 43 rfl) (gw hw 42 rfl) (gw hw 44 rfl) (gw hw 26 rfl) cc1135 rfl (own_EW hw) ch1125 hS1123 HK1125 (rmSN1_0 hw b1124 b1090 w0 f0 b1091 kb1091 (c1088.toInt8.toInt32) (T1125.heap) n0 ZN1125 cc1135 u1125_1 P1 P2 OL1125 cc1136 cc1137 cc1138 cc1139 hw0 hf ((own_46 u1088_1).mpr hk0_1133)) pd_27 rfl at_139 [] rfl 0 (by decide) rfl rfl fun o1134 T1134 L1134 X1134 hS1134 hZ hown hR1134 ch1134 hQ1134 => ?_
    have sf1134_b1090 := CHr.safe hR1134 cc1136.lt sf1125_b1090
    obtain ⟨b1134, bb1134, kb1134, rfl, N1134q, K1134, u1134_1, u1134_2, u1134_3, u1134_4⟩ := hQ1134
    have N1134 := Fr.app N1125 N1134q
    have KK1134 := KK1125.trans K1134 all0
    have ZN1134 := Nat.le_trans ZN1125 K1134.1
    have OL1134 := OL1125.keep K1134 all0
    refine c_sh 142 [.ref b1134] rfl rfl <| c_astore X1134 hx hby _ at_142 rfl rfl <| c_iconst X1134 hx hby (-1) at_144 rfl <| c_istore X1134 hx hby _ at_145 rfl <| c_iload X1134 hx hby at_147 rfl <| c_ifNo X1134 hx hby at_149 (by decide) <| c_aload X1134 hx hby at_152 rfl rfl <| c_iconst X1134 hx hby 0 at_154 rfl <| c_shL #[iv p1, iv p2, iv p3, iv p4, iv p5, iv p6, iv 1, rv b1087, rv b1090, rv t1123, rv b1124, rv b1134, iv (-1), .unset] rfl ?_
    have cc1140 := ((((cc1094.keep K1091 (ninS (Ne.symm ne1095) nin0)).ext E1123).ext E1124).keep K1125 (ninS ne1128 nin0)).keep K1134 nin0
    refine c_cal X1134 hx hby hZ rfl cc1140 (by decide) (.int c1088) rfl at_155 <| c_bipush X1134 hx hby 46 at_156 rfl <| c_icmpNo X1134 hx hby at_158 (teq hk0_1133).2 <| c_iconst X1134 hx hby 0 at_161 rfl <| c_istore X1134 hx hby _ at_162 rfl <| c_iload X1134 hx hby at_164 rfl <| c_iconst X1134 hx hby 1 at_166 rfl <| c_icmpYes X1134 hx hby 182 at_167 (by decide) (by decide) <| c_iload X1134 hx hby at_182 rfl <| c_iconst X1134 hx hby 2 at_184 rfl <| c_icmpYes X1134 hx hby 200 at_185 (by decide) (by decide) <| c_iload X1134 hx hby at_200 rfl <| c_iconst X1134 hx hby 3 at_202 rfl <| c_icmpYes X1134 hx hby 218 at_203 (by decide) (by decide) <| c_iload X1134 hx hby at_218 rfl <| c_iload X1134 hx hby at_220 rfl <| c_isub X1134 hx hby at_222 <| c_sh 223 [.int 1] rfl rfl <| c_iconst X1134 hx hby 1 at_223 rfl <| c_isub X1134 hx hby at_224 <| c_sh 225 [.int 0] rfl rfl <| c_istore X1134 hx hby _ at_225 rfl <| c_aload X1134 hx hby at_227 rfl rfl <| c_ifnullNo X1134 hx hby at_229 <| c_aload X1134 hx hby at_232 rfl rfl <| c_shL #[iv p1, iv p2, iv p3, iv p4, iv p5, iv p6, iv 1, rv b1087, rv b1090, rv t1123, rv b1124, rv b1134, iv 0, iv 0] rfl <| c_callV X1134 hx hby hZ hown hml (gw hw 100 rfl) (gw hw 51 rfl) (gw hw 53 rfl) (gw hw 52 rfl) (gw hw 54 rfl) (gw hw 4 rfl) u1134_1 rfl (rm8 hw b1134 w0 bb1134 kb1134 (0 : Int32) [] (T1134.heap) n0 ZN1134 P1 OL1134 u1134_1 u1134_2 u1134_3 u1134_4 hw0) pd_3 rfl at_234 [] rfl 0 (by decide) rfl rfl fun o1141 T1141 L1141 X1141 hQ1141 => ?_
    obtain ⟨rfl, N1141q, e1141⟩ := hQ1141
    have N1141 := Fr.app N1134 N1141q
    refine c_sh 237 [.int 0] rfl rfl <| c_iload X1141 hx hby at_237 rfl <| c_icmpYes X1141 hx hby 244 at_239 (teq (rfl : (0 : Int32) = (0 : Int32))).1 (by decide) <| c_iload X1141 hx hby at_244 rfl <| c_ifYes X1141 hx hby 267 at_246 (by decide) (by decide) <| c_iload X1141 hx hby at_267 rfl <| c_iconst X1141 hx hby 1 at_269 rfl <| c_icmpYes X1141 hx hby 291 at_270 (by decide) (by decide) <| c_iload X1141 hx hby at_291 rfl <| c_iconst X1141 hx hby 2 at_293 rfl <| c_icmpYes X1141 hx hby 315 at_294 (by decide) (by decide) <| c_iload X1141 hx hby at_315 rfl <| c_iconst X1141 hx hby 3 at_317 rfl <| c_icmpYes X1141 hx hby 339 at_318 (by decide) (by decide) <| c_iconst X1141 hx hby 1 at_339 rfl ?_
    refine goRetH X1141 hZ (own_EW hw) ch1134 hh e1141 hS1134 (Nat.le_refl _) hx Bd.notSynchronized Bd.returns rfl (Or.inl ⟨rfl, Or.inr (Or.inl rfl), _, rfl⟩) (hb hby at_340) (by decide) (by decide) ⟨rfl, N1141⟩
   ·refine c_aload X1125 hx hby at_137 rfl rfl ?_
    have cc1143 := A1124.keep K1125
    have cc1144 := (((A1090.keep K1091).ext E1123).ext E1124).keep K1125
    have cc1145 := ((u1091_6.ext E1123).ext E1124).keep K1125 (ninS ne1130 nin0)
    have cc1146 := ((u1091_5.ext E1123).ext E1124).keep K1125 (ninS ne1130 nin0)
    have cc1147 := ((u1091_4.ext E1123).ext E1124).keep K1125 (ninS ne1129 nin0)
    refine c_callV X1125 hx hby hZ hown hml (gw hw 40 rfl) (gw hw 41 rfl) (gw hw 43 rfl) (gw hw 42 rfl) (gw hw 44 rfl) (gw hw 26 rfl) cc1143 rfl (rmSN1_m1 hw b1124 b1090 w0 f0 b1091 kb1091 (c1088.toInt8.toInt32) (T1125.heap) n0 ZN1125 cc1143 u1125_1 P1 P2 OL1125 cc1144 cc1145 cc1146 cc1147 hw0 hf (fun qq => hk0_1133 ((own_46 u1088_1).mp qq))) pd_27 rfl at_139 [] rfl 0 (by decide) rfl rfl fun o1142 T1142 L1142 X1142 hQ1142 => ?_
    obtain ⟨rfl, N1142q, e1142⟩ := hQ1142
    have N1142 := Fr.app N1125 N1142q
    refine c_sh 142 [.ref b1090] rfl rfl <| c_astore X1142 hx hby _ at_142 rfl rfl <| c_iconst X1142 hx hby (-1) at_144 rfl <| c_istore X1142 hx hby _ at_145 rfl <| c_iload X1142 hx hby at_147 rfl <| c_ifNo X1142 hx hby at_149 (by decide) <| c_aload X1142 hx hby at_152 rfl rfl <| c_iconst X1142 hx hby 0 at_154 rfl <| c_shL #[iv p1, iv p2, iv p3, iv p4, iv p5, iv p6, iv 1, rv b1087, rv b1090, rv t1123, rv b1124, rv b1090, iv (-1), .unset] rfl ?_
    have cc1148 := (((cc1094.keep K1091 (ninS (Ne.symm ne1095) nin0)).ext E1123).ext E1124).keep K1125 (ninS ne1128 nin0)
    refine c_cal X1142 hx hby hZ e1142 cc1148 (by decide) (.int c1088) rfl at_155 <| c_bipush X1142 hx hby 46 at_156 rfl <| c_icmpYes X1142 hx hby 164 at_158 (feq hk0_1133).2 (by decide) <| c_iload X1142 hx hby at_164 rfl <| c_iconst X1142 hx hby 1 at_166 rfl <| c_icmpYes X1142 hx hby 182 at_167 (by decide) (by decide) <| c_iload X1142 hx hby at_182 rfl <| c_iconst X1142 hx hby 2 at_184 rfl <| c_icmpYes X1142 hx hby 200 at_185 (by decide) (by decide) <| c_iload X1142 hx hby at_200 rfl <| c_iconst X1142 hx hby 3 at_202 rfl <| c_icmpYes X1142 hx hby 218 at_203 (by decide) (by decide) <| c_iload X1142 hx hby at_218 rfl <| c_iload X1142 hx hby at_220 rfl <| c_isub X1142 hx hby at_222 <| c_sh 223 [.int 2] rfl rfl <| c_iconst X1142 hx hby 1 at_223 rfl <| c_isub X1142 hx hby at_224 <| c_sh 225 [.int 1] rfl rfl <| c_istore X1142 hx hby _ at_225 rfl <| c_aload X1142 hx hby at_227 rfl rfl <| c_ifnullNo X1142 hx hby at_229 <| c_aload X1142 hx hby at_232 rfl rfl <| c_shL #[iv p1, iv p2, iv p3, iv p4, iv p5, iv p6, iv 1, rv b1087, rv b1090, rv t1123, rv b1124, rv b1090, iv (-1), iv 1] rfl <| c_callV X1142 hx hby hZ hown hml (gw hw 100 rfl) (gw hw 51 rfl) (gw hw 53 rfl) (gw hw 52 rfl) (gw hw 54 rfl) (gw hw 4 rfl) cc1144 e1142 (rm8 hw b1090 w0 b1091 kb1091 (1 : Int32) [(.int (c1088.toInt8.toInt32))] (T1125.heap) n0 ZN1125 P1 OL1125 cc1144 cc1145 cc1146 cc1147 hw0) pd_3 rfl at_234 [] rfl 0 (by decide) rfl rfl fun o1149 T1149 L1149 X1149 hQ1149 => ?_
    obtain ⟨rfl, N1149q, e1149⟩ := hQ1149
    have N1149 := Fr.app N1142 N1149q
    refine c_sh 237 [.int 1] rfl rfl <| c_iload X1149 hx hby at_237 rfl <| c_icmpYes X1149 hx hby 244 at_239 (teq (rfl : (1 : Int32) = (1 : Int32))).1 (by decide) <| c_iload X1149 hx hby at_244 rfl <| c_ifNo X1149 hx hby at_246 (by decide) <| c_aload X1149 hx hby at_249 rfl rfl <| c_iconst X1149 hx hby 0 at_251 rfl <| c_callV X1149 hx hby hZ hown hml (gw hw 148 rfl) (gw hw 149 rfl) (gw hw 151 rfl) (gw hw 150 rfl) (gw hw 152 rfl) (gw hw 4 rfl) cc1144 e1149 (rm31 hw b1090 (0 : Int32) w0 f0 b1091 kb1091 (1 : Int32) [(.int (c1088.toInt8.toInt32))] (c1088.toInt8.toInt32) (T1125.heap) n0 ZN1125 P1 P2 OL1125 cc1144 cc1145 cc1146 cc1147 hw0 (by decide) (by decide) rfl hf) pd_29 rfl at_252 [] rfl 0 (by decide) rfl rfl fun o1150 T1150 L1150 X1150 hQ1150 => ?_
    obtain ⟨rfl, N1150q, e1150⟩ := hQ1150
    have N1150 := Fr.app N1149 N1150q
    refine c_sh 255 [.int (((c1088.toInt8.toInt32) &&& (255 : Int32)).toUInt32.toUInt16.toUInt32.toInt32)] rfl rfl <| c_aload X1150 hx hby at_255 rfl rfl <| c_iload X1150 hx hby at_257 rfl <| c_iconst X1150 hx hby 1 at_259 rfl <| c_iadd X1150 hx hby at_260 <| c_sh 261 [.int 0, .ref b1087, .int (((c1088.toInt8.toInt32) &&& (255 : Int32)).toUInt32.toUInt16.toUInt32.toInt32)] rfl rfl <| c_cal X1150 hx hby hZ e1150 cc1148 (by decide) (.int c1088) rfl at_261 <| c_icmpYes X1150 hx hby 267 at_262 (teq (own_bk u1088_1)).1 (by decide) <| c_iload X1150 hx hby at_267 rfl <| c_iconst X1150 hx hby 1 at_269 rfl <| c_icmpYes X1150 hx hby 291 at_270 (by decide) (by decide) <| c_iload X1150 hx hby at_291 rfl <| c_iconst X1150 hx hby 2 at_293 rfl <| c_icmpYes X1150 hx hby 315 at_294 (by decide) (by decide) <| c_iload X1150 hx hby at_315 rfl <| c_iconst X1150 hx hby 3 at_317 rfl <| c_icmpYes X1150 hx hby 339 at_318 (by decide) (by decide) <| c_iconst X1150 hx hby 1 at_339 rfl ?_
    refine goRetH X1150 hZ (own_EW hw) ch1125 hh e1150 hS1123 HK1125 hx Bd.notSynchronized Bd.returns rfl (Or.inl ⟨rfl, Or.inr (Or.inl rfl), _, rfl⟩) (hb hby at_340) (by decide) (by decide) ⟨rfl, N1150⟩
 ·refine c_sh 9 [] rfl rfl <| c_iload X0 hx hby at_9 rfl <| c_newP X0 hx hby hZ (gw hw 1 rfl) e0 at_11 (by decide) 2 (by decide) (by decide) "[C" (by first | rfl | decide) fun T1151 h1151 k1151 b1151 g1151 X1151 e1151 E1151 A1151 AE1151 => ?_
  have G_b1151 := Nat.le_trans Z0 (Nat.le_of_eq g1151.symm)
  have KK1151 := (Keep.refl h0 []).ext E1151
  have ZN1151 := Nat.le_trans Z0 E1151.1
  have HK1151 : 0 ≤ h1151.size := Nat.le_trans (Nat.zero_le _) E1151.1
  have OL1151 := P0.ext E1151
  have ch1151 := ch0.trans (CHr.ext E1151 ch0.1)
  have V1151 : Arv Z h1151 b1151 k1151 .char (2 : Int32) [(.int (0 : Int32)), (.int (0 : Int32))] (.int (0 : Int32)) := (Arv.new A1151 (by decide)).pad (pad_rep [] (.int (0 : Int32)) 2)
  refine c_sh 13 [.ref b1151] rfl rfl <| c_astore X1151 hx hby _ at_13 rfl rfl <| c_iload X1151 hx hby at_15 rfl <| c_ifNo X1151 hx hby at_17 (by decide) <| c_aload X1151 hx hby at_20 rfl rfl <| c_iconst X1151 hx hby 0 at_22 rfl <| c_iloadN X1151 hx hby at_23 rfl <| c_iload X1151 hx hby at_24 rfl <| c_iconst X1151 hx hby 3 at_26 rfl <| c_iushr X1151 hx hby at_27 <| c_shL #[iv p1, iv p2, iv p3, iv p4, iv p5, iv p6, iv 2, rv b1151, .unset, .unset, .unset, .unset, .unset, .unset] rfl <| c_callS X1151 hx hby hZ hown hml (gw hw 101 rfl) (gw hw 102 rfl) (gw hw 103 rfl) (gw hw 104 rfl) e1151 (rmPK hw p1 ((p5.toUInt32 >>> ((3 : Int32) &&& 31).toUInt32).toInt32) h1151 n0 ZN1151 ) pd_28 rfl at_28 [.int 0, .ref b1151] rfl 2 (by decide) rfl rfl fun o1152 T1152 L1152 X1152 hQ1152 => ?_
  obtain ⟨c1152, rfl, N1152q, e1152, u1152_1⟩ := hQ1152
  have N1152 := Fr.app N0 N1152q
  refine c_sh 31 [.int c1152, .int 0, .ref b1151] rfl rfl <| c_cst X1152 hx hby hZ e1152 V1151 (by decide) 0 rfl (Nat.le_of_ble_eq_true rfl) at_31 fun T1153 h1153 X1153 e1153 W1153 V1153 => ?_
  rw [own_nc u1152_1] at V1153
  have V1153 : Arv Z h1153 b1151 k1151 .char (2 : Int32) [(.int c1152), (.int (0 : Int32))] (.int (0 : Int32)) := V1153
  have KK1153 := KK1151.wr W1153 (Or.inr (Nat.le_trans (Keep.refl h0 []).1 (Nat.le_of_eq g1151.symm)))
  have ZN1153 := Nat.le_trans ZN1151 (Keep.of_wr W1153).1
  have HK1153 : 0 ≤ h1153.size := Nat.le_trans HK1151 (Keep.of_wr W1153).1
  have NN1153 := Fr.snoc X1153 N1152 G_b1151
  have OL1153 := OL1151.wr W1153 G_b1151
  have ch1153 := ch1151.trans (CHr.wr W1153 (Safe.exa hZ.alike AE1151 (by decide) (by decide)) ch1151.1)
  refine c_sh 32 [] rfl rfl <| c_iload X1153 hx hby at_32 rfl <| c_iconst X1153 hx hby 1 at_34 rfl <| c_icmpNo X1153 hx hby at_35 (by decide) <| c_aload X1153 hx hby at_38 rfl rfl <| c_iconst X1153 hx hby 1 at_40 rfl <| c_iloadN X1153 hx hby at_41 rfl <| c_iload X1153 hx hby at_42 rfl <| c_iconst X1153 hx hby 4 at_44 rfl <| c_iushr X1153 hx hby at_45 <| c_callS X1153 hx hby hZ hown hml (gw hw 101 rfl) (gw hw 102 rfl) (gw hw 103 rfl) (gw hw 104 rfl) e1153 (rmPK hw p2 ((p5.toUInt32 >>> ((4 : Int32) &&& 31).toUInt32).toInt32) h1153 n0 ZN1153 ) pd_28 rfl at_46 [.int 1, .ref b1151] rfl 2 (by decide) rfl rfl fun o1154 T1154 L1154 X1154 hQ1154 => ?_
  obtain ⟨c1154, rfl, N1154q, e1154, u1154_1⟩ := hQ1154
  have N1154 := Fr.app NN1153 N1154q
  refine c_sh 49 [.int c1154, .int 1, .ref b1151] rfl rfl <| c_cst X1154 hx hby hZ e1154 V1153 (by decide) 1 rfl (Nat.le_of_ble_eq_true rfl) at_49 fun T1155 h1155 X1155 e1155 W1155 V1155 => ?_
  rw [own_nc u1154_1] at V1155
  have V1155 : Arv Z h1155 b1151 k1151 .char (2 : Int32) [(.int c1152), (.int c1154)] (.int (0 : Int32)) := V1155
  have cc1156 := AE1151.wr W1153
  have KK1155 := KK1153.wr W1155 (Or.inr (Nat.le_trans (Keep.refl h0 []).1 (Nat.le_of_eq g1151.symm)))
  have ZN1155 := Nat.le_trans ZN1153 (Keep.of_wr W1155).1
  have HK1155 : 0 ≤ h1155.size := Nat.le_trans HK1153 (Keep.of_wr W1155).1
  have NN1155 := Fr.snoc X1155 N1154 G_b1151
  have OL1155 := OL1153.wr W1155 G_b1151
  have ch1155 := ch1153.trans (CHr.wr W1155 (Safe.exa hZ.alike cc1156 (by decide) (by decide)) ch1153.1)
  refine c_sh 50 [] rfl rfl <| c_iload X1155 hx hby at_50 rfl <| c_iconst X1155 hx hby 2 at_52 rfl <| c_icmpYes X1155 hx hby 68 at_53 (by decide) (by decide) <| c_iload X1155 hx hby at_68 rfl <| c_iconst X1155 hx hby 3 at_70 rfl <| c_icmpYes X1155 hx hby 87 at_71 (by decide) (by decide) <| c_new X1155 hx hby hZ hown (gw hw 2 rfl) (gw hw 3 rfl) (gw hw 4 rfl) e1155 at_87 (by decide) fun T1157 h1157 b1157 g1157 X1157 e1157 E1157 A1157 D1157 => ?_
  have G_b1157 := Nat.le_trans ZN1155 (Nat.le_of_eq g1157.symm)
  have KK1157 := KK1155.ext E1157
  have ZN1157 := Nat.le_trans ZN1155 E1157.1
  have HK1157 := Nat.le_trans HK1155 E1157.1
  have OL1157 := OL1155.ext E1157
  have sf1157_b1157 := Safe.ext E1157 ch1155.1 (Safe.new (Nat.le_of_eq g1157.symm))
  have ch1157 := ch1155.trans (CHr.ext E1157 ch1155.1)
  refine c_sh 90 [.ref b1157] rfl rfl <| c_dup X1157 hx hby at_90 rfl <| c_aload X1157 hx hby at_91 rfl rfl ?_
  have cc1159 := show Fld Z h1157 b1157 "java/lang/String" "value" "[B" .null from D1157 (Or.inr (gw hw 17 rfl)) (ty := (.array .byte)) (by decide)
  have cc1160 := show fC Z h1157 b1157 from D1157 (Or.inr (gw hw 18 rfl)) (ty := .byte) (by decide)
  have cc1161 := V1155.ext E1157
  have ne1162 : b1157 ≠ b1151 := (Ne.symm (Nat.ne_of_lt (Nat.lt_of_lt_of_le (cc1156.wr W1155).lt (Nat.le_of_eq g1157.symm))))
  refine c_init X1157 hx hby hZ hown hml (gw hw 5 rfl) (gw hw 6 rfl) (gw hw 7 rfl) (gw hw 4 rfl) rfl e1157 (rmSJ2 hw b1157 b1151 w0 .null (.int (0 : Int32)) k1151 c1152 c1154 h1157 n0 ZN1157 P1 OL1157 A1157 cc1159 cc1160 G_b1157 cc1161 ne1162 hw0 u1152_1 u1154_1) pd_24 rfl at_93 [.ref b1157] rfl 1 (by decide) rfl rfl fun o1158 T1158 L1158 X1158 hQ1158 => ?_
  obtain ⟨b1158, kb1158, rfl, N1158q, K1158, u1158_1, u1158_2, u1158_3, u1158_4, u1158_5, u1158_6⟩ := hQ1158
  have N1158 := Fr.app NN1155 N1158q
  have G_b1158 := Nat.le_trans ZN1157 u1158_1
  have KK1158 := KK1157.trans K1158 (allS (P := fun x => x ∈ [] ∨ h0.size ≤ x) (Or.inr (Nat.le_trans KK1155.1 (Nat.le_of_eq g1157.symm))) all0)
  have ZN1158 := Nat.le_trans ZN1157 K1158.1
  have HK1158 : 0 ≤ T1158.heap.size := Nat.le_trans HK1157 K1158.1
  have sf1158_b1157 := Safe.keep K1158 (allS sf1157_b1157 all0) ch1157.1 sf1157_b1157
  have ch1158 := ch1157.trans (CHr.keep K1158 (allS sf1157_b1157 all0) ch1157.1)
  have OL1158 := OL1157.keep K1158 (allS G_b1157 all0)
  refine c_sh 96 [.ref b1157] rfl rfl <| c_astore X1158 hx hby _ at_96 rfl rfl <| c_iload X1158 hx hby at_98 rfl <| c_iconst X1158 hx hby 1 at_100 rfl <| c_iand X1158 hx hby at_101 <| c_shL #[iv p1, iv p2, iv p3, iv p4, iv p5, iv p6, iv 2, rv b1151, rv b1157, .unset, .unset, .unset, .unset, .unset] rfl ?_
  by_cases hc102_1163 : (p6 &&& (1 : Int32)) = (0 : Int32)
  ·refine c_ifYes X1158 hx hby 110 at_102 ((if0 _ _).trans (teq hc102_1163).1) (by decide) <| c_iload X1158 hx hby at_110 rfl <| c_iconst X1158 hx hby 1 at_112 rfl <| c_iushr X1158 hx hby at_113 <| c_sipush X1158 hx hby 255 at_114 rfl <| c_iand X1158 hx hby at_117 <| c_i2c X1158 hx hby at_118 ?_
   rw [i2c_mask]
   refine c_sh 119 [.int (((p6.toUInt32 >>> ((1 : Int32) &&& 31).toUInt32).toInt32) &&& (255 : Int32))] rfl rfl <| c_callS X1158 hx hby hZ hown hml (gw hw 115 rfl) (gw hw 116 rfl) (gw hw 4 rfl) (gw hw 117 rfl) rfl (rm23 hw (((p6.toUInt32 >>> ((1 : Int32) &&& 31).toUInt32).toInt32) &&& (255 : Int32)) w0 (T1158.heap) n0 ZN1158 P1 OL1158 hw0 (own_le (own_chm _))) pd_25 rfl at_119 [] rfl 0 (by decide) rfl rfl fun o1164 T1164 L1164 X1164 hQ1164 => ?_
   obtain ⟨b1164, rfl, N1164q, u1164_0, u1164_1, K1164, u1164_3⟩ := hQ1164
   have N1164 := Fr.app N1158 N1164q
   have G_b1164 := Nat.le_trans ZN1158 u1164_0
   have KK1164 := KK1158.trans K1164 all0
   have ZN1164 := Nat.le_trans ZN1158 K1164.1
   have HK1164 : 0 ≤ T1164.heap.size := Nat.le_trans HK1158 K1164.1
   have sf1164_b1157 := Safe.keep K1164 all0 ch1158.1 sf1158_b1157
   have ch1164 := ch1158.trans (CHr.keep K1164 all0 ch1158.1)
   have OL1164 := OL1158.keep K1164 all0
   refine c_sh 122 [.ref b1164] rfl rfl <| c_astore X1164 hx hby _ at_122 rfl rfl <| c_shL #[iv p1, iv p2, iv p3, iv p4, iv p5, iv p6, iv 2, rv b1151, rv b1157, rv b1164, .unset, .unset, .unset, .unset] rfl <| c_new X1164 hx hby hZ hown (gw hw 24 rfl) (gw hw 25 rfl) (gw hw 26 rfl) rfl at_124 (by decide) fun T1165 h1165 b1165 g1165 X1165 e1165 E1165 A1165 D1165 => ?_
   have G_b1165 := Nat.le_trans ZN1164 (Nat.le_of_eq g1165.symm)
   have KK1165 := KK1164.ext E1165
   have ZN1165 := Nat.le_trans ZN1164 E1165.1
   have HK1165 := Nat.le_trans HK1164 E1165.1
   have OL1165 := OL1164.ext E1165
   have sf1165_b1157 := Safe.ext E1165 ch1164.1 sf1164_b1157
   have ch1165 := ch1164.trans (CHr.ext E1165 ch1164.1)
   refine c_sh 127 [.ref b1165] rfl rfl <| c_dup X1165 hx hby at_127 rfl <| c_aload X1165 hx hby at_128 rfl rfl <| c_aload X1165 hx hby at_130 rfl rfl ?_
   have cc1167 := show Fld Z h1165 b1165 "com/example/fuller_query/fullerquery/knowledge/ApiTypes$ApiType" "packageName" "Ljava/lang/String;" .null from D1165 (Or.inr (gw hw 37 rfl)) (ty := (.object "java/lang/String")) (by decide)
   have cc1168 := show Fld Z h1165 b1165 "com/example/fuller_query/fullerquery/knowledge/ApiTypes$ApiType" "name" "Ljava/lang/String;" .null from D1165 (Or.inr (gw hw 39 rfl)) (ty := (.object "java/lang/String")) (by decide)
   refine c_init X1165 hx hby hZ hown hml (gw hw 27 rfl) (gw hw 28 rfl) (gw hw 29 rfl) (gw hw 26 rfl) rfl e1165 (rm4 hw b1165 b1164 b1157 .null .null h1165 n0 ZN1165 A1165 cc1167 cc1168 G_b1165) pd_26 rfl at_132 [.ref b1165] rfl 1 (by decide) rfl rfl fun o1166 T1166 L1166 X1166 hQ1166 => ?_
   obtain ⟨rfl, N1166q, K1166, u1166_1⟩ := hQ1166
   have N1166 := Fr.app N1164 N1166q
   have ne1169 : b1151 ≠ b1165 := (Nat.ne_of_lt (Nat.lt_of_lt_of_le ((((cc1156.wr W1155).ext E1157).keep K1158).keep K1164).lt (Nat.le_of_eq g1165.symm)))
   have ne1170 : b1158 ≠ b1165 := (Nat.ne_of_lt (Nat.lt_of_lt_of_le (u1158_3.keep K1164).lt (Nat.le_of_eq g1165.symm)))
   have ne1171 : b1157 ≠ b1165 := (Nat.ne_of_lt (Nat.lt_of_lt_of_le ((A1157.keep K1158).keep K1164).lt (Nat.le_of_eq g1165.symm)))
   have KK1166 := KK1165.trans K1166 (allS (P := fun x => x ∈ [] ∨ h0.size ≤ x) (Or.inr (Nat.le_trans KK1164.1 (Nat.le_of_eq g1165.symm))) all0)
   have ZN1166 := Nat.le_trans ZN1165 K1166.1
   have HK1166 : 0 ≤ T1166.heap.size := Nat.le_trans HK1165 K1166.1
   have sf1166_b1157 := Safe.keep K1166 (allS (Safe.exa hZ.alike A1165 (by decide) (by decide)) all0) ch1165.1 sf1165_b1157
   have ch1166 := ch1165.trans (CHr.keep K1166 (allS (Safe.exa hZ.alike A1165 (by decide) (by decide)) all0) ch1165.1)
   have OL1166 := OL1165.keep K1166 (allS G_b1165 all0)
   refine c_sh 135 [.ref b1165] rfl rfl <| c_astore X1166 hx hby _ at_135 rfl rfl <| c_shL #[iv p1, iv p2, iv p3, iv p4, iv p5, iv p6, iv 2, rv b1151, rv b1157, rv b1164, rv b1165, .unset, .unset, .unset] rfl ?_
   by_cases hk1_1172 : c1154 = (46 : Int32)
   ·refine c_aload X1166 hx hby at_137 rfl rfl ?_
    have cc1174 := A1165.keep K1166
    have cc1175 := (((A1157.keep K1158).keep K1164).ext E1165).keep K1166
    have cc1176 := ((u1158_6.keep K1164 nin0).ext E1165).keep K1166 (ninS ne1171 nin0)
    have cc1177 := ((u1158_5.keep K1164 nin0).ext E1165).keep K1166 (ninS ne1171 nin0)
    have cc1178 := ((u1158_4.keep K1164 nin0).ext E1165).keep K1166 (ninS ne1170 nin0)
    refine c_callVH X1166 hx hby hZ hown hml (gw hw 40 rfl) (gw hw 41 rfl) (gw hw 43 rfl) (gw hw 42 rfl) (gw hw 44 rfl) (gw hw 26 rfl) cc1174 rfl (own_EW hw) ch1166 hS0 HK1166 (rmSN2_1 hw b1165 b1157 w0 f0 b1158 kb1158 (c1152.toInt8.toInt32) (c1154.toInt8.toInt32) (T1166.heap) n0 ZN1166 cc1174 u1166_1 P1 P2 OL1166 cc1175 cc1176 cc1177 cc1178 hw0 hf ((own_46 u1154_1).mpr hk1_1172)) pd_27 rfl at_139 [] rfl 0 (by decide) rfl rfl fun o1173 T1173 L1173 X1173 hS1173 hZ hown hR1173 ch1173 hQ1173 => ?_
    have sf1173_b1157 := CHr.safe hR1173 cc1175.lt sf1166_b1157
    obtain ⟨b1173, bb1173, kb1173, rfl, N1173q, K1173, u1173_1, u1173_2, u1173_3, u1173_4⟩ := hQ1173
    have N1173 := Fr.app N1166 N1173q
    have KK1173 := KK1166.trans K1173 all0
    have ZN1173 := Nat.le_trans ZN1166 K1173.1
    have OL1173 := OL1166.keep K1173 all0
    refine c_sh 142 [.ref b1173] rfl rfl <| c_astore X1173 hx hby _ at_142 rfl rfl <| c_iconst X1173 hx hby (-1) at_144 rfl <| c_istore X1173 hx hby _ at_145 rfl <| c_iload X1173 hx hby at_147 rfl <| c_ifNo X1173 hx hby at_149 (by decide) <| c_shL #[iv p1, iv p2, iv p3, iv p4, iv p5, iv p6, iv 2, rv b1151, rv b1157, rv b1164, rv b1165, rv b1173, iv (-1), .unset] rfl ?_
    have J1179 : ∀ (z1180 : Int32), Go (own_EndH Z) p e below s room_1.cells room_1.slots (Q0 Z p1 p2 p3 p4 p5 p6 w0 f0 h0 n0) (T1173.setTop (mkF m 164 #[iv p1, iv p2, iv p3, iv p4, iv p5, iv p6, iv 2, rv b1151, rv b1157, rv b1164, rv b1165, rv b1173, iv z1180, .unset] [])) := by
     intro z1180
     refine c_iload X1173 hx hby at_164 rfl <| c_iconst X1173 hx hby 1 at_166 rfl <| c_icmpNo X1173 hx hby at_167 (by decide) <| c_aload X1173 hx hby at_170 rfl rfl <| c_iconst X1173 hx hby 1 at_172 rfl ?_
     have cc1181 := ((((cc1161.keep K1158 (ninS (Ne.symm ne1162) nin0)).keep K1164 nin0).ext E1165).keep K1166 (ninS ne1169 nin0)).keep K1173 nin0
     refine c_cal X1173 hx hby hZ rfl cc1181 (by decide) (.int c1154) rfl at_173 <| c_bipush X1173 hx hby 46 at_174 rfl <| c_icmpNo X1173 hx hby at_176 (teq hk1_1172).2 <| c_iconst X1173 hx hby 1 at_179 rfl <| c_istore X1173 hx hby _ at_180 rfl <| c_iload X1173 hx hby at_182 rfl <| c_iconst X1173 hx hby 2 at_184 rfl <| c_icmpYes X1173 hx hby 200 at_185 (by decide) (by decide) <| c_iload X1173 hx hby at_200 rfl <| c_iconst X1173 hx hby 3 at_202 rfl <| c_icmpYes X1173 hx hby 218 at_203 (by decide) (by decide) <| c_iload X1173 hx hby at_218 rfl <| c_iload X1173 hx hby at_220 rfl <| c_isub X1173 hx hby at_222 <| c_sh 223 [.int 1] rfl rfl <| c_iconst X1173 hx hby 1 at_223 rfl <| c_isub X1173 hx hby at_224 <| c_sh 225 [.int 0] rfl rfl <| c_istore X1173 hx hby _ at_225 rfl <| c_aload X1173 hx hby at_227 rfl rfl <| c_ifnullNo X1173 hx hby at_229 <| c_aload X1173 hx hby at_232 rfl rfl <| c_shL #[iv p1, iv p2, iv p3, iv p4, iv p5, iv p6, iv 2, rv b1151, rv b1157, rv b1164, rv b1165, rv b1173, iv 1, iv 0] rfl <| c_callV X1173 hx hby hZ hown hml (gw hw 100 rfl) (gw hw 51 rfl) (gw hw 53 rfl) (gw hw 52 rfl) (gw hw 54 rfl) (gw hw 4 rfl) u1173_1 rfl (rm8 hw b1173 w0 bb1173 kb1173 (0 : Int32) [] (T1173.heap) n0 ZN1173 P1 OL1173 u1173_1 u1173_2 u1173_3 u1173_4 hw0) pd_3 rfl at_234 [] rfl 0 (by decide) rfl rfl fun o1182 T1182 L1182 X1182 hQ1182 => ?_
     obtain ⟨rfl, N1182q, e1182⟩ := hQ1182
     have N1182 := Fr.app N1173 N1182q
     refine c_sh 237 [.int 0] rfl rfl <| c_iload X1182 hx hby at_237 rfl <| c_icmpYes X1182 hx hby 244 at_239 (teq (rfl : (0 : Int32) = (0 : Int32))).1 (by decide) <| c_iload X1182 hx hby at_244 rfl <| c_ifYes X1182 hx hby 267 at_246 (by decide) (by decide) <| c_iload X1182 hx hby at_267 rfl <| c_iconst X1182 hx hby 1 at_269 rfl <| c_icmpYes X1182 hx hby 291 at_270 (by decide) (by decide) <| c_iload X1182 hx hby at_291 rfl <| c_iconst X1182 hx hby 2 at_293 rfl <| c_icmpYes X1182 hx hby 315 at_294 (by decide) (by decide) <| c_iload X1182 hx hby at_315 rfl <| c_iconst X1182 hx hby 3 at_317 rfl <| c_icmpYes X1182 hx hby 339 at_318 (by decide) (by decide) <| c_iconst X1182 hx hby 1 at_339 rfl ?_
     refine goRetH X1182 hZ (own_EW hw) ch1173 hh e1182 hS1173 (Nat.le_refl _) hx Bd.notSynchronized Bd.returns rfl (Or.inl ⟨rfl, Or.inr (Or.inl rfl), _, rfl⟩) (hb hby at_340) (by decide) (by decide) ⟨rfl, N1182⟩
    refine c_aload X1173 hx hby at_152 rfl rfl <| c_iconst X1173 hx hby 0 at_154 rfl ?_
    have cc1183 := ((((cc1161.keep K1158 (ninS (Ne.symm ne1162) nin0)).keep K1164 nin0).ext E1165).keep K1166 (ninS ne1169 nin0)).keep K1173 nin0
    refine c_cal X1173 hx hby hZ rfl cc1183 (by decide) (.int c1152) rfl at_155 <| c_bipush X1173 hx hby 46 at_156 rfl ?_
    by_cases hc158_1184 : c1152 = (46 : Int32)
    ·refine c_icmpNo X1173 hx hby at_158 (teq hc158_1184).2 <| c_iconst X1173 hx hby 0 at_161 rfl <| c_istore X1173 hx hby _ at_162 rfl <| c_shL #[iv p1, iv p2, iv p3, iv p4, iv p5, iv p6, iv 2, rv b1151, rv b1157, rv b1164, rv b1165, rv b1173, iv 0, .unset] rfl ?_
     exact J1179 _
    ·refine c_icmpYes X1173 hx hby 164 at_158 (feq hc158_1184).2 (by decide) ?_
     exact J1179 _
   ·by_cases hk0_1185 : c1152 = (46 : Int32)
    ·refine c_aload X1166 hx hby at_137 rfl rfl ?_
     have cc1187 := A1165.keep K1166
     have cc1188 := (((A1157.keep K1158).keep K1164).ext E1165).keep K1166
     have cc1189 := ((u1158_6.keep K1164 nin0).ext E1165).keep K1166 (ninS ne1171 nin0)
     have cc1190 := ((u1158_5.keep K1164 nin0).ext E1165).keep K1166 (ninS ne1171 nin0)
     have cc1191 := ((u1158_4.keep K1164 nin0).ext E1165).keep K1166 (ninS ne1170 nin0)
     refine c_callV X1166 hx hby hZ hown hml (gw hw 40 rfl) (gw hw 41 rfl) (gw hw 43 rfl) (gw hw 42 rfl) (gw hw 44 rfl) (gw hw 26 rfl) cc1187 rfl (rmSN2_0 hw b1165 b1157 w0 f0 b1158 kb1158 (c1152.toInt8.toInt32) (c1154.toInt8.toInt32) (T1166.heap) n0 ZN1166 cc1187 u1166_1 P1 P2 OL1166 cc1188 cc1189 cc1190 cc1191 hw0 hf ((own_46 u1152_1).mpr hk0_1185) (fun qq => hk1_1172 ((own_46 u1154_1).mp qq))) pd_27 rfl at_139 [] rfl 0 (by decide) rfl rfl fun o1186 T1186 L1186 X1186 hQ1186 => ?_
     obtain ⟨b1186, bb1186, kb1186, rfl, N1186q, u1186_0, u1186_1, K1186, u1186_3, u1186_4, u1186_5, u1186_6⟩ := hQ1186
     have N1186 := Fr.app N1166 N1186q
     have G_b1186 := Nat.le_trans ZN1166 u1186_0
     have KK1186 := KK1166.trans K1186 all0
     have ZN1186 := Nat.le_trans ZN1166 K1186.1
     have HK1186 : 0 ≤ T1186.heap.size := Nat.le_trans HK1166 K1186.1
     have sf1186_b1157 := Safe.keep K1186 all0 ch1166.1 sf1166_b1157
     have ch1186 := ch1166.trans (CHr.keep K1186 all0 ch1166.1)
     have OL1186 := OL1166.keep K1186 all0
     refine c_sh 142 [.ref b1186] rfl rfl <| c_astore X1186 hx hby _ at_142 rfl rfl <| c_iconst X1186 hx hby (-1) at_144 rfl <| c_istore X1186 hx hby _ at_145 rfl <| c_iload X1186 hx hby at_147 rfl <| c_ifNo X1186 hx hby at_149 (by decide) <| c_aload X1186 hx hby at_152 rfl rfl <| c_iconst X1186 hx hby 0 at_154 rfl <| c_shL #[iv p1, iv p2, iv p3, iv p4, iv p5, iv p6, iv 2, rv b1151, rv b1157, rv b1164, rv b1165, rv b1186, iv (-1), .unset] rfl ?_
     have cc1192 := ((((cc1161.keep K1158 (ninS (Ne.symm ne1162) nin0)).keep K1164 nin0).ext E1165).keep K1166 (ninS ne1169 nin0)).keep K1186 nin0
     refine c_cal X1186 hx hby hZ rfl cc1192 (by decide) (.int c1152) rfl at_155 <| c_bipush X1186 hx hby 46 at_156 rfl <| c_icmpNo X1186 hx hby at_158 (teq hk0_1185).2 <| c_iconst X1186 hx hby 0 at_161 rfl <| c_istore X1186 hx hby _ at_162 rfl <| c_iload X1186 hx hby at_164 rfl <| c_iconst X1186 hx hby 1 at_166 rfl <| c_icmpNo X1186 hx hby at_167 (by decide) <| c_sh 170 _ rfl rfl <| c_aload X1186 hx hby at_170 rfl rfl <| c_iconst X1186 hx hby 1 at_172 rfl <| c_cal X1186 hx hby hZ rfl cc1192 (by decide) (.int c1154) rfl at_173 <| c_bipush X1186 hx hby 46 at_174 rfl <| c_icmpYes X1186 hx hby 182 at_176 (feq hk1_1172).2 (by decide) <| c_iload X1186 hx hby at_182 rfl <| c_iconst X1186 hx hby 2 at_184 rfl <| c_icmpYes X1186 hx hby 200 at_185 (by decide) (by decide) <| c_iload X1186 hx hby at_200 rfl <| c_iconst X1186 hx hby 3 at_202 rfl <| c_icmpYes X1186 hx hby 218 at_203 (by decide) (by decide) <| c_iload X1186 hx hby at_218 rfl <| c_iload X1186 hx hby at_220 rfl <| c_isub X1186 hx hby at_222 <| c_sh 223 [.int 2] rfl rfl <| c_iconst X1186 hx hby 1 at_223 rfl <| c_isub X1186 hx hby at_224 <| c_sh 225 [.int 1] rfl rfl <| c_istore X1186 hx hby _ at_225 rfl <| c_aload X1186 hx hby at_227 rfl rfl <| c_ifnullNo X1186 hx hby at_229 <| c_aload X1186 hx hby at_232 rfl rfl <| c_shL #[iv p1, iv p2, iv p3, iv p4, iv p5, iv p6, iv 2, rv b1151, rv b1157, rv b1164, rv b1165, rv b1186, iv 0, iv 1] rfl <| c_callV X1186 hx hby hZ hown hml (gw hw 100 rfl) (gw hw 51 rfl) (gw hw 53 rfl) (gw hw 52 rfl) (gw hw 54 rfl) (gw hw 4 rfl) u1186_3 rfl (rm8 hw b1186 w0 bb1186 kb1186 (1 : Int32) [(.int (c1154.toInt8.toInt32))] (T1186.heap) n0 ZN1186 P1 OL1186 u1186_3 u1186_4 u1186_5 u1186_6 hw0) pd_3 rfl at_234 [] rfl 0 (by decide) rfl rfl fun o1193 T1193 L1193 X1193 hQ1193 => ?_
     obtain ⟨rfl, N1193q, e1193⟩ := hQ1193
     have N1193 := Fr.app N1186 N1193q
     refine c_sh 237 [.int 1] rfl rfl <| c_iload X1193 hx hby at_237 rfl <| c_icmpYes X1193 hx hby 244 at_239 (teq (rfl : (1 : Int32) = (1 : Int32))).1 (by decide) <| c_iload X1193 hx hby at_244 rfl <| c_ifNo X1193 hx hby at_246 (by decide) <| c_aload X1193 hx hby at_249 rfl rfl <| c_iconst X1193 hx hby 0 at_251 rfl <| c_callV X1193 hx hby hZ hown hml (gw hw 148 rfl) (gw hw 149 rfl) (gw hw 151 rfl) (gw hw 150 rfl) (gw hw 152 rfl) (gw hw 4 rfl) u1186_3 e1193 (rm31 hw b1186 (0 : Int32) w0 f0 bb1186 kb1186 (1 : Int32) [(.int (c1154.toInt8.toInt32))] (c1154.toInt8.toInt32) (T1186.heap) n0 ZN1186 P1 P2 OL1186 u1186_3 u1186_4 u1186_5 u1186_6 hw0 (by decide) (by decide) rfl hf) pd_29 rfl at_252 [] rfl 0 (by decide) rfl rfl fun o1194 T1194 L1194 X1194 hQ1194 => ?_
     obtain ⟨rfl, N1194q, e1194⟩ := hQ1194
     have N1194 := Fr.app N1193 N1194q
     refine c_sh 255 [.int (((c1154.toInt8.toInt32) &&& (255 : Int32)).toUInt32.toUInt16.toUInt32.toInt32)] rfl rfl <| c_aload X1194 hx hby at_255 rfl rfl <| c_iload X1194 hx hby at_257 rfl <| c_iconst X1194 hx hby 1 at_259 rfl <| c_iadd X1194 hx hby at_260 <| c_sh 261 [.int 1, .ref b1151, .int (((c1154.toInt8.toInt32) &&& (255 : Int32)).toUInt32.toUInt16.toUInt32.toInt32)] rfl rfl <| c_cal X1194 hx hby hZ e1194 cc1192 (by decide) (.int c1154) rfl at_261 <| c_icmpYes X1194 hx hby 267 at_262 (teq (own_bk u1154_1)).1 (by decide) <| c_iload X1194 hx hby at_267 rfl <| c_iconst X1194 hx hby 1 at_269 rfl <| c_icmpYes X1194 hx hby 291 at_270 (by decide) (by decide) <| c_iload X1194 hx hby at_291 rfl <| c_iconst X1194 hx hby 2 at_293 rfl <| c_icmpYes X1194 hx hby 315 at_294 (by decide) (by decide) <| c_iload X1194 hx hby at_315 rfl <| c_iconst X1194 hx hby 3 at_317 rfl <| c_icmpYes X1194 hx hby 339 at_318 (by decide) (by decide) <| c_iconst X1194 hx hby 1 at_339 rfl ?_
     refine goRetH X1194 hZ (own_EW hw) ch1186 hh e1194 hS0 HK1186 hx Bd.notSynchronized Bd.returns rfl (Or.inl ⟨rfl, Or.inr (Or.inl rfl), _, rfl⟩) (hb hby at_340) (by decide) (by decide) ⟨rfl, N1194⟩
    ·refine c_aload X1166 hx hby at_137 rfl rfl ?_
     have cc1196 := A1165.keep K1166
     have cc1197 := (((A1157.keep K1158).keep K1164).ext E1165).keep K1166
     have cc1198 := ((u1158_6.keep K1164 nin0).ext E1165).keep K1166 (ninS ne1171 nin0)
     have cc1199 := ((u1158_5.keep K1164 nin0).ext E1165).keep K1166 (ninS ne1171 nin0)
     have cc1200 := ((u1158_4.keep K1164 nin0).ext E1165).keep K1166 (ninS ne1170 nin0)
     refine c_callV X1166 hx hby hZ hown hml (gw hw 40 rfl) (gw hw 41 rfl) (gw hw 43 rfl) (gw hw 42 rfl) (gw hw 44 rfl) (gw hw 26 rfl) cc1196 rfl (rmSN2_m1 hw b1165 b1157 w0 f0 b1158 kb1158 (c1152.toInt8.toInt32) (c1154.toInt8.toInt32) (T1166.heap) n0 ZN1166 cc1196 u1166_1 P1 P2 OL1166 cc1197 cc1198 cc1199 cc1200 hw0 hf (fun qq => hk0_1185 ((own_46 u1152_1).mp qq)) (fun qq => hk1_1172 ((own_46 u1154_1).mp qq))) pd_27 rfl at_139 [] rfl 0 (by decide) rfl rfl fun o1195 T1195 L1195 X1195 hQ1195 => ?_
     obtain ⟨rfl, N1195q, e1195⟩ := hQ1195
     have N1195 := Fr.app N1166 N1195q
     refine c_sh 142 [.ref b1157] rfl rfl <| c_astore X1195 hx hby _ at_142 rfl rfl <| c_iconst X1195 hx hby (-1) at_144 rfl <| c_istore X1195 hx hby _ at_145 rfl <| c_iload X1195 hx hby at_147 rfl <| c_ifNo X1195 hx hby at_149 (by decide) <| c_aload X1195 hx hby at_152 rfl rfl <| c_iconst X1195 hx hby 0 at_154 rfl <| c_shL #[iv p1, iv p2, iv p3, iv p4, iv p5, iv p6, iv 2, rv b1151, rv b1157, rv b1164, rv b1165, rv b1157, iv (-1), .unset] rfl ?_
     have cc1201 := (((cc1161.keep K1158 (ninS (Ne.symm ne1162) nin0)).keep K1164 nin0).ext E1165).keep K1166 (ninS ne1169 nin0)
     refine c_cal X1195 hx hby hZ e1195 cc1201 (by decide) (.int c1152) rfl at_155 <| c_bipush X1195 hx hby 46 at_156 rfl <| c_icmpYes X1195 hx hby 164 at_158 (feq hk0_1185).2 (by decide) <| c_iload X1195 hx hby at_164 rfl <| c_iconst X1195 hx hby 1 at_166 rfl <| c_icmpNo X1195 hx hby at_167 (by decide) <| c_aload X1195 hx hby at_170 rfl rfl <| c_iconst X1195 hx hby 1 at_172 rfl <| c_cal X1195 hx hby hZ e1195 cc1201 (by decide) (.int c1154) rfl at_173 <| c_bipush X1195 hx hby 46 at_174 rfl <| c_icmpYes X1195 hx hby 182 at_176 (feq hk1_1172).2 (by decide) <| c_iload X1195 hx hby at_182 rfl <| c_iconst X1195 hx hby 2 at_184 rfl <| c_icmpYes X1195 hx hby 200 at_185 (by decide) (by decide) <| c_iload X1195 hx hby at_200 rfl <| c_iconst X1195 hx hby 3 at_202 rfl <| c_icmpYes X1195 hx hby 218 at_203 (by decide) (by decide) <| c_iload X1195 hx hby at_218 rfl <| c_iload X1195 hx hby at_220 rfl <| c_isub X1195 hx hby at_222 <| c_sh 223 [.int 3] rfl rfl <| c_iconst X1195 hx hby 1 at_223 rfl <| c_isub X1195 hx hby at_224 <| c_sh 225 [.int 2] rfl rfl <| c_istore X1195 hx hby _ at_225 rfl <| c_aload X1195 hx hby at_227 rfl rfl <| c_ifnullNo X1195 hx hby at_229 <| c_aload X1195 hx hby at_232 rfl rfl <| c_shL #[iv p1, iv p2, iv p3, iv p4, iv p5, iv p6, iv 2, rv b1151, rv b1157, rv b1164, rv b1165, rv b1157, iv (-1), iv 2] rfl <| c_callV X1195 hx hby hZ hown hml (gw hw 100 rfl) (gw hw 51 rfl) (gw hw 53 rfl) (gw hw 52 rfl) (gw hw 54 rfl) (gw hw 4 rfl) cc1197 e1195 (rm8 hw b1157 w0 b1158 kb1158 (2 : Int32) [(.int (c1152.toInt8.toInt32)), (.int (c1154.toInt8.toInt32))] (T1166.heap) n0 ZN1166 P1 OL1166 cc1197 cc1198 cc1199 cc1200 hw0) pd_3 rfl at_234 [] rfl 0 (by decide) rfl rfl fun o1202 T1202 L1202 X1202 hQ1202 => ?_
     obtain ⟨rfl, N1202q, e1202⟩ := hQ1202
     have N1202 := Fr.app N1195 N1202q
     refine c_sh 237 [.int 2] rfl rfl <| c_iload X1202 hx hby at_237 rfl <| c_icmpYes X1202 hx hby 244 at_239 (teq (rfl : (2 : Int32) = (2 : Int32))).1 (by decide) <| c_iload X1202 hx hby at_244 rfl <| c_ifNo X1202 hx hby at_246 (by decide) <| c_aload X1202 hx hby at_249 rfl rfl <| c_iconst X1202 hx hby 0 at_251 rfl <| c_callV X1202 hx hby hZ hown hml (gw hw 148 rfl) (gw hw 149 rfl) (gw hw 151 rfl) (gw hw 150 rfl) (gw hw 152 rfl) (gw hw 4 rfl) cc1197 e1202 (rm31 hw b1157 (0 : Int32) w0 f0 b1158 kb1158 (2 : Int32) [(.int (c1152.toInt8.toInt32)), (.int (c1154.toInt8.toInt32))] (c1152.toInt8.toInt32) (T1166.heap) n0 ZN1166 P1 P2 OL1166 cc1197 cc1198 cc1199 cc1200 hw0 (by decide) (by decide) rfl hf) pd_29 rfl at_252 [] rfl 0 (by decide) rfl rfl fun o1203 T1203 L1203 X1203 hQ1203 => ?_
     obtain ⟨rfl, N1203q, e1203⟩ := hQ1203
     have N1203 := Fr.app N1202 N1203q
     refine c_sh 255 [.int (((c1152.toInt8.toInt32) &&& (255 : Int32)).toUInt32.toUInt16.toUInt32.toInt32)] rfl rfl <| c_aload X1203 hx hby at_255 rfl rfl <| c_iload X1203 hx hby at_257 rfl <| c_iconst X1203 hx hby 1 at_259 rfl <| c_iadd X1203 hx hby at_260 <| c_sh 261 [.int 0, .ref b1151, .int (((c1152.toInt8.toInt32) &&& (255 : Int32)).toUInt32.toUInt16.toUInt32.toInt32)] rfl rfl <| c_cal X1203 hx hby hZ e1203 cc1201 (by decide) (.int c1152) rfl at_261 <| c_icmpYes X1203 hx hby 267 at_262 (teq (own_bk u1152_1)).1 (by decide) <| c_iload X1203 hx hby at_267 rfl <| c_iconst X1203 hx hby 1 at_269 rfl <| c_icmpNo X1203 hx hby at_270 (by decide) <| c_aload X1203 hx hby at_273 rfl rfl <| c_iconst X1203 hx hby 1 at_275 rfl <| c_callV X1203 hx hby hZ hown hml (gw hw 148 rfl) (gw hw 149 rfl) (gw hw 151 rfl) (gw hw 150 rfl) (gw hw 152 rfl) (gw hw 4 rfl) cc1197 e1203 (rm31 hw b1157 (1 : Int32) w0 f0 b1158 kb1158 (2 : Int32) [(.int (c1152.toInt8.toInt32)), (.int (c1154.toInt8.toInt32))] (c1154.toInt8.toInt32) (T1166.heap) n0 ZN1166 P1 P2 OL1166 cc1197 cc1198 cc1199 cc1200 hw0 (by decide) (by decide) rfl hf) pd_29 rfl at_276 [] rfl 0 (by decide) rfl rfl fun o1204 T1204 L1204 X1204 hQ1204 => ?_
     obtain ⟨rfl, N1204q, e1204⟩ := hQ1204
     have N1204 := Fr.app N1203 N1204q
     refine c_sh 279 [.int (((c1154.toInt8.toInt32) &&& (255 : Int32)).toUInt32.toUInt16.toUInt32.toInt32)] rfl rfl <| c_aload X1204 hx hby at_279 rfl rfl <| c_iload X1204 hx hby at_281 rfl <| c_iconst X1204 hx hby 2 at_283 rfl <| c_iadd X1204 hx hby at_284 <| c_sh 285 [.int 1, .ref b1151, .int (((c1154.toInt8.toInt32) &&& (255 : Int32)).toUInt32.toUInt16.toUInt32.toInt32)] rfl rfl <| c_cal X1204 hx hby hZ e1204 cc1201 (by decide) (.int c1154) rfl at_285 <| c_icmpYes X1204 hx hby 291 at_286 (teq (own_bk u1154_1)).1 (by decide) <| c_iload X1204 hx hby at_291 rfl <| c_iconst X1204 hx hby 2 at_293 rfl <| c_icmpYes X1204 hx hby 315 at_294 (by decide) (by decide) <| c_iload X1204 hx hby at_315 rfl <| c_iconst X1204 hx hby 3 at_317 rfl <| c_icmpYes X1204 hx hby 339 at_318 (by decide) (by decide) <| c_iconst X1204 hx hby 1 at_339 rfl ?_
     refine goRetH X1204 hZ (own_EW hw) ch1166 hh e1204 hS0 HK1166 hx Bd.notSynchronized Bd.returns rfl (Or.inl ⟨rfl, Or.inr (Or.inl rfl), _, rfl⟩) (hb hby at_340) (by decide) (by decide) ⟨rfl, N1204⟩
  ·refine c_ifNo X1158 hx hby at_102 ((if0 _ _).trans (feq hc102_1163).1) ?_
   obtain ⟨t1205, T1205, h1205, k1205, bs1205, ks1205, X1205, e1205, E1205, hS1205, hk1205, hZ, hown, LE1205, LC1205, LV1205, LA1205, -, -, cr1205, -, sn1205, st1205⟩ := ldcCH X1158 hx hZ hown (gw hw 23 rfl) (own_wS hw) rfl hS0 HK1158 (own_EW hw) (List.mem_of_getElem? (i := 0) rfl) ch1158.1 (vs := []) (z := (0 : Int32)) ⟨by decide, by decide⟩ (by decide) (by decide) (g := (mkF m 105 #[iv p1, iv p2, iv p3, iv p4, iv p5, iv p6, iv 2, rv b1151, rv b1157, .unset, .unset, .unset, .unset, .unset] [])) rfl (hb hby at_105) (n := 0) (by decide) (by decide) (by decide) (by decide)
   have sf1205_b1157 := CHr.safe cr1205 (A1157.keep K1158).lt sf1158_b1157
   have ch1205 := ch1158.trans cr1205
   have KK1205 := KK1158.ext E1205
   have ZN1205 := Nat.le_trans ZN1158 E1205.1
   have OL1205 := OL1158.ext E1205
   refine go st1205 ?_
   show Go _ p e below s _ _ _ (T1205.setTop (mkF m 107 #[iv p1, iv p2, iv p3, iv p4, iv p5, iv p6, iv 2, rv b1151, rv b1157, .unset, .unset, .unset, .unset, .unset] [.ref t1205]))
   refine c_goto X1205 hx hby 122 at_107 (by decide) <| c_astore X1205 hx hby _ at_122 rfl rfl <| c_shL #[iv p1, iv p2, iv p3, iv p4, iv p5, iv p6, iv 2, rv b1151, rv b1157, rv t1205, .unset, .unset, .unset, .unset] rfl <| c_new X1205 hx hby hZ hown (gw hw 24 rfl) (gw hw 25 rfl) (gw hw 26 rfl) e1205 at_124 (by decide) fun T1206 h1206 b1206 g1206 X1206 e1206 E1206 A1206 D1206 => ?_
   have G_b1206 := Nat.le_trans ZN1205 (Nat.le_of_eq g1206.symm)
   have KK1206 := KK1205.ext E1206
   have ZN1206 := Nat.le_trans ZN1205 E1206.1
   have HK1206 := Nat.le_trans hk1205 E1206.1
   have OL1206 := OL1205.ext E1206
   have sf1206_b1157 := Safe.ext E1206 ch1205.1 sf1205_b1157
   have ch1206 := ch1205.trans (CHr.ext E1206 ch1205.1)
   refine c_sh 127 [.ref b1206] rfl rfl <| c_dup X1206 hx hby at_127 rfl <| c_aload X1206 hx hby at_128 rfl rfl <| c_aload X1206 hx hby at_130 rfl rfl ?_
   have cc1208 := show Fld Z h1206 b1206 "com/example/fuller_query/fullerquery/knowledge/ApiTypes$ApiType" "packageName" "Ljava/lang/String;" .null from D1206 (Or.inr (gw hw 37 rfl)) (ty := (.object "java/lang/String")) (by decide)
   have cc1209 := show Fld Z h1206 b1206 "com/example/fuller_query/fullerquery/knowledge/ApiTypes$ApiType" "name" "Ljava/lang/String;" .null from D1206 (Or.inr (gw hw 39 rfl)) (ty := (.object "java/lang/String")) (by decide)
   refine c_init X1206 hx hby hZ hown hml (gw hw 27 rfl) (gw hw 28 rfl) (gw hw 29 rfl) (gw hw 26 rfl) rfl e1206 (rm4 hw b1206 t1205 b1157 .null .null h1206 n0 ZN1206 A1206 cc1208 cc1209 G_b1206) pd_26 rfl at_132 [.ref b1206] rfl 1 (by decide) rfl rfl fun o1207 T1207 L1207 X1207 hQ1207 => ?_
   obtain ⟨rfl, N1207q, K1207, u1207_1⟩ := hQ1207
   have N1207 := Fr.app N1158 N1207q
   have ne1210 : b1151 ≠ b1206 := (Nat.ne_of_lt (Nat.lt_of_lt_of_le ((((cc1156.wr W1155).ext E1157).keep K1158).ext E1205).lt (Nat.le_of_eq g1206.symm)))
   have ne1211 : b1158 ≠ b1206 := (Nat.ne_of_lt (Nat.lt_of_lt_of_le (u1158_3.ext E1205).lt (Nat.le_of_eq g1206.symm)))
   have ne1212 : b1157 ≠ b1206 := (Nat.ne_of_lt (Nat.lt_of_lt_of_le ((A1157.keep K1158).ext E1205).lt (Nat.le_of_eq g1206.symm)))
   have ne1213 : t1205 ≠ b1206 := (Nat.ne_of_lt (Nat.lt_of_lt_of_le LE1205.lt (Nat.le_of_eq g1206.symm)))
   have ne1214 : bs1205 ≠ b1206 := (Nat.ne_of_lt (Nat.lt_of_lt_of_le LA1205.lt (Nat.le_of_eq g1206.symm)))
   have KK1207 := KK1206.trans K1207 (allS (P := fun x => x ∈ [] ∨ h0.size ≤ x) (Or.inr (Nat.le_trans KK1205.1 (Nat.le_of_eq g1206.symm))) all0)
   have ZN1207 := Nat.le_trans ZN1206 K1207.1
   have HK1207 : k1205 ≤ T1207.heap.size := Nat.le_trans HK1206 K1207.1
   have sf1207_b1157 := Safe.keep K1207 (allS (Safe.exa hZ.alike A1206 (by decide) (by decide)) all0) ch1206.1 sf1206_b1157
   have ch1207 := ch1206.trans (CHr.keep K1207 (allS (Safe.exa hZ.alike A1206 (by decide) (by decide)) all0) ch1206.1)
   have OL1207 := OL1206.keep K1207 (allS G_b1206 all0)
   refine c_sh 135 [.ref b1206] rfl rfl <| c_astore X1207 hx hby _ at_135 rfl rfl <| c_shL #[iv p1, iv p2, iv p3, iv p4, iv p5, iv p6, iv 2, rv b1151, rv b1157, rv t1205, rv b1206, .unset, .unset, .unset] rfl ?_
   by_cases hk1_1215 : c1154 = (46 : Int32)
   ·refine c_aload X1207 hx hby at_137 rfl rfl ?_
    have cc1217 := A1206.keep K1207
    have cc1218 := (((A1157.keep K1158).ext E1205).ext E1206).keep K1207
    have cc1219 := ((u1158_6.ext E1205).ext E1206).keep K1207 (ninS ne1212 nin0)
    have cc1220 := ((u1158_5.ext E1205).ext E1206).keep K1207 (ninS ne1212 nin0)
    have cc1221 := ((u1158_4.ext E1205).ext E1206).keep K1207 (ninS ne1211 nin0)
    refine c_callVH X1207 hx hby hZ hown hml (gw hw 40 rfl) (gw hw 41 rfl) (gw hw 43 rfl) (gw hw 42 rfl) (gw hw 44 rfl) (gw hw 26 rfl) cc1217 rfl (own_EW hw) ch1207 hS1205 HK1207 (rmSN2_1 hw b1206 b1157 w0 f0 b1158 kb1158 (c1152.toInt8.toInt32) (c1154.toInt8.toInt32) (T1207.heap) n0 ZN1207 cc1217 u1207_1 P1 P2 OL1207 cc1218 cc1219 cc1220 cc1221 hw0 hf ((own_46 u1154_1).mpr hk1_1215)) pd_27 rfl at_139 [] rfl 0 (by decide) rfl rfl fun o1216 T1216 L1216 X1216 hS1216 hZ hown hR1216 ch1216 hQ1216 => ?_
    have sf1216_b1157 := CHr.safe hR1216 cc1218.lt sf1207_b1157
    obtain ⟨b1216, bb1216, kb1216, rfl, N1216q, K1216, u1216_1, u1216_2, u1216_3, u1216_4⟩ := hQ1216
    have N1216 := Fr.app N1207 N1216q
    have KK1216 := KK1207.trans K1216 all0
    have ZN1216 := Nat.le_trans ZN1207 K1216.1
    have OL1216 := OL1207.keep K1216 all0
    refine c_sh 142 [.ref b1216] rfl rfl <| c_astore X1216 hx hby _ at_142 rfl rfl <| c_iconst X1216 hx hby (-1) at_144 rfl <| c_istore X1216 hx hby _ at_145 rfl <| c_iload X1216 hx hby at_147 rfl <| c_ifNo X1216 hx hby at_149 (by decide) <| c_shL #[iv p1, iv p2, iv p3, iv p4, iv p5, iv p6, iv 2, rv b1151, rv b1157, rv t1205, rv b1206, rv b1216, iv (-1), .unset] rfl ?_
    have J1222 : ∀ (z1223 : Int32), Go (own_EndH Z) p e below s room_1.cells room_1.slots (Q0 Z p1 p2 p3 p4 p5 p6 w0 f0 h0 n0) (T1216.setTop (mkF m 164 #[iv p1, iv p2, iv p3, iv p4, iv p5, iv p6, iv 2, rv b1151, rv b1157, rv t1205, rv b1206, rv b1216, iv z1223, .unset] [])) := by
     intro z1223
     refine c_iload X1216 hx hby at_164 rfl <| c_iconst X1216 hx hby 1 at_166 rfl <| c_icmpNo X1216 hx hby at_167 (by decide) <| c_aload X1216 hx hby at_170 rfl rfl <| c_iconst X1216 hx hby 1 at_172 rfl ?_
     have cc1224 := ((((cc1161.keep K1158 (ninS (Ne.symm ne1162) nin0)).ext E1205).ext E1206).keep K1207 (ninS ne1210 nin0)).keep K1216 nin0
     refine c_cal X1216 hx hby hZ rfl cc1224 (by decide) (.int c1154) rfl at_173 <| c_bipush X1216 hx hby 46 at_174 rfl <| c_icmpNo X1216 hx hby at_176 (teq hk1_1215).2 <| c_iconst X1216 hx hby 1 at_179 rfl <| c_istore X1216 hx hby _ at_180 rfl <| c_iload X1216 hx hby at_182 rfl <| c_iconst X1216 hx hby 2 at_184 rfl <| c_icmpYes X1216 hx hby 200 at_185 (by decide) (by decide) <| c_iload X1216 hx hby at_200 rfl <| c_iconst X1216 hx hby 3 at_202 rfl <| c_icmpYes X1216 hx hby 218 at_203 (by decide) (by decide) <| c_iload X1216 hx hby at_218 rfl <| c_iload X1216 hx hby at_220 rfl <| c_isub X1216 hx hby at_222 <| c_sh 223 [.int 1] rfl rfl <| c_iconst X1216 hx hby 1 at_223 rfl <| c_isub X1216 hx hby at_224 <| c_sh 225 [.int 0] rfl rfl <| c_istore X1216 hx hby _ at_225 rfl <| c_aload X1216 hx hby at_227 rfl rfl <| c_ifnullNo X1216 hx hby at_229 <| c_aload X1216 hx hby at_232 rfl rfl <| c_shL #[iv p1, iv p2, iv p3, iv p4, iv p5, iv p6, iv 2, rv b1151, rv b1157, rv t1205, rv b1206, rv b1216, iv 1, iv 0] rfl <| c_callV X1216 hx hby hZ hown hml (gw hw 100 rfl) (gw hw 51 rfl) (gw hw 53 rfl) (gw hw 52 rfl) (gw hw 54 rfl) (gw hw 4 rfl) u1216_1 rfl (rm8 hw b1216 w0 bb1216 kb1216 (0 : Int32) [] (T1216.heap) n0 ZN1216 P1 OL1216 u1216_1 u1216_2 u1216_3 u1216_4 hw0) pd_3 rfl at_234 [] rfl 0 (by decide) rfl rfl fun o1225 T1225 L1225 X1225 hQ1225 => ?_
     obtain ⟨rfl, N1225q, e1225⟩ := hQ1225
     have N1225 := Fr.app N1216 N1225q
     refine c_sh 237 [.int 0] rfl rfl <| c_iload X1225 hx hby at_237 rfl <| c_icmpYes X1225 hx hby 244 at_239 (teq (rfl : (0 : Int32) = (0 : Int32))).1 (by decide) <| c_iload X1225 hx hby at_244 rfl <| c_ifYes X1225 hx hby 267 at_246 (by decide) (by decide) <| c_iload X1225 hx hby at_267 rfl <| c_iconst X1225 hx hby 1 at_269 rfl <| c_icmpYes X1225 hx hby 291 at_270 (by decide) (by decide) <| c_iload X1225 hx hby at_291 rfl <| c_iconst X1225 hx hby 2 at_293 rfl <| c_icmpYes X1225 hx hby 315 at_294 (by decide) (by decide) <| c_iload X1225 hx hby at_315 rfl <| c_iconst X1225 hx hby 3 at_317 rfl <| c_icmpYes X1225 hx hby 339 at_318 (by decide) (by decide) <| c_iconst X1225 hx hby 1 at_339 rfl ?_
     refine goRetH X1225 hZ (own_EW hw) ch1216 hh e1225 hS1216 (Nat.le_refl _) hx Bd.notSynchronized Bd.returns rfl (Or.inl ⟨rfl, Or.inr (Or.inl rfl), _, rfl⟩) (hb hby at_340) (by decide) (by decide) ⟨rfl, N1225⟩
    refine c_aload X1216 hx hby at_152 rfl rfl <| c_iconst X1216 hx hby 0 at_154 rfl ?_
    have cc1226 := ((((cc1161.keep K1158 (ninS (Ne.symm ne1162) nin0)).ext E1205).ext E1206).keep K1207 (ninS ne1210 nin0)).keep K1216 nin0
    refine c_cal X1216 hx hby hZ rfl cc1226 (by decide) (.int c1152) rfl at_155 <| c_bipush X1216 hx hby 46 at_156 rfl ?_
    by_cases hc158_1227 : c1152 = (46 : Int32)
    ·refine c_icmpNo X1216 hx hby at_158 (teq hc158_1227).2 <| c_iconst X1216 hx hby 0 at_161 rfl <| c_istore X1216 hx hby _ at_162 rfl <| c_shL #[iv p1, iv p2, iv p3, iv p4, iv p5, iv p6, iv 2, rv b1151, rv b1157, rv t1205, rv b1206, rv b1216, iv 0, .unset] rfl ?_
     exact J1222 _
    ·refine c_icmpYes X1216 hx hby 164 at_158 (feq hc158_1227).2 (by decide) ?_
     exact J1222 _
   ·by_cases hk0_1228 : c1152 = (46 : Int32)
    ·refine c_aload X1207 hx hby at_137 rfl rfl ?_
     have cc1230 := A1206.keep K1207
     have cc1231 := (((A1157.keep K1158).ext E1205).ext E1206).keep K1207
     have cc1232 := ((u1158_6.ext E1205).ext E1206).keep K1207 (ninS ne1212 nin0)
     have cc1233 := ((u1158_5.ext E1205).ext E1206).keep K1207 (ninS ne1212 nin0)
     have cc1234 := ((u1158_4.ext E1205).ext E1206).keep K1207 (ninS ne1211 nin0)
     refine c_callV X1207 hx hby hZ hown hml (gw hw 40 rfl) (gw hw 41 rfl) (gw hw 43 rfl) (gw hw 42 rfl) (gw hw 44 rfl) (gw hw 26 rfl) cc1230 rfl (rmSN2_0 hw b1206 b1157 w0 f0 b1158 kb1158 (c1152.toInt8.toInt32) (c1154.toInt8.toInt32) (T1207.heap) n0 ZN1207 cc1230 u1207_1 P1 P2 OL1207 cc1231 cc1232 cc1233 cc1234 hw0 hf ((own_46 u1152_1).mpr hk0_1228) (fun qq => hk1_1215 ((own_46 u1154_1).mp qq))) pd_27 rfl at_139 [] rfl 0 (by decide) rfl rfl fun o1229 T1229 L1229 X1229 hQ1229 => ?_
     obtain ⟨b1229, bb1229, kb1229, rfl, N1229q, u1229_0, u1229_1, K1229, u1229_3, u1229_4, u1229_5, u1229_6⟩ := hQ1229
     have N1229 := Fr.app N1207 N1229q
     have G_b1229 := Nat.le_trans ZN1207 u1229_0
     have KK1229 := KK1207.trans K1229 all0
     have ZN1229 := Nat.le_trans ZN1207 K1229.1
     have HK1229 : k1205 ≤ T1229.heap.size := Nat.le_trans HK1207 K1229.1
     have sf1229_b1157 := Safe.keep K1229 all0 ch1207.1 sf1207_b1157
     have ch1229 := ch1207.trans (CHr.keep K1229 all0 ch1207.1)
     have OL1229 := OL1207.keep K1229 all0
     refine c_sh 142 [.ref b1229] rfl rfl <| c_astore X1229 hx hby _ at_142 rfl rfl <| c_iconst X1229 hx hby (-1) at_144 rfl <| c_istore X1229 hx hby _ at_145 rfl <| c_iload X1229 hx hby at_147 rfl <| c_ifNo X1229 hx hby at_149 (by decide) <| c_aload X1229 hx hby at_152 rfl rfl <| c_iconst X1229 hx hby 0 at_154 rfl <| c_shL #[iv p1, iv p2, iv p3, iv p4, iv p5, iv p6, iv 2, rv b1151, rv b1157, rv t1205, rv b1206, rv b1229, iv (-1), .unset] rfl ?_
     have cc1235 := ((((cc1161.keep K1158 (ninS (Ne.symm ne1162) nin0)).ext E1205).ext E1206).keep K1207 (ninS ne1210 nin0)).keep K1229 nin0
     refine c_cal X1229 hx hby hZ rfl cc1235 (by decide) (.int c1152) rfl at_155 <| c_bipush X1229 hx hby 46 at_156 rfl <| c_icmpNo X1229 hx hby at_158 (teq hk0_1228).2 <| c_iconst X1229 hx hby 0 at_161 rfl <| c_istore X1229 hx hby _ at_162 rfl <| c_iload X1229 hx hby at_164 rfl <| c_iconst X1229 hx hby 1 at_166 rfl <| c_icmpNo X1229 hx hby at_167 (by decide) <| c_sh 170 _ rfl rfl <| c_aload X1229 hx hby at_170 rfl rfl <| c_iconst X1229 hx hby 1 at_172 rfl <| c_cal X1229 hx hby hZ rfl cc1235 (by decide) (.int c1154) rfl at_173 <| c_bipush X1229 hx hby 46 at_174 rfl <| c_icmpYes X1229 hx hby 182 at_176 (feq hk1_1215).2 (by decide) <| c_iload X1229 hx hby at_182 rfl <| c_iconst X1229 hx hby 2 at_184 rfl <| c_icmpYes X1229 hx hby 200 at_185 (by decide) (by decide) <| c_iload X1229 hx hby at_200 rfl <| c_iconst X1229 hx hby 3 at_202 rfl <| c_icmpYes X1229 hx hby 218 at_203 (by decide) (by decide) <| c_iload X1229 hx hby at_218 rfl <| c_iload X1229 hx hby at_220 rfl <| c_isub X1229 hx hby at_222 <| c_sh 223 [.int 2] rfl rfl <| c_iconst X1229 hx hby 1 at_223 rfl <| c_isub X1229 hx hby at_224 <| c_sh 225 [.int 1] rfl rfl <| c_istore X1229 hx hby _ at_225 rfl <| c_aload X1229 hx hby at_227 rfl rfl <| c_ifnullNo X1229 hx hby at_229 <| c_aload X1229 hx hby at_232 rfl rfl <| c_shL #[iv p1, iv p2, iv p3, iv p4, iv p5, iv p6, iv 2, rv b1151, rv b1157, rv t1205, rv b1206, rv b1229, iv 0, iv 1] rfl <| c_callV X1229 hx hby hZ hown hml (gw hw 100 rfl) (gw hw 51 rfl) (gw hw 53 rfl) (gw hw 52 rfl) (gw hw 54 rfl) (gw hw 4 rfl) u1229_3 rfl (rm8 hw b1229 w0 bb1229 kb1229 (1 : Int32) [(.int (c1154.toInt8.toInt32))] (T1229.heap) n0 ZN1229 P1 OL1229 u1229_3 u1229_4 u1229_5 u1229_6 hw0) pd_3 rfl at_234 [] rfl 0 (by decide) rfl rfl fun o1236 T1236 L1236 X1236 hQ1236 => ?_
     obtain ⟨rfl, N1236q, e1236⟩ := hQ1236
     have N1236 := Fr.app N1229 N1236q
     refine c_sh 237 [.int 1] rfl rfl <| c_iload X1236 hx hby at_237 rfl <| c_icmpYes X1236 hx hby 244 at_239 (teq (rfl : (1 : Int32) = (1 : Int32))).1 (by decide) <| c_iload X1236 hx hby at_244 rfl <| c_ifNo X1236 hx hby at_246 (by decide) <| c_aload X1236 hx hby at_249 rfl rfl <| c_iconst X1236 hx hby 0 at_251 rfl <| c_callV X1236 hx hby hZ hown hml (gw hw 148 rfl) (gw hw 149 rfl) (gw hw 151 rfl) (gw hw 150 rfl) (gw hw 152 rfl) (gw hw 4 rfl) u1229_3 e1236 (rm31 hw b1229 (0 : Int32) w0 f0 bb1229 kb1229 (1 : Int32) [(.int (c1154.toInt8.toInt32))] (c1154.toInt8.toInt32) (T1229.heap) n0 ZN1229 P1 P2 OL1229 u1229_3 u1229_4 u1229_5 u1229_6 hw0 (by decide) (by decide) rfl hf) pd_29 rfl at_252 [] rfl 0 (by decide) rfl rfl fun o1237 T1237 L1237 X1237 hQ1237 => ?_
     obtain ⟨rfl, N1237q, e1237⟩ := hQ1237
     have N1237 := Fr.app N1236 N1237q
     refine c_sh 255 [.int (((c1154.toInt8.toInt32) &&& (255 : Int32)).toUInt32.toUInt16.toUInt32.toInt32)] rfl rfl <| c_aload X1237 hx hby at_255 rfl rfl <| c_iload X1237 hx hby at_257 rfl <| c_iconst X1237 hx hby 1 at_259 rfl <| c_iadd X1237 hx hby at_260 <| c_sh 261 [.int 1, .ref b1151, .int (((c1154.toInt8.toInt32) &&& (255 : Int32)).toUInt32.toUInt16.toUInt32.toInt32)] rfl rfl <| c_cal X1237 hx hby hZ e1237 cc1235 (by decide) (.int c1154) rfl at_261 <| c_icmpYes X1237 hx hby 267 at_262 (teq (own_bk u1154_1)).1 (by decide) <| c_iload X1237 hx hby at_267 rfl <| c_iconst X1237 hx hby 1 at_269 rfl <| c_icmpYes X1237 hx hby 291 at_270 (by decide) (by decide) <| c_iload X1237 hx hby at_291 rfl <| c_iconst X1237 hx hby 2 at_293 rfl <| c_icmpYes X1237 hx hby 315 at_294 (by decide) (by decide) <| c_iload X1237 hx hby at_315 rfl <| c_iconst X1237 hx hby 3 at_317 rfl <| c_icmpYes X1237 hx hby 339 at_318 (by decide) (by decide) <| c_iconst X1237 hx hby 1 at_339 rfl ?_
     refine goRetH X1237 hZ (own_EW hw) ch1229 hh e1237 hS1205 HK1229 hx Bd.notSynchronized Bd.returns rfl (Or.inl ⟨rfl, Or.inr (Or.inl rfl), _, rfl⟩) (hb hby at_340) (by decide) (by decide) ⟨rfl, N1237⟩
    ·refine c_aload X1207 hx hby at_137 rfl rfl ?_
     have cc1239 := A1206.keep K1207
     have cc1240 := (((A1157.keep K1158).ext E1205).ext E1206).keep K1207
     have cc1241 := ((u1158_6.ext E1205).ext E1206).keep K1207 (ninS ne1212 nin0)
     have cc1242 := ((u1158_5.ext E1205).ext E1206).keep K1207 (ninS ne1212 nin0)
     have cc1243 := ((u1158_4.ext E1205).ext E1206).keep K1207 (ninS ne1211 nin0)
     refine c_callV X1207 hx hby hZ hown hml (gw hw 40 rfl) (gw hw 41 rfl) (gw hw 43 rfl) (gw hw 42 rfl) (gw hw 44 rfl) (gw hw 26 rfl) cc1239 rfl (rmSN2_m1 hw b1206 b1157 w0 f0 b1158 kb1158 (c1152.toInt8.toInt32) (c1154.toInt8.toInt32) (T1207.heap) n0 ZN1207 cc1239 u1207_1 P1 P2 OL1207 cc1240 cc1241 cc1242 cc1243 hw0 hf (fun qq => hk0_1228 ((own_46 u1152_1).mp qq)) (fun qq => hk1_1215 ((own_46 u1154_1).mp qq))) pd_27 rfl at_139 [] rfl 0 (by decide) rfl rfl fun o1238 T1238 L1238 X1238 hQ1238 => ?_
     obtain ⟨rfl, N1238q, e1238⟩ := hQ1238
     have N1238 := Fr.app N1207 N1238q
     refine c_sh 142 [.ref b1157] rfl rfl <| c_astore X1238 hx hby _ at_142 rfl rfl <| c_iconst X1238 hx hby (-1) at_144 rfl <| c_istore X1238 hx hby _ at_145 rfl <| c_iload X1238 hx hby at_147 rfl <| c_ifNo X1238 hx hby at_149 (by decide) <| c_aload X1238 hx hby at_152 rfl rfl <| c_iconst X1238 hx hby 0 at_154 rfl <| c_shL #[iv p1, iv p2, iv p3, iv p4, iv p5, iv p6, iv 2, rv b1151, rv b1157, rv t1205, rv b1206, rv b1157, iv (-1), .unset] rfl ?_
     have cc1244 := (((cc1161.keep K1158 (ninS (Ne.symm ne1162) nin0)).ext E1205).ext E1206).keep K1207 (ninS ne1210 nin0)
     refine c_cal X1238 hx hby hZ e1238 cc1244 (by decide) (.int c1152) rfl at_155 <| c_bipush X1238 hx hby 46 at_156 rfl <| c_icmpYes X1238 hx hby 164 at_158 (feq hk0_1228).2 (by decide) <| c_iload X1238 hx hby at_164 rfl <| c_iconst X1238 hx hby 1 at_166 rfl <| c_icmpNo X1238 hx hby at_167 (by decide) <| c_aload X1238 hx hby at_170 rfl rfl <| c_iconst X1238 hx hby 1 at_172 rfl <| c_cal X1238 hx hby hZ e1238 cc1244 (by decide) (.int c1154) rfl at_173 <| c_bipush X1238 hx hby 46 at_174 rfl <| c_icmpYes X1238 hx hby 182 at_176 (feq hk1_1215).2 (by decide) <| c_iload X1238 hx hby at_182 rfl <| c_iconst X1238 hx hby 2 at_184 rfl <| c_icmpYes X1238 hx hby 200 at_185 (by decide) (by decide) <| c_iload X1238 hx hby at_200 rfl <| c_iconst X1238 hx hby 3 at_202 rfl <| c_icmpYes X1238 hx hby 218 at_203 (by decide) (by decide) <| c_iload X1238 hx hby at_218 rfl <| c_iload X1238 hx hby at_220 rfl <| c_isub X1238 hx hby at_222 <| c_sh 223 [.int 3] rfl rfl <| c_iconst X1238 hx hby 1 at_223 rfl <| c_isub X1238 hx hby at_224 <| c_sh 225 [.int 2] rfl rfl <| c_istore X1238 hx hby _ at_225 rfl <| c_aload X1238 hx hby at_227 rfl rfl <| c_ifnullNo X1238 hx hby at_229 <| c_aload X1238 hx hby at_232 rfl rfl <| c_shL #[iv p1, iv p2, iv p3, iv p4, iv p5, iv p6, iv 2, rv b1151, rv b1157, rv t1205, rv b1206, rv b1157, iv (-1), iv 2] rfl <| c_callV X1238 hx hby hZ hown hml (gw hw 100 rfl) (gw hw 51 rfl) (gw hw 53 rfl) (gw hw 52 rfl) (gw hw 54 rfl) (gw hw 4 rfl) cc1240 e1238 (rm8 hw b1157 w0 b1158 kb1158 (2 : Int32) [(.int (c1152.toInt8.toInt32)), (.int (c1154.toInt8.toInt32))] (T1207.heap) n0 ZN1207 P1 OL1207 cc1240 cc1241 cc1242 cc1243 hw0) pd_3 rfl at_234 [] rfl 0 (by decide) rfl rfl fun o1245 T1245 L1245 X1245 hQ1245 => ?_
     obtain ⟨rfl, N1245q, e1245⟩ := hQ1245
     have N1245 := Fr.app N1238 N1245q
     refine c_sh 237 [.int 2] rfl rfl <| c_iload X1245 hx hby at_237 rfl <| c_icmpYes X1245 hx hby 244 at_239 (teq (rfl : (2 : Int32) = (2 : Int32))).1 (by decide) <| c_iload X1245 hx hby at_244 rfl <| c_ifNo X1245 hx hby at_246 (by decide) <| c_aload X1245 hx hby at_249 rfl rfl <| c_iconst X1245 hx hby 0 at_251 rfl <| c_callV X1245 hx hby hZ hown hml (gw hw 148 rfl) (gw hw 149 rfl) (gw hw 151 rfl) (gw hw 150 rfl) (gw hw 152 rfl) (gw hw 4 rfl) cc1240 e1245 (rm31 hw b1157 (0 : Int32) w0 f0 b1158 kb1158 (2 : Int32) [(.int (c1152.toInt8.toInt32)), (.int (c1154.toInt8.toInt32))] (c1152.toInt8.toInt32) (T1207.heap) n0 ZN1207 P1 P2 OL1207 cc1240 cc1241 cc1242 cc1243 hw0 (by decide) (by decide) rfl hf) pd_29 rfl at_252 [] rfl 0 (by decide) rfl rfl fun o1246 T1246 L1246 X1246 hQ1246 => ?_
     obtain ⟨rfl, N1246q, e1246⟩ := hQ1246
     have N1246 := Fr.app N1245 N1246q
     refine c_sh 255 [.int (((c1152.toInt8.toInt32) &&& (255 : Int32)).toUInt32.toUInt16.toUInt32.toInt32)] rfl rfl <| c_aload X1246 hx hby at_255 rfl rfl <| c_iload X1246 hx hby at_257 rfl <| c_iconst X1246 hx hby 1 at_259 rfl <| c_iadd X1246 hx hby at_260 <| c_sh 261 [.int 0, .ref b1151, .int (((c1152.toInt8.toInt32) &&& (255 : Int32)).toUInt32.toUInt16.toUInt32.toInt32)] rfl rfl <| c_cal X1246 hx hby hZ e1246 cc1244 (by decide) (.int c1152) rfl at_261 <| c_icmpYes X1246 hx hby 267 at_262 (teq (own_bk u1152_1)).1 (by decide) <| c_iload X1246 hx hby at_267 rfl <| c_iconst X1246 hx hby 1 at_269 rfl <| c_icmpNo X1246 hx hby at_270 (by decide) <| c_aload X1246 hx hby at_273 rfl rfl <| c_iconst X1246 hx hby 1 at_275 rfl <| c_callV X1246 hx hby hZ hown hml (gw hw 148 rfl) (gw hw 149 rfl) (gw hw 151 rfl) (gw hw 150 rfl) (gw hw 152 rfl) (gw hw 4 rfl) cc1240 e1246 (rm31 hw b1157 (1 : Int32) w0 f0 b1158 kb1158 (2 : Int32) [(.int (c1152.toInt8.toInt32)), (.int (c1154.toInt8.toInt32))] (c1154.toInt8.toInt32) (T1207.heap) n0 ZN1207 P1 P2 OL1207 cc1240 cc1241 cc1242 cc1243 hw0 (by decide) (by decide) rfl hf) pd_29 rfl at_276 [] rfl 0 (by decide) rfl rfl fun o1247 T1247 L1247 X1247 hQ1247 => ?_
     obtain ⟨rfl, N1247q, e1247⟩ := hQ1247
     have N1247 := Fr.app N1246 N1247q
     refine c_sh 279 [.int (((c1154.toInt8.toInt32) &&& (255 : Int32)).toUInt32.toUInt16.toUInt32.toInt32)] rfl rfl <| c_aload X1247 hx hby at_279 rfl rfl <| c_iload X1247 hx hby at_281 rfl <| c_iconst X1247 hx hby 2 at_283 rfl <| c_iadd X1247 hx hby at_284 <| c_sh 285 [.int 1, .ref b1151, .int (((c1154.toInt8.toInt32) &&& (255 : Int32)).toUInt32.toUInt16.toUInt32.toInt32)] rfl rfl <| c_cal X1247 hx hby hZ e1247 cc1244 (by decide) (.int c1154) rfl at_285 <| c_icmpYes X1247 hx hby 291 at_286 (teq (own_bk u1154_1)).1 (by decide) <| c_iload X1247 hx hby at_291 rfl <| c_iconst X1247 hx hby 2 at_293 rfl <| c_icmpYes X1247 hx hby 315 at_294 (by decide) (by decide) <| c_iload X1247 hx hby at_315 rfl <| c_iconst X1247 hx hby 3 at_317 rfl <| c_icmpYes X1247 hx hby 339 at_318 (by decide) (by decide) <| c_iconst X1247 hx hby 1 at_339 rfl ?_
     refine goRetH X1247 hZ (own_EW hw) ch1207 hh e1247 hS1205 HK1207 hx Bd.notSynchronized Bd.returns rfl (Or.inl ⟨rfl, Or.inr (Or.inl rfl), _, rfl⟩) (hb hby at_340) (by decide) (by decide) ⟨rfl, N1247⟩
 ·refine c_sh 9 [] rfl rfl <| c_iload X0 hx hby at_9 rfl <| c_newP X0 hx hby hZ (gw hw 1 rfl) e0 at_11 (by decide) 3 (by decide) (by decide) "[C" (by first | rfl | decide) fun T1248 h1248 k1248 b1248 g1248 X1248 e1248 E1248 A1248 AE1248 => ?_
  have G_b1248 := Nat.le_trans Z0 (Nat.le_of_eq g1248.symm)
  have KK1248 := (Keep.refl h0 []).ext E1248
  have ZN1248 := Nat.le_trans Z0 E1248.1
  have HK1248 : 0 ≤ h1248.size := Nat.le_trans (Nat.zero_le _) E1248.1
  have OL1248 := P0.ext E1248
  have ch1248 := ch0.trans (CHr.ext E1248 ch0.1)
  have V1248 : Arv Z h1248 b1248 k1248 .char (3 : Int32) [(.int (0 : Int32)), (.int (0 : Int32)), (.int (0 : Int32))] (.int (0 : Int32)) := (Arv.new A1248 (by decide)).pad (pad_rep [] (.int (0 : Int32)) 3)
  refine c_sh 13 [.ref b1248] rfl rfl <| c_astore X1248 hx hby _ at_13 rfl rfl <| c_iload X1248 hx hby at_15 rfl <| c_ifNo X1248 hx hby at_17 (by decide) <| c_aload X1248 hx hby at_20 rfl rfl <| c_iconst X1248 hx hby 0 at_22 rfl <| c_iloadN X1248 hx hby at_23 rfl <| c_iload X1248 hx hby at_24 rfl <| c_iconst X1248 hx hby 3 at_26 rfl <| c_iushr X1248 hx hby at_27 <| c_shL #[iv p1, iv p2, iv p3, iv p4, iv p5, iv p6, iv 3, rv b1248, .unset, .unset, .unset, .unset, .unset, .unset] rfl <| c_callS X1248 hx hby hZ hown hml (gw hw 101 rfl) (gw hw 102 rfl) (gw hw 103 rfl) (gw hw 104 rfl) e1248 (rmPK hw p1 ((p5.toUInt32 >>> ((3 : Int32) &&& 31).toUInt32).toInt32) h1248 n0 ZN1248 ) pd_28 rfl at_28 [.int 0, .ref b1248] rfl 2 (by decide) rfl rfl fun o1249 T1249 L1249 X1249 hQ1249 => ?_
  obtain ⟨c1249, rfl, N1249q, e1249, u1249_1⟩ := hQ1249
  have N1249 := Fr.app N0 N1249q
  refine c_sh 31 [.int c1249, .int 0, .ref b1248] rfl rfl <| c_cst X1249 hx hby hZ e1249 V1248 (by decide) 0 rfl (Nat.le_of_ble_eq_true rfl) at_31 fun T1250 h1250 X1250 e1250 W1250 V1250 => ?_
  rw [own_nc u1249_1] at V1250
  have V1250 : Arv Z h1250 b1248 k1248 .char (3 : Int32) [(.int c1249), (.int (0 : Int32)), (.int (0 : Int32))] (.int (0 : Int32)) := V1250
  have KK1250 := KK1248.wr W1250 (Or.inr (Nat.le_trans (Keep.refl h0 []).1 (Nat.le_of_eq g1248.symm)))
  have ZN1250 := Nat.le_trans ZN1248 (Keep.of_wr W1250).1
  have HK1250 : 0 ≤ h1250.size := Nat.le_trans HK1248 (Keep.of_wr W1250).1
  have NN1250 := Fr.snoc X1250 N1249 G_b1248
  have OL1250 := OL1248.wr W1250 G_b1248
  have ch1250 := ch1248.trans (CHr.wr W1250 (Safe.exa hZ.alike AE1248 (by decide) (by decide)) ch1248.1)
  refine c_sh 32 [] rfl rfl <| c_iload X1250 hx hby at_32 rfl <| c_iconst X1250 hx hby 1 at_34 rfl <| c_icmpNo X1250 hx hby at_35 (by decide) <| c_aload X1250 hx hby at_38 rfl rfl <| c_iconst X1250 hx hby 1 at_40 rfl <| c_iloadN X1250 hx hby at_41 rfl <| c_iload X1250 hx hby at_42 rfl <| c_iconst X1250 hx hby 4 at_44 rfl <| c_iushr X1250 hx hby at_45 <| c_callS X1250 hx hby hZ hown hml (gw hw 101 rfl) (gw hw 102 rfl) (gw hw 103 rfl) (gw hw 104 rfl) e1250 (rmPK hw p2 ((p5.toUInt32 >>> ((4 : Int32) &&& 31).toUInt32).toInt32) h1250 n0 ZN1250 ) pd_28 rfl at_46 [.int 1, .ref b1248] rfl 2 (by decide) rfl rfl fun o1251 T1251 L1251 X1251 hQ1251 => ?_
  obtain ⟨c1251, rfl, N1251q, e1251, u1251_1⟩ := hQ1251
  have N1251 := Fr.app NN1250 N1251q
  refine c_sh 49 [.int c1251, .int 1, .ref b1248] rfl rfl <| c_cst X1251 hx hby hZ e1251 V1250 (by decide) 1 rfl (Nat.le_of_ble_eq_true rfl) at_49 fun T1252 h1252 X1252 e1252 W1252 V1252 => ?_
  rw [own_nc u1251_1] at V1252
  have V1252 : Arv Z h1252 b1248 k1248 .char (3 : Int32) [(.int c1249), (.int c1251), (.int (0 : Int32))] (.int (0 : Int32)) := V1252
  have cc1253 := AE1248.wr W1250
  have KK1252 := KK1250.wr W1252 (Or.inr (Nat.le_trans (Keep.refl h0 []).1 (Nat.le_of_eq g1248.symm)))
  have ZN1252 := Nat.le_trans ZN1250 (Keep.of_wr W1252).1
  have HK1252 : 0 ≤ h1252.size := Nat.le_trans HK1250 (Keep.of_wr W1252).1
  have NN1252 := Fr.snoc X1252 N1251 G_b1248
  have OL1252 := OL1250.wr W1252 G_b1248
  have ch1252 := ch1250.trans (CHr.wr W1252 (Safe.exa hZ.alike cc1253 (by decide) (by decide)) ch1250.1)
  refine c_sh 50 [] rfl rfl <| c_iload X1252 hx hby at_50 rfl <| c_iconst X1252 hx hby 2 at_52 rfl <| c_icmpNo X1252 hx hby at_53 (by decide) <| c_aload X1252 hx hby at_56 rfl rfl <| c_iconst X1252 hx hby 2 at_58 rfl <| c_iloadN X1252 hx hby at_59 rfl <| c_iload X1252 hx hby at_60 rfl <| c_iconst X1252 hx hby 5 at_62 rfl <| c_iushr X1252 hx hby at_63 <| c_callS X1252 hx hby hZ hown hml (gw hw 101 rfl) (gw hw 102 rfl) (gw hw 103 rfl) (gw hw 104 rfl) e1252 (rmPK hw p3 ((p5.toUInt32 >>> ((5 : Int32) &&& 31).toUInt32).toInt32) h1252 n0 ZN1252 ) pd_28 rfl at_64 [.int 2, .ref b1248] rfl 2 (by decide) rfl rfl fun o1254 T1254 L1254 X1254 hQ1254 => ?_
  obtain ⟨c1254, rfl, N1254q, e1254, u1254_1⟩ := hQ1254
  have N1254 := Fr.app NN1252 N1254q
  refine c_sh 67 [.int c1254, .int 2, .ref b1248] rfl rfl <| c_cst X1254 hx hby hZ e1254 V1252 (by decide) 2 rfl (Nat.le_of_ble_eq_true rfl) at_67 fun T1255 h1255 X1255 e1255 W1255 V1255 => ?_
  rw [own_nc u1254_1] at V1255
  have V1255 : Arv Z h1255 b1248 k1248 .char (3 : Int32) [(.int c1249), (.int c1251), (.int c1254)] (.int (0 : Int32)) := V1255
  have cc1256 := cc1253.wr W1252
  have KK1255 := KK1252.wr W1255 (Or.inr (Nat.le_trans (Keep.refl h0 []).1 (Nat.le_of_eq g1248.symm)))
  have ZN1255 := Nat.le_trans ZN1252 (Keep.of_wr W1255).1
  have HK1255 : 0 ≤ h1255.size := Nat.le_trans HK1252 (Keep.of_wr W1255).1
  have NN1255 := Fr.snoc X1255 N1254 G_b1248
  have OL1255 := OL1252.wr W1255 G_b1248
  have ch1255 := ch1252.trans (CHr.wr W1255 (Safe.exa hZ.alike cc1256 (by decide) (by decide)) ch1252.1)
  refine c_sh 68 [] rfl rfl <| c_iload X1255 hx hby at_68 rfl <| c_iconst X1255 hx hby 3 at_70 rfl <| c_icmpYes X1255 hx hby 87 at_71 (by decide) (by decide) <| c_new X1255 hx hby hZ hown (gw hw 2 rfl) (gw hw 3 rfl) (gw hw 4 rfl) e1255 at_87 (by decide) fun T1257 h1257 b1257 g1257 X1257 e1257 E1257 A1257 D1257 => ?_
  have G_b1257 := Nat.le_trans ZN1255 (Nat.le_of_eq g1257.symm)
  have KK1257 := KK1255.ext E1257
  have ZN1257 := Nat.le_trans ZN1255 E1257.1
  have HK1257 := Nat.le_trans HK1255 E1257.1
  have OL1257 := OL1255.ext E1257
  have sf1257_b1257 := Safe.ext E1257 ch1255.1 (Safe.new (Nat.le_of_eq g1257.symm))
  have ch1257 := ch1255.trans (CHr.ext E1257 ch1255.1)
  refine c_sh 90 [.ref b1257] rfl rfl <| c_dup X1257 hx hby at_90 rfl <| c_aload X1257 hx hby at_91 rfl rfl ?_
  have cc1259 := show Fld Z h1257 b1257 "java/lang/String" "value" "[B" .null from D1257 (Or.inr (gw hw 17 rfl)) (ty := (.array .byte)) (by decide)
  have cc1260 := show fC Z h1257 b1257 from D1257 (Or.inr (gw hw 18 rfl)) (ty := .byte) (by decide)
  have cc1261 := V1255.ext E1257
  have ne1262 : b1257 ≠ b1248 := (Ne.symm (Nat.ne_of_lt (Nat.lt_of_lt_of_le (cc1256.wr W1255).lt (Nat.le_of_eq g1257.symm))))
  refine c_init X1257 hx hby hZ hown hml (gw hw 5 rfl) (gw hw 6 rfl) (gw hw 7 rfl) (gw hw 4 rfl) rfl e1257 (rmSJ3 hw b1257 b1248 w0 .null (.int (0 : Int32)) k1248 c1249 c1251 c1254 h1257 n0 ZN1257 P1 OL1257 A1257 cc1259 cc1260 G_b1257 cc1261 ne1262 hw0 u1249_1 u1251_1 u1254_1) pd_24 rfl at_93 [.ref b1257] rfl 1 (by decide) rfl rfl fun o1258 T1258 L1258 X1258 hQ1258 => ?_
  obtain ⟨b1258, kb1258, rfl, N1258q, K1258, u1258_1, u1258_2, u1258_3, u1258_4, u1258_5, u1258_6⟩ := hQ1258
  have N1258 := Fr.app NN1255 N1258q
  have G_b1258 := Nat.le_trans ZN1257 u1258_1
  have KK1258 := KK1257.trans K1258 (allS (P := fun x => x ∈ [] ∨ h0.size ≤ x) (Or.inr (Nat.le_trans KK1255.1 (Nat.le_of_eq g1257.symm))) all0)
  have ZN1258 := Nat.le_trans ZN1257 K1258.1
  have HK1258 : 0 ≤ T1258.heap.size := Nat.le_trans HK1257 K1258.1
  have sf1258_b1257 := Safe.keep K1258 (allS sf1257_b1257 all0) ch1257.1 sf1257_b1257
  have ch1258 := ch1257.trans (CHr.keep K1258 (allS sf1257_b1257 all0) ch1257.1)
  have OL1258 := OL1257.keep K1258 (allS G_b1257 all0)
  refine c_sh 96 [.ref b1257] rfl rfl <| c_astore X1258 hx hby _ at_96 rfl rfl <| c_iload X1258 hx hby at_98 rfl <| c_iconst X1258 hx hby 1 at_100 rfl <| c_iand X1258 hx hby at_101 <| c_shL #[iv p1, iv p2, iv p3, iv p4, iv p5, iv p6, iv 3, rv b1248, rv b1257, .unset, .unset, .unset, .unset, .unset] rfl ?_
  by_cases hc102_1263 : (p6 &&& (1 : Int32)) = (0 : Int32)
  ·refine c_ifYes X1258 hx hby 110 at_102 ((if0 _ _).trans (teq hc102_1263).1) (by decide) <| c_iload X1258 hx hby at_110 rfl <| c_iconst X1258 hx hby 1 at_112 rfl <| c_iushr X1258 hx hby at_113 <| c_sipush X1258 hx hby 255 at_114 rfl <| c_iand X1258 hx hby at_117 <| c_i2c X1258 hx hby at_118 ?_
   rw [i2c_mask]
   refine c_sh 119 [.int (((p6.toUInt32 >>> ((1 : Int32) &&& 31).toUInt32).toInt32) &&& (255 : Int32))] rfl rfl <| c_callS X1258 hx hby hZ hown hml (gw hw 115 rfl) (gw hw 116 rfl) (gw hw 4 rfl) (gw hw 117 rfl) rfl (rm23 hw (((p6.toUInt32 >>> ((1 : Int32) &&& 31).toUInt32).toInt32) &&& (255 : Int32)) w0 (T1258.heap) n0 ZN1258 P1 OL1258 hw0 (own_le (own_chm _))) pd_25 rfl at_119 [] rfl 0 (by decide) rfl rfl fun o1264 T1264 L1264 X1264 hQ1264 => ?_
   obtain ⟨b1264, rfl, N1264q, u1264_0, u1264_1, K1264, u1264_3⟩ := hQ1264
   have N1264 := Fr.app N1258 N1264q
   have G_b1264 := Nat.le_trans ZN1258 u1264_0
   have KK1264 := KK1258.trans K1264 all0
   have ZN1264 := Nat.le_trans ZN1258 K1264.1
   have HK1264 : 0 ≤ T1264.heap.size := Nat.le_trans HK1258 K1264.1
   have sf1264_b1257 := Safe.keep K1264 all0 ch1258.1 sf1258_b1257
   have ch1264 := ch1258.trans (CHr.keep K1264 all0 ch1258.1)
   have OL1264 := OL1258.keep K1264 all0
   refine c_sh 122 [.ref b1264] rfl rfl <| c_astore X1264 hx hby _ at_122 rfl rfl <| c_shL #[iv p1, iv p2, iv p3, iv p4, iv p5, iv p6, iv 3, rv b1248, rv b1257, rv b1264, .unset, .unset, .unset, .unset] rfl <| c_new X1264 hx hby hZ hown (gw hw 24 rfl) (gw hw 25 rfl) (gw hw 26 rfl) rfl at_124 (by decide) fun T1265 h1265 b1265 g1265 X1265 e1265 E1265 A1265 D1265 => ?_
   have G_b1265 := Nat.le_trans ZN1264 (Nat.le_of_eq g1265.symm)
   have KK1265 := KK1264.ext E1265
   have ZN1265 := Nat.le_trans ZN1264 E1265.1
   have HK1265 := Nat.le_trans HK1264 E1265.1
   have OL1265 := OL1264.ext E1265
   have sf1265_b1257 := Safe.ext E1265 ch1264.1 sf1264_b1257
   have ch1265 := ch1264.trans (CHr.ext E1265 ch1264.1)
   refine c_sh 127 [.ref b1265] rfl rfl <| c_dup X1265 hx hby at_127 rfl <| c_aload X1265 hx hby at_128 rfl rfl <| c_aload X1265 hx hby at_130 rfl rfl ?_
   have cc1267 := show Fld Z h1265 b1265 "com/example/fuller_query/fullerquery/knowledge/ApiTypes$ApiType" "packageName" "Ljava/lang/String;" .null from D1265 (Or.inr (gw hw 37 rfl)) (ty := (.object "java/lang/String")) (by decide)
   have cc1268 := show Fld Z h1265 b1265 "com/example/fuller_query/fullerquery/knowledge/ApiTypes$ApiType" "name" "Ljava/lang/String;" .null from D1265 (Or.inr (gw hw 39 rfl)) (ty := (.object "java/lang/String")) (by decide)
   refine c_init X1265 hx hby hZ hown hml (gw hw 27 rfl) (gw hw 28 rfl) (gw hw 29 rfl) (gw hw 26 rfl) rfl e1265 (rm4 hw b1265 b1264 b1257 .null .null h1265 n0 ZN1265 A1265 cc1267 cc1268 G_b1265) pd_26 rfl at_132 [.ref b1265] rfl 1 (by decide) rfl rfl fun o1266 T1266 L1266 X1266 hQ1266 => ?_
   obtain ⟨rfl, N1266q, K1266, u1266_1⟩ := hQ1266
   have N1266 := Fr.app N1264 N1266q
   have ne1269 : b1248 ≠ b1265 := (Nat.ne_of_lt (Nat.lt_of_lt_of_le ((((cc1256.wr W1255).ext E1257).keep K1258).keep K1264).lt (Nat.le_of_eq g1265.symm)))
   have ne1270 : b1258 ≠ b1265 := (Nat.ne_of_lt (Nat.lt_of_lt_of_le (u1258_3.keep K1264).lt (Nat.le_of_eq g1265.symm)))
   have ne1271 : b1257 ≠ b1265 := (Nat.ne_of_lt (Nat.lt_of_lt_of_le ((A1257.keep K1258).keep K1264).lt (Nat.le_of_eq g1265.symm)))
   have KK1266 := KK1265.trans K1266 (allS (P := fun x => x ∈ [] ∨ h0.size ≤ x) (Or.inr (Nat.le_trans KK1264.1 (Nat.le_of_eq g1265.symm))) all0)
   have ZN1266 := Nat.le_trans ZN1265 K1266.1
   have HK1266 : 0 ≤ T1266.heap.size := Nat.le_trans HK1265 K1266.1
   have sf1266_b1257 := Safe.keep K1266 (allS (Safe.exa hZ.alike A1265 (by decide) (by decide)) all0) ch1265.1 sf1265_b1257
   have ch1266 := ch1265.trans (CHr.keep K1266 (allS (Safe.exa hZ.alike A1265 (by decide) (by decide)) all0) ch1265.1)
   have OL1266 := OL1265.keep K1266 (allS G_b1265 all0)
   refine c_sh 135 [.ref b1265] rfl rfl <| c_astore X1266 hx hby _ at_135 rfl rfl <| c_shL #[iv p1, iv p2, iv p3, iv p4, iv p5, iv p6, iv 3, rv b1248, rv b1257, rv b1264, rv b1265, .unset, .unset, .unset] rfl ?_
   by_cases hk2_1272 : c1254 = (46 : Int32)
   ·refine c_aload X1266 hx hby at_137 rfl rfl ?_
    have cc1274 := A1265.keep K1266
    have cc1275 := (((A1257.keep K1258).keep K1264).ext E1265).keep K1266
    have cc1276 := ((u1258_6.keep K1264 nin0).ext E1265).keep K1266 (ninS ne1271 nin0)
    have cc1277 := ((u1258_5.keep K1264 nin0).ext E1265).keep K1266 (ninS ne1271 nin0)
    have cc1278 := ((u1258_4.keep K1264 nin0).ext E1265).keep K1266 (ninS ne1270 nin0)
    refine c_callVH X1266 hx hby hZ hown hml (gw hw 40 rfl) (gw hw 41 rfl) (gw hw 43 rfl) (gw hw 42 rfl) (gw hw 44 rfl) (gw hw 26 rfl) cc1274 rfl (own_EW hw) ch1266 hS0 HK1266 (rmSN3_2 hw b1265 b1257 w0 f0 b1258 kb1258 (c1249.toInt8.toInt32) (c1251.toInt8.toInt32) (c1254.toInt8.toInt32) (T1266.heap) n0 ZN1266 cc1274 u1266_1 P1 P2 OL1266 cc1275 cc1276 cc1277 cc1278 hw0 hf ((own_46 u1254_1).mpr hk2_1272)) pd_27 rfl at_139 [] rfl 0 (by decide) rfl rfl fun o1273 T1273 L1273 X1273 hS1273 hZ hown hR1273 ch1273 hQ1273 => ?_
    have sf1273_b1257 := CHr.safe hR1273 cc1275.lt sf1266_b1257
    obtain ⟨b1273, bb1273, kb1273, rfl, N1273q, K1273, u1273_1, u1273_2, u1273_3, u1273_4⟩ := hQ1273
    have N1273 := Fr.app N1266 N1273q
    have KK1273 := KK1266.trans K1273 all0
    have ZN1273 := Nat.le_trans ZN1266 K1273.1
    have OL1273 := OL1266.keep K1273 all0
    refine c_sh 142 [.ref b1273] rfl rfl <| c_astore X1273 hx hby _ at_142 rfl rfl <| c_iconst X1273 hx hby (-1) at_144 rfl <| c_istore X1273 hx hby _ at_145 rfl <| c_iload X1273 hx hby at_147 rfl <| c_ifNo X1273 hx hby at_149 (by decide) <| c_shL #[iv p1, iv p2, iv p3, iv p4, iv p5, iv p6, iv 3, rv b1248, rv b1257, rv b1264, rv b1265, rv b1273, iv (-1), .unset] rfl ?_
    have J1279 : ∀ (z1280 : Int32), Go (own_EndH Z) p e below s room_1.cells room_1.slots (Q0 Z p1 p2 p3 p4 p5 p6 w0 f0 h0 n0) (T1273.setTop (mkF m 164 #[iv p1, iv p2, iv p3, iv p4, iv p5, iv p6, iv 3, rv b1248, rv b1257, rv b1264, rv b1265, rv b1273, iv z1280, .unset] [])) := by
     intro z1280
     refine c_iload X1273 hx hby at_164 rfl <| c_iconst X1273 hx hby 1 at_166 rfl <| c_icmpNo X1273 hx hby at_167 (by decide) ?_
     have J1281 : ∀ (z1282 : Int32), Go (own_EndH Z) p e below s room_1.cells room_1.slots (Q0 Z p1 p2 p3 p4 p5 p6 w0 f0 h0 n0) (T1273.setTop (mkF m 182 #[iv p1, iv p2, iv p3, iv p4, iv p5, iv p6, iv 3, rv b1248, rv b1257, rv b1264, rv b1265, rv b1273, iv z1282, .unset] [])) := by
      intro z1282
      refine c_iload X1273 hx hby at_182 rfl <| c_iconst X1273 hx hby 2 at_184 rfl <| c_icmpNo X1273 hx hby at_185 (by decide) <| c_aload X1273 hx hby at_188 rfl rfl <| c_iconst X1273 hx hby 2 at_190 rfl ?_
      have cc1283 := ((((cc1261.keep K1258 (ninS (Ne.symm ne1262) nin0)).keep K1264 nin0).ext E1265).keep K1266 (ninS ne1269 nin0)).keep K1273 nin0
      refine c_cal X1273 hx hby hZ rfl cc1283 (by decide) (.int c1254) rfl at_191 <| c_bipush X1273 hx hby 46 at_192 rfl <| c_icmpNo X1273 hx hby at_194 (teq hk2_1272).2 <| c_iconst X1273 hx hby 2 at_197 rfl <| c_istore X1273 hx hby _ at_198 rfl <| c_iload X1273 hx hby at_200 rfl <| c_iconst X1273 hx hby 3 at_202 rfl <| c_icmpYes X1273 hx hby 218 at_203 (by decide) (by decide) <| c_iload X1273 hx hby at_218 rfl <| c_iload X1273 hx hby at_220 rfl <| c_isub X1273 hx hby at_222 <| c_sh 223 [.int 1] rfl rfl <| c_iconst X1273 hx hby 1 at_223 rfl <| c_isub X1273 hx hby at_224 <| c_sh 225 [.int 0] rfl rfl <| c_istore X1273 hx hby _ at_225 rfl <| c_aload X1273 hx hby at_227 rfl rfl <| c_ifnullNo X1273 hx hby at_229 <| c_aload X1273 hx hby at_232 rfl rfl <| c_shL #[iv p1, iv p2, iv p3, iv p4, iv p5, iv p6, iv 3, rv b1248, rv b1257, rv b1264, rv b1265, rv b1273, iv 2, iv 0] rfl <| c_callV X1273 hx hby hZ hown hml (gw hw 100 rfl) (gw hw 51 rfl) (gw hw 53 rfl) (gw hw 52 rfl) (gw hw 54 rfl) (gw hw 4 rfl) u1273_1 rfl (rm8 hw b1273 w0 bb1273 kb1273 (0 : Int32) [] (T1273.heap) n0 ZN1273 P1 OL1273 u1273_1 u1273_2 u1273_3 u1273_4 hw0) pd_3 rfl at_234 [] rfl 0 (by decide) rfl rfl fun o1284 T1284 L1284 X1284 hQ1284 => ?_
      obtain ⟨rfl, N1284q, e1284⟩ := hQ1284
      have N1284 := Fr.app N1273 N1284q
      refine c_sh 237 [.int 0] rfl rfl <| c_iload X1284 hx hby at_237 rfl <| c_icmpYes X1284 hx hby 244 at_239 (teq (rfl : (0 : Int32) = (0 : Int32))).1 (by decide) <| c_iload X1284 hx hby at_244 rfl <| c_ifYes X1284 hx hby 267 at_246 (by decide) (by decide) <| c_iload X1284 hx hby at_267 rfl <| c_iconst X1284 hx hby 1 at_269 rfl <| c_icmpYes X1284 hx hby 291 at_270 (by decide) (by decide) <| c_iload X1284 hx hby at_291 rfl <| c_iconst X1284 hx hby 2 at_293 rfl <| c_icmpYes X1284 hx hby 315 at_294 (by decide) (by decide) <| c_iload X1284 hx hby at_315 rfl <| c_iconst X1284 hx hby 3 at_317 rfl <| c_icmpYes X1284 hx hby 339 at_318 (by decide) (by decide) <| c_iconst X1284 hx hby 1 at_339 rfl ?_
      refine goRetH X1284 hZ (own_EW hw) ch1273 hh e1284 hS1273 (Nat.le_refl _) hx Bd.notSynchronized Bd.returns rfl (Or.inl ⟨rfl, Or.inr (Or.inl rfl), _, rfl⟩) (hb hby at_340) (by decide) (by decide) ⟨rfl, N1284⟩
     refine c_aload X1273 hx hby at_170 rfl rfl <| c_iconst X1273 hx hby 1 at_172 rfl ?_
     have cc1285 := ((((cc1261.keep K1258 (ninS (Ne.symm ne1262) nin0)).keep K1264 nin0).ext E1265).keep K1266 (ninS ne1269 nin0)).keep K1273 nin0
     refine c_cal X1273 hx hby hZ rfl cc1285 (by decide) (.int c1251) rfl at_173 <| c_bipush X1273 hx hby 46 at_174 rfl ?_
     by_cases hc176_1286 : c1251 = (46 : Int32)
     ·refine c_icmpNo X1273 hx hby at_176 (teq hc176_1286).2 <| c_iconst X1273 hx hby 1 at_179 rfl <| c_istore X1273 hx hby _ at_180 rfl <| c_shL #[iv p1, iv p2, iv p3, iv p4, iv p5, iv p6, iv 3, rv b1248, rv b1257, rv b1264, rv b1265, rv b1273, iv 1, .unset] rfl ?_
      exact J1281 _
     ·refine c_icmpYes X1273 hx hby 182 at_176 (feq hc176_1286).2 (by decide) ?_
      exact J1281 _
    refine c_aload X1273 hx hby at_152 rfl rfl <| c_iconst X1273 hx hby 0 at_154 rfl ?_
    have cc1287 := ((((cc1261.keep K1258 (ninS (Ne.symm ne1262) nin0)).keep K1264 nin0).ext E1265).keep K1266 (ninS ne1269 nin0)).keep K1273 nin0
    refine c_cal X1273 hx hby hZ rfl cc1287 (by decide) (.int c1249) rfl at_155 <| c_bipush X1273 hx hby 46 at_156 rfl ?_
    by_cases hc158_1288 : c1249 = (46 : Int32)
    ·refine c_icmpNo X1273 hx hby at_158 (teq hc158_1288).2 <| c_iconst X1273 hx hby 0 at_161 rfl <| c_istore X1273 hx hby _ at_162 rfl <| c_shL #[iv p1, iv p2, iv p3, iv p4, iv p5, iv p6, iv 3, rv b1248, rv b1257, rv b1264, rv b1265, rv b1273, iv 0, .unset] rfl ?_
     exact J1279 _
    ·refine c_icmpYes X1273 hx hby 164 at_158 (feq hc158_1288).2 (by decide) ?_
     exact J1279 _
   ·by_cases hk1_1289 : c1251 = (46 : Int32)
    ·refine c_aload X1266 hx hby at_137 rfl rfl ?_
     have cc1291 := A1265.keep K1266
     have cc1292 := (((A1257.keep K1258).keep K1264).ext E1265).keep K1266
     have cc1293 := ((u1258_6.keep K1264 nin0).ext E1265).keep K1266 (ninS ne1271 nin0)
     have cc1294 := ((u1258_5.keep K1264 nin0).ext E1265).keep K1266 (ninS ne1271 nin0)
     have cc1295 := ((u1258_4.keep K1264 nin0).ext E1265).keep K1266 (ninS ne1270 nin0)
     refine c_callV X1266 hx hby hZ hown hml (gw hw 40 rfl) (gw hw 41 rfl) (gw hw 43 rfl) (gw hw 42 rfl) (gw hw 44 rfl) (gw hw 26 rfl) cc1291 rfl (rmSN3_1 hw b1265 b1257 w0 f0 b1258 kb1258 (c1249.toInt8.toInt32) (c1251.toInt8.toInt32) (c1254.toInt8.toInt32) (T1266.heap) n0 ZN1266 cc1291 u1266_1 P1 P2 OL1266 cc1292 cc1293 cc1294 cc1295 hw0 hf ((own_46 u1251_1).mpr hk1_1289) (fun qq => hk2_1272 ((own_46 u1254_1).mp qq))) pd_27 rfl at_139 [] rfl 0 (by decide) rfl rfl fun o1290 T1290 L1290 X1290 hQ1290 => ?_
     obtain ⟨b1290, bb1290, kb1290, rfl, N1290q, u1290_0, u1290_1, K1290, u1290_3, u1290_4, u1290_5, u1290_6⟩ := hQ1290
     have N1290 := Fr.app N1266 N1290q
     have G_b1290 := Nat.le_trans ZN1266 u1290_0
     have KK1290 := KK1266.trans K1290 all0
     have ZN1290 := Nat.le_trans ZN1266 K1290.1
     have HK1290 : 0 ≤ T1290.heap.size := Nat.le_trans HK1266 K1290.1
     have sf1290_b1257 := Safe.keep K1290 all0 ch1266.1 sf1266_b1257
     have ch1290 := ch1266.trans (CHr.keep K1290 all0 ch1266.1)
     have OL1290 := OL1266.keep K1290 all0
     refine c_sh 142 [.ref b1290] rfl rfl <| c_astore X1290 hx hby _ at_142 rfl rfl <| c_iconst X1290 hx hby (-1) at_144 rfl <| c_istore X1290 hx hby _ at_145 rfl <| c_iload X1290 hx hby at_147 rfl <| c_ifNo X1290 hx hby at_149 (by decide) <| c_shL #[iv p1, iv p2, iv p3, iv p4, iv p5, iv p6, iv 3, rv b1248, rv b1257, rv b1264, rv b1265, rv b1290, iv (-1), .unset] rfl ?_
     have J1296 : ∀ (z1297 : Int32), Go (own_EndH Z) p e below s room_1.cells room_1.slots (Q0 Z p1 p2 p3 p4 p5 p6 w0 f0 h0 n0) (T1290.setTop (mkF m 164 #[iv p1, iv p2, iv p3, iv p4, iv p5, iv p6, iv 3, rv b1248, rv b1257, rv b1264, rv b1265, rv b1290, iv z1297, .unset] [])) := by
      intro z1297
      refine c_iload X1290 hx hby at_164 rfl <| c_iconst X1290 hx hby 1 at_166 rfl <| c_icmpNo X1290 hx hby at_167 (by decide) <| c_aload X1290 hx hby at_170 rfl rfl <| c_iconst X1290 hx hby 1 at_172 rfl ?_
      have cc1298 := ((((cc1261.keep K1258 (ninS (Ne.symm ne1262) nin0)).keep K1264 nin0).ext E1265).keep K1266 (ninS ne1269 nin0)).keep K1290 nin0
      refine c_cal X1290 hx hby hZ rfl cc1298 (by decide) (.int c1251) rfl at_173 <| c_bipush X1290 hx hby 46 at_174 rfl <| c_icmpNo X1290 hx hby at_176 (teq hk1_1289).2 <| c_iconst X1290 hx hby 1 at_179 rfl <| c_istore X1290 hx hby _ at_180 rfl <| c_iload X1290 hx hby at_182 rfl <| c_iconst X1290 hx hby 2 at_184 rfl <| c_icmpNo X1290 hx hby at_185 (by decide) <| c_aload X1290 hx hby at_188 rfl rfl <| c_iconst X1290 hx hby 2 at_190 rfl <| c_sh 191 _ rfl rfl <| c_cal X1290 hx hby hZ rfl cc1298 (by decide) (.int c1254) rfl at_191 <| c_bipush X1290 hx hby 46 at_192 rfl <| c_icmpYes X1290 hx hby 200 at_194 (feq hk2_1272).2 (by decide) <| c_iload X1290 hx hby at_200 rfl <| c_iconst X1290 hx hby 3 at_202 rfl <| c_icmpYes X1290 hx hby 218 at_203 (by decide) (by decide) <| c_iload X1290 hx hby at_218 rfl <| c_iload X1290 hx hby at_220 rfl <| c_isub X1290 hx hby at_222 <| c_sh 223 [.int 2] rfl rfl <| c_iconst X1290 hx hby 1 at_223 rfl <| c_isub X1290 hx hby at_224 <| c_sh 225 [.int 1] rfl rfl <| c_istore X1290 hx hby _ at_225 rfl <| c_aload X1290 hx hby at_227 rfl rfl <| c_ifnullNo X1290 hx hby at_229 <| c_aload X1290 hx hby at_232 rfl rfl <| c_shL #[iv p1, iv p2, iv p3, iv p4, iv p5, iv p6, iv 3, rv b1248, rv b1257, rv b1264, rv b1265, rv b1290, iv 1, iv 1] rfl <| c_callV X1290 hx hby hZ hown hml (gw hw 100 rfl) (gw hw 51 rfl) (gw hw 53 rfl) (gw hw 52 rfl) (gw hw 54 rfl) (gw hw 4 rfl) u1290_3 rfl (rm8 hw b1290 w0 bb1290 kb1290 (1 : Int32) [(.int (c1254.toInt8.toInt32))] (T1290.heap) n0 ZN1290 P1 OL1290 u1290_3 u1290_4 u1290_5 u1290_6 hw0) pd_3 rfl at_234 [] rfl 0 (by decide) rfl rfl fun o1299 T1299 L1299 X1299 hQ1299 => ?_
      obtain ⟨rfl, N1299q, e1299⟩ := hQ1299
      have N1299 := Fr.app N1290 N1299q
      refine c_sh 237 [.int 1] rfl rfl <| c_iload X1299 hx hby at_237 rfl <| c_icmpYes X1299 hx hby 244 at_239 (teq (rfl : (1 : Int32) = (1 : Int32))).1 (by decide) <| c_iload X1299 hx hby at_244 rfl <| c_ifNo X1299 hx hby at_246 (by decide) <| c_aload X1299 hx hby at_249 rfl rfl <| c_iconst X1299 hx hby 0 at_251 rfl <| c_callV X1299 hx hby hZ hown hml (gw hw 148 rfl) (gw hw 149 rfl) (gw hw 151 rfl) (gw hw 150 rfl) (gw hw 152 rfl) (gw hw 4 rfl) u1290_3 e1299 (rm31 hw b1290 (0 : Int32) w0 f0 bb1290 kb1290 (1 : Int32) [(.int (c1254.toInt8.toInt32))] (c1254.toInt8.toInt32) (T1290.heap) n0 ZN1290 P1 P2 OL1290 u1290_3 u1290_4 u1290_5 u1290_6 hw0 (by decide) (by decide) rfl hf) pd_29 rfl at_252 [] rfl 0 (by decide) rfl rfl fun o1300 T1300 L1300 X1300 hQ1300 => ?_
      obtain ⟨rfl, N1300q, e1300⟩ := hQ1300
      have N1300 := Fr.app N1299 N1300q
      refine c_sh 255 [.int (((c1254.toInt8.toInt32) &&& (255 : Int32)).toUInt32.toUInt16.toUInt32.toInt32)] rfl rfl <| c_aload X1300 hx hby at_255 rfl rfl <| c_iload X1300 hx hby at_257 rfl <| c_iconst X1300 hx hby 1 at_259 rfl <| c_iadd X1300 hx hby at_260 <| c_sh 261 [.int 2, .ref b1248, .int (((c1254.toInt8.toInt32) &&& (255 : Int32)).toUInt32.toUInt16.toUInt32.toInt32)] rfl rfl <| c_cal X1300 hx hby hZ e1300 cc1298 (by decide) (.int c1254) rfl at_261 <| c_icmpYes X1300 hx hby 267 at_262 (teq (own_bk u1254_1)).1 (by decide) <| c_iload X1300 hx hby at_267 rfl <| c_iconst X1300 hx hby 1 at_269 rfl <| c_icmpYes X1300 hx hby 291 at_270 (by decide) (by decide) <| c_iload X1300 hx hby at_291 rfl <| c_iconst X1300 hx hby 2 at_293 rfl <| c_icmpYes X1300 hx hby 315 at_294 (by decide) (by decide) <| c_iload X1300 hx hby at_315 rfl <| c_iconst X1300 hx hby 3 at_317 rfl <| c_icmpYes X1300 hx hby 339 at_318 (by decide) (by decide) <| c_iconst X1300 hx hby 1 at_339 rfl ?_
      refine goRetH X1300 hZ (own_EW hw) ch1290 hh e1300 hS0 HK1290 hx Bd.notSynchronized Bd.returns rfl (Or.inl ⟨rfl, Or.inr (Or.inl rfl), _, rfl⟩) (hb hby at_340) (by decide) (by decide) ⟨rfl, N1300⟩
     refine c_aload X1290 hx hby at_152 rfl rfl <| c_iconst X1290 hx hby 0 at_154 rfl ?_
     have cc1301 := ((((cc1261.keep K1258 (ninS (Ne.symm ne1262) nin0)).keep K1264 nin0).ext E1265).keep K1266 (ninS ne1269 nin0)).keep K1290 nin0
     refine c_cal X1290 hx hby hZ rfl cc1301 (by decide) (.int c1249) rfl at_155 <| c_bipush X1290 hx hby 46 at_156 rfl ?_
     by_cases hc158_1302 : c1249 = (46 : Int32)
     ·refine c_icmpNo X1290 hx hby at_158 (teq hc158_1302).2 <| c_iconst X1290 hx hby 0 at_161 rfl <| c_istore X1290 hx hby _ at_162 rfl <| c_shL #[iv p1, iv p2, iv p3, iv p4, iv p5, iv p6, iv 3, rv b1248, rv b1257, rv b1264, rv b1265, rv b1290, iv 0, .unset] rfl ?_
      exact J1296 _
     ·refine c_icmpYes X1290 hx hby 164 at_158 (feq hc158_1302).2 (by decide) ?_
      exact J1296 _
    ·by_cases hk0_1303 : c1249 = (46 : Int32)
     ·refine c_aload X1266 hx hby at_137 rfl rfl ?_
      have cc1305 := A1265.keep K1266
      have cc1306 := (((A1257.keep K1258).keep K1264).ext E1265).keep K1266
      have cc1307 := ((u1258_6.keep K1264 nin0).ext E1265).keep K1266 (ninS ne1271 nin0)
      have cc1308 := ((u1258_5.keep K1264 nin0).ext E1265).keep K1266 (ninS ne1271 nin0)
      have cc1309 := ((u1258_4.keep K1264 nin0).ext E1265).keep K1266 (ninS ne1270 nin0)
      refine c_callV X1266 hx hby hZ hown hml (gw hw 40 rfl) (gw hw 41 rfl) (gw hw 43 rfl) (gw hw 42 rfl) (gw hw 44 rfl) (gw hw 26 rfl) cc1305 rfl (rmSN3_0 hw b1265 b1257 w0 f0 b1258 kb1258 (c1249.toInt8.toInt32) (c1251.toInt8.toInt32) (c1254.toInt8.toInt32) (T1266.heap) n0 ZN1266 cc1305 u1266_1 P1 P2 OL1266 cc1306 cc1307 cc1308 cc1309 hw0 hf ((own_46 u1249_1).mpr hk0_1303) (fun qq => hk1_1289 ((own_46 u1251_1).mp qq)) (fun qq => hk2_1272 ((own_46 u1254_1).mp qq))) pd_27 rfl at_139 [] rfl 0 (by decide) rfl rfl fun o1304 T1304 L1304 X1304 hQ1304 => ?_
      obtain ⟨b1304, bb1304, kb1304, rfl, N1304q, u1304_0, u1304_1, K1304, u1304_3, u1304_4, u1304_5, u1304_6⟩ := hQ1304
      have N1304 := Fr.app N1266 N1304q
      have G_b1304 := Nat.le_trans ZN1266 u1304_0
      have KK1304 := KK1266.trans K1304 all0
      have ZN1304 := Nat.le_trans ZN1266 K1304.1
      have HK1304 : 0 ≤ T1304.heap.size := Nat.le_trans HK1266 K1304.1
      have sf1304_b1257 := Safe.keep K1304 all0 ch1266.1 sf1266_b1257
      have ch1304 := ch1266.trans (CHr.keep K1304 all0 ch1266.1)
      have OL1304 := OL1266.keep K1304 all0
      refine c_sh 142 [.ref b1304] rfl rfl <| c_astore X1304 hx hby _ at_142 rfl rfl <| c_iconst X1304 hx hby (-1) at_144 rfl <| c_istore X1304 hx hby _ at_145 rfl <| c_iload X1304 hx hby at_147 rfl <| c_ifNo X1304 hx hby at_149 (by decide) <| c_aload X1304 hx hby at_152 rfl rfl <| c_iconst X1304 hx hby 0 at_154 rfl <| c_shL #[iv p1, iv p2, iv p3, iv p4, iv p5, iv p6, iv 3, rv b1248, rv b1257, rv b1264, rv b1265, rv b1304, iv (-1), .unset] rfl ?_
      have cc1310 := ((((cc1261.keep K1258 (ninS (Ne.symm ne1262) nin0)).keep K1264 nin0).ext E1265).keep K1266 (ninS ne1269 nin0)).keep K1304 nin0
      refine c_cal X1304 hx hby hZ rfl cc1310 (by decide) (.int c1249) rfl at_155 <| c_bipush X1304 hx hby 46 at_156 rfl <| c_icmpNo X1304 hx hby at_158 (teq hk0_1303).2 <| c_iconst X1304 hx hby 0 at_161 rfl <| c_istore X1304 hx hby _ at_162 rfl <| c_iload X1304 hx hby at_164 rfl <| c_iconst X1304 hx hby 1 at_166 rfl <| c_icmpNo X1304 hx hby at_167 (by decide) <| c_sh 170 _ rfl rfl <| c_aload X1304 hx hby at_170 rfl rfl <| c_iconst X1304 hx hby 1 at_172 rfl <| c_cal X1304 hx hby hZ rfl cc1310 (by decide) (.int c1251) rfl at_173 <| c_bipush X1304 hx hby 46 at_174 rfl <| c_icmpYes X1304 hx hby 182 at_176 (feq hk1_1289).2 (by decide) <| c_iload X1304 hx hby at_182 rfl <| c_iconst X1304 hx hby 2 at_184 rfl <| c_icmpNo X1304 hx hby at_185 (by decide) <| c_aload X1304 hx hby at_188 rfl rfl <| c_iconst X1304 hx hby 2 at_190 rfl <| c_cal X1304 hx hby hZ rfl cc1310 (by decide) (.int c1254) rfl at_191 <| c_bipush X1304 hx hby 46 at_192 rfl <| c_icmpYes X1304 hx hby 200 at_194 (feq hk2_1272).2 (by decide) <| c_iload X1304 hx hby at_200 rfl <| c_iconst X1304 hx hby 3 at_202 rfl <| c_icmpYes X1304 hx hby 218 at_203 (by decide) (by decide) <| c_iload X1304 hx hby at_218 rfl <| c_iload X1304 hx hby at_220 rfl <| c_isub X1304 hx hby at_222 <| c_sh 223 [.int 3] rfl rfl <| c_iconst X1304 hx hby 1 at_223 rfl <| c_isub X1304 hx hby at_224 <| c_sh 225 [.int 2] rfl rfl <| c_istore X1304 hx hby _ at_225 rfl <| c_aload X1304 hx hby at_227 rfl rfl <| c_ifnullNo X1304 hx hby at_229 <| c_aload X1304 hx hby at_232 rfl rfl <| c_shL #[iv p1, iv p2, iv p3, iv p4, iv p5, iv p6, iv 3, rv b1248, rv b1257, rv b1264, rv b1265, rv b1304, iv 0, iv 2] rfl <| c_callV X1304 hx hby hZ hown hml (gw hw 100 rfl) (gw hw 51 rfl) (gw hw 53 rfl) (gw hw 52 rfl) (gw hw 54 rfl) (gw hw 4 rfl) u1304_3 rfl (rm8 hw b1304 w0 bb1304 kb1304 (2 : Int32) [(.int (c1251.toInt8.toInt32)), (.int (c1254.toInt8.toInt32))] (T1304.heap) n0 ZN1304 P1 OL1304 u1304_3 u1304_4 u1304_5 u1304_6 hw0) pd_3 rfl at_234 [] rfl 0 (by decide) rfl rfl fun o1311 T1311 L1311 X1311 hQ1311 => ?_
      obtain ⟨rfl, N1311q, e1311⟩ := hQ1311
      have N1311 := Fr.app N1304 N1311q
      refine c_sh 237 [.int 2] rfl rfl <| c_iload X1311 hx hby at_237 rfl <| c_icmpYes X1311 hx hby 244 at_239 (teq (rfl : (2 : Int32) = (2 : Int32))).1 (by decide) <| c_iload X1311 hx hby at_244 rfl <| c_ifNo X1311 hx hby at_246 (by decide) <| c_aload X1311 hx hby at_249 rfl rfl <| c_iconst X1311 hx hby 0 at_251 rfl <| c_callV X1311 hx hby hZ hown hml (gw hw 148 rfl) (gw hw 149 rfl) (gw hw 151 rfl) (gw hw 150 rfl) (gw hw 152 rfl) (gw hw 4 rfl) u1304_3 e1311 (rm31 hw b1304 (0 : Int32) w0 f0 bb1304 kb1304 (2 : Int32) [(.int (c1251.toInt8.toInt32)), (.int (c1254.toInt8.toInt32))] (c1251.toInt8.toInt32) (T1304.heap) n0 ZN1304 P1 P2 OL1304 u1304_3 u1304_4 u1304_5 u1304_6 hw0 (by decide) (by decide) rfl hf) pd_29 rfl at_252 [] rfl 0 (by decide) rfl rfl fun o1312 T1312 L1312 X1312 hQ1312 => ?_
      obtain ⟨rfl, N1312q, e1312⟩ := hQ1312
      have N1312 := Fr.app N1311 N1312q
      refine c_sh 255 [.int (((c1251.toInt8.toInt32) &&& (255 : Int32)).toUInt32.toUInt16.toUInt32.toInt32)] rfl rfl <| c_aload X1312 hx hby at_255 rfl rfl <| c_iload X1312 hx hby at_257 rfl <| c_iconst X1312 hx hby 1 at_259 rfl <| c_iadd X1312 hx hby at_260 <| c_sh 261 [.int 1, .ref b1248, .int (((c1251.toInt8.toInt32) &&& (255 : Int32)).toUInt32.toUInt16.toUInt32.toInt32)] rfl rfl <| c_cal X1312 hx hby hZ e1312 cc1310 (by decide) (.int c1251) rfl at_261 <| c_icmpYes X1312 hx hby 267 at_262 (teq (own_bk u1251_1)).1 (by decide) <| c_iload X1312 hx hby at_267 rfl <| c_iconst X1312 hx hby 1 at_269 rfl <| c_icmpNo X1312 hx hby at_270 (by decide) <| c_aload X1312 hx hby at_273 rfl rfl <| c_iconst X1312 hx hby 1 at_275 rfl <| c_callV X1312 hx hby hZ hown hml (gw hw 148 rfl) (gw hw 149 rfl) (gw hw 151 rfl) (gw hw 150 rfl) (gw hw 152 rfl) (gw hw 4 rfl) u1304_3 e1312 (rm31 hw b1304 (1 : Int32) w0 f0 bb1304 kb1304 (2 : Int32) [(.int (c1251.toInt8.toInt32)), (.int (c1254.toInt8.toInt32))] (c1254.toInt8.toInt32) (T1304.heap) n0 ZN1304 P1 P2 OL1304 u1304_3 u1304_4 u1304_5 u1304_6 hw0 (by decide) (by decide) rfl hf) pd_29 rfl at_276 [] rfl 0 (by decide) rfl rfl fun o1313 T1313 L1313 X1313 hQ1313 => ?_
      obtain ⟨rfl, N1313q, e1313⟩ := hQ1313
      have N1313 := Fr.app N1312 N1313q
      refine c_sh 279 [.int (((c1254.toInt8.toInt32) &&& (255 : Int32)).toUInt32.toUInt16.toUInt32.toInt32)] rfl rfl <| c_aload X1313 hx hby at_279 rfl rfl <| c_iload X1313 hx hby at_281 rfl <| c_iconst X1313 hx hby 2 at_283 rfl <| c_iadd X1313 hx hby at_284 <| c_sh 285 [.int 2, .ref b1248, .int (((c1254.toInt8.toInt32) &&& (255 : Int32)).toUInt32.toUInt16.toUInt32.toInt32)] rfl rfl <| c_cal X1313 hx hby hZ e1313 cc1310 (by decide) (.int c1254) rfl at_285 <| c_icmpYes X1313 hx hby 291 at_286 (teq (own_bk u1254_1)).1 (by decide) <| c_iload X1313 hx hby at_291 rfl <| c_iconst X1313 hx hby 2 at_293 rfl <| c_icmpYes X1313 hx hby 315 at_294 (by decide) (by decide) <| c_iload X1313 hx hby at_315 rfl <| c_iconst X1313 hx hby 3 at_317 rfl <| c_icmpYes X1313 hx hby 339 at_318 (by decide) (by decide) <| c_iconst X1313 hx hby 1 at_339 rfl ?_
      refine goRetH X1313 hZ (own_EW hw) ch1304 hh e1313 hS0 HK1304 hx Bd.notSynchronized Bd.returns rfl (Or.inl ⟨rfl, Or.inr (Or.inl rfl), _, rfl⟩) (hb hby at_340) (by decide) (by decide) ⟨rfl, N1313⟩
     ·refine c_aload X1266 hx hby at_137 rfl rfl ?_
      have cc1315 := A1265.keep K1266
      have cc1316 := (((A1257.keep K1258).keep K1264).ext E1265).keep K1266
      have cc1317 := ((u1258_6.keep K1264 nin0).ext E1265).keep K1266 (ninS ne1271 nin0)
      have cc1318 := ((u1258_5.keep K1264 nin0).ext E1265).keep K1266 (ninS ne1271 nin0)
      have cc1319 := ((u1258_4.keep K1264 nin0).ext E1265).keep K1266 (ninS ne1270 nin0)
      refine c_callV X1266 hx hby hZ hown hml (gw hw 40 rfl) (gw hw 41 rfl) (gw hw 43 rfl) (gw hw 42 rfl) (gw hw 44 rfl) (gw hw 26 rfl) cc1315 rfl (rmSN3_m1 hw b1265 b1257 w0 f0 b1258 kb1258 (c1249.toInt8.toInt32) (c1251.toInt8.toInt32) (c1254.toInt8.toInt32) (T1266.heap) n0 ZN1266 cc1315 u1266_1 P1 P2 OL1266 cc1316 cc1317 cc1318 cc1319 hw0 hf (fun qq => hk0_1303 ((own_46 u1249_1).mp qq)) (fun qq => hk1_1289 ((own_46 u1251_1).mp qq)) (fun qq => hk2_1272 ((own_46 u1254_1).mp qq))) pd_27 rfl at_139 [] rfl 0 (by decide) rfl rfl fun o1314 T1314 L1314 X1314 hQ1314 => ?_
      obtain ⟨rfl, N1314q, e1314⟩ := hQ1314
      have N1314 := Fr.app N1266 N1314q
      refine c_sh 142 [.ref b1257] rfl rfl <| c_astore X1314 hx hby _ at_142 rfl rfl <| c_iconst X1314 hx hby (-1) at_144 rfl <| c_istore X1314 hx hby _ at_145 rfl <| c_iload X1314 hx hby at_147 rfl <| c_ifNo X1314 hx hby at_149 (by decide) <| c_aload X1314 hx hby at_152 rfl rfl <| c_iconst X1314 hx hby 0 at_154 rfl <| c_shL #[iv p1, iv p2, iv p3, iv p4, iv p5, iv p6, iv 3, rv b1248, rv b1257, rv b1264, rv b1265, rv b1257, iv (-1), .unset] rfl ?_
      have cc1320 := (((cc1261.keep K1258 (ninS (Ne.symm ne1262) nin0)).keep K1264 nin0).ext E1265).keep K1266 (ninS ne1269 nin0)
      refine c_cal X1314 hx hby hZ e1314 cc1320 (by decide) (.int c1249) rfl at_155 <| c_bipush X1314 hx hby 46 at_156 rfl <| c_icmpYes X1314 hx hby 164 at_158 (feq hk0_1303).2 (by decide) <| c_iload X1314 hx hby at_164 rfl <| c_iconst X1314 hx hby 1 at_166 rfl <| c_icmpNo X1314 hx hby at_167 (by decide) <| c_aload X1314 hx hby at_170 rfl rfl <| c_iconst X1314 hx hby 1 at_172 rfl <| c_cal X1314 hx hby hZ e1314 cc1320 (by decide) (.int c1251) rfl at_173 <| c_bipush X1314 hx hby 46 at_174 rfl <| c_icmpYes X1314 hx hby 182 at_176 (feq hk1_1289).2 (by decide) <| c_iload X1314 hx hby at_182 rfl <| c_iconst X1314 hx hby 2 at_184 rfl <| c_icmpNo X1314 hx hby at_185 (by decide) <| c_aload X1314 hx hby at_188 rfl rfl <| c_iconst X1314 hx hby 2 at_190 rfl <| c_cal X1314 hx hby hZ e1314 cc1320 (by decide) (.int c1254) rfl at_191 <| c_bipush X1314 hx hby 46 at_192 rfl <| c_icmpYes X1314 hx hby 200 at_194 (feq hk2_1272).2 (by decide) <| c_iload X1314 hx hby at_200 rfl <| c_iconst X1314 hx hby 3 at_202 rfl <| c_icmpYes X1314 hx hby 218 at_203 (by decide) (by decide) <| c_iload X1314 hx hby at_218 rfl <| c_iload X1314 hx hby at_220 rfl <| c_isub X1314 hx hby at_222 <| c_sh 223 [.int 4] rfl rfl <| c_iconst X1314 hx hby 1 at_223 rfl <| c_isub X1314 hx hby at_224 <| c_sh 225 [.int 3] rfl rfl <| c_istore X1314 hx hby _ at_225 rfl <| c_aload X1314 hx hby at_227 rfl rfl <| c_ifnullNo X1314 hx hby at_229 <| c_aload X1314 hx hby at_232 rfl rfl <| c_shL #[iv p1, iv p2, iv p3, iv p4, iv p5, iv p6, iv 3, rv b1248, rv b1257, rv b1264, rv b1265, rv b1257, iv (-1), iv 3] rfl <| c_callV X1314 hx hby hZ hown hml (gw hw 100 rfl) (gw hw 51 rfl) (gw hw 53 rfl) (gw hw 52 rfl) (gw hw 54 rfl) (gw hw 4 rfl) cc1316 e1314 (rm8 hw b1257 w0 b1258 kb1258 (3 : Int32) [(.int (c1249.toInt8.toInt32)), (.int (c1251.toInt8.toInt32)), (.int (c1254.toInt8.toInt32))] (T1266.heap) n0 ZN1266 P1 OL1266 cc1316 cc1317 cc1318 cc1319 hw0) pd_3 rfl at_234 [] rfl 0 (by decide) rfl rfl fun o1321 T1321 L1321 X1321 hQ1321 => ?_
      obtain ⟨rfl, N1321q, e1321⟩ := hQ1321
      have N1321 := Fr.app N1314 N1321q
      refine c_sh 237 [.int 3] rfl rfl <| c_iload X1321 hx hby at_237 rfl <| c_icmpYes X1321 hx hby 244 at_239 (teq (rfl : (3 : Int32) = (3 : Int32))).1 (by decide) <| c_iload X1321 hx hby at_244 rfl <| c_ifNo X1321 hx hby at_246 (by decide) <| c_aload X1321 hx hby at_249 rfl rfl <| c_iconst X1321 hx hby 0 at_251 rfl <| c_callV X1321 hx hby hZ hown hml (gw hw 148 rfl) (gw hw 149 rfl) (gw hw 151 rfl) (gw hw 150 rfl) (gw hw 152 rfl) (gw hw 4 rfl) cc1316 e1321 (rm31 hw b1257 (0 : Int32) w0 f0 b1258 kb1258 (3 : Int32) [(.int (c1249.toInt8.toInt32)), (.int (c1251.toInt8.toInt32)), (.int (c1254.toInt8.toInt32))] (c1249.toInt8.toInt32) (T1266.heap) n0 ZN1266 P1 P2 OL1266 cc1316 cc1317 cc1318 cc1319 hw0 (by decide) (by decide) rfl hf) pd_29 rfl at_252 [] rfl 0 (by decide) rfl rfl fun o1322 T1322 L1322 X1322 hQ1322 => ?_
      obtain ⟨rfl, N1322q, e1322⟩ := hQ1322
      have N1322 := Fr.app N1321 N1322q
      refine c_sh 255 [.int (((c1249.toInt8.toInt32) &&& (255 : Int32)).toUInt32.toUInt16.toUInt32.toInt32)] rfl rfl <| c_aload X1322 hx hby at_255 rfl rfl <| c_iload X1322 hx hby at_257 rfl <| c_iconst X1322 hx hby 1 at_259 rfl <| c_iadd X1322 hx hby at_260 <| c_sh 261 [.int 0, .ref b1248, .int (((c1249.toInt8.toInt32) &&& (255 : Int32)).toUInt32.toUInt16.toUInt32.toInt32)] rfl rfl <| c_cal X1322 hx hby hZ e1322 cc1320 (by decide) (.int c1249) rfl at_261 <| c_icmpYes X1322 hx hby 267 at_262 (teq (own_bk u1249_1)).1 (by decide) <| c_iload X1322 hx hby at_267 rfl <| c_iconst X1322 hx hby 1 at_269 rfl <| c_icmpNo X1322 hx hby at_270 (by decide) <| c_aload X1322 hx hby at_273 rfl rfl <| c_iconst X1322 hx hby 1 at_275 rfl <| c_callV X1322 hx hby hZ hown hml (gw hw 148 rfl) (gw hw 149 rfl) (gw hw 151 rfl) (gw hw 150 rfl) (gw hw 152 rfl) (gw hw 4 rfl) cc1316 e1322 (rm31 hw b1257 (1 : Int32) w0 f0 b1258 kb1258 (3 : Int32) [(.int (c1249.toInt8.toInt32)), (.int (c1251.toInt8.toInt32)), (.int (c1254.toInt8.toInt32))] (c1251.toInt8.toInt32) (T1266.heap) n0 ZN1266 P1 P2 OL1266 cc1316 cc1317 cc1318 cc1319 hw0 (by decide) (by decide) rfl hf) pd_29 rfl at_276 [] rfl 0 (by decide) rfl rfl fun o1323 T1323 L1323 X1323 hQ1323 => ?_
      obtain ⟨rfl, N1323q, e1323⟩ := hQ1323
      have N1323 := Fr.app N1322 N1323q
      refine c_sh 279 [.int (((c1251.toInt8.toInt32) &&& (255 : Int32)).toUInt32.toUInt16.toUInt32.toInt32)] rfl rfl <| c_aload X1323 hx hby at_279 rfl rfl <| c_iload X1323 hx hby at_281 rfl <| c_iconst X1323 hx hby 2 at_283 rfl <| c_iadd X1323 hx hby at_284 <| c_sh 285 [.int 1, .ref b1248, .int (((c1251.toInt8.toInt32) &&& (255 : Int32)).toUInt32.toUInt16.toUInt32.toInt32)] rfl rfl <| c_cal X1323 hx hby hZ e1323 cc1320 (by decide) (.int c1251) rfl at_285 <| c_icmpYes X1323 hx hby 291 at_286 (teq (own_bk u1251_1)).1 (by decide) <| c_iload X1323 hx hby at_291 rfl <| c_iconst X1323 hx hby 2 at_293 rfl <| c_icmpNo X1323 hx hby at_294 (by decide) <| c_aload X1323 hx hby at_297 rfl rfl <| c_iconst X1323 hx hby 2 at_299 rfl <| c_callV X1323 hx hby hZ hown hml (gw hw 148 rfl) (gw hw 149 rfl) (gw hw 151 rfl) (gw hw 150 rfl) (gw hw 152 rfl) (gw hw 4 rfl) cc1316 e1323 (rm31 hw b1257 (2 : Int32) w0 f0 b1258 kb1258 (3 : Int32) [(.int (c1249.toInt8.toInt32)), (.int (c1251.toInt8.toInt32)), (.int (c1254.toInt8.toInt32))] (c1254.toInt8.toInt32) (T1266.heap) n0 ZN1266 P1 P2 OL1266 cc1316 cc1317 cc1318 cc1319 hw0 (by decide) (by decide) rfl hf) pd_29 rfl at_300 [] rfl 0 (by decide) rfl rfl fun o1324 T1324 L1324 X1324 hQ1324 => ?_
      obtain ⟨rfl, N1324q, e1324⟩ := hQ1324
      have N1324 := Fr.app N1323 N1324q
      refine c_sh 303 [.int (((c1254.toInt8.toInt32) &&& (255 : Int32)).toUInt32.toUInt16.toUInt32.toInt32)] rfl rfl <| c_aload X1324 hx hby at_303 rfl rfl <| c_iload X1324 hx hby at_305 rfl <| c_iconst X1324 hx hby 3 at_307 rfl <| c_iadd X1324 hx hby at_308 <| c_sh 309 [.int 2, .ref b1248, .int (((c1254.toInt8.toInt32) &&& (255 : Int32)).toUInt32.toUInt16.toUInt32.toInt32)] rfl rfl <| c_cal X1324 hx hby hZ e1324 cc1320 (by decide) (.int c1254) rfl at_309 <| c_icmpYes X1324 hx hby 315 at_310 (teq (own_bk u1254_1)).1 (by decide) <| c_iload X1324 hx hby at_315 rfl <| c_iconst X1324 hx hby 3 at_317 rfl <| c_icmpYes X1324 hx hby 339 at_318 (by decide) (by decide) <| c_iconst X1324 hx hby 1 at_339 rfl ?_
      refine goRetH X1324 hZ (own_EW hw) ch1266 hh e1324 hS0 HK1266 hx Bd.notSynchronized Bd.returns rfl (Or.inl ⟨rfl, Or.inr (Or.inl rfl), _, rfl⟩) (hb hby at_340) (by decide) (by decide) ⟨rfl, N1324⟩
  ·refine c_ifNo X1258 hx hby at_102 ((if0 _ _).trans (feq hc102_1263).1) ?_
   obtain ⟨t1325, T1325, h1325, k1325, bs1325, ks1325, X1325, e1325, E1325, hS1325, hk1325, hZ, hown, LE1325, LC1325, LV1325, LA1325, -, -, cr1325, -, sn1325, st1325⟩ := ldcCH X1258 hx hZ hown (gw hw 23 rfl) (own_wS hw) rfl hS0 HK1258 (own_EW hw) (List.mem_of_getElem? (i := 0) rfl) ch1258.1 (vs := []) (z := (0 : Int32)) ⟨by decide, by decide⟩ (by decide) (by decide) (g := (mkF m 105 #[iv p1, iv p2, iv p3, iv p4, iv p5, iv p6, iv 3, rv b1248, rv b1257, .unset, .unset, .unset, .unset, .unset] [])) rfl (hb hby at_105) (n := 0) (by decide) (by decide) (by decide) (by decide)
   have sf1325_b1257 := CHr.safe cr1325 (A1257.keep K1258).lt sf1258_b1257
   have ch1325 := ch1258.trans cr1325
   have KK1325 := KK1258.ext E1325
   have ZN1325 := Nat.le_trans ZN1258 E1325.1
   have OL1325 := OL1258.ext E1325
   refine go st1325 ?_
   show Go _ p e below s _ _ _ (T1325.setTop (mkF m 107 #[iv p1, iv p2, iv p3, iv p4, iv p5, iv p6, iv 3, rv b1248, rv b1257, .unset, .unset, .unset, .unset, .unset] [.ref t1325]))
   refine c_goto X1325 hx hby 122 at_107 (by decide) <| c_astore X1325 hx hby _ at_122 rfl rfl <| c_shL #[iv p1, iv p2, iv p3, iv p4, iv p5, iv p6, iv 3, rv b1248, rv b1257, rv t1325, .unset, .unset, .unset, .unset] rfl <| c_new X1325 hx hby hZ hown (gw hw 24 rfl) (gw hw 25 rfl) (gw hw 26 rfl) e1325 at_124 (by decide) fun T1326 h1326 b1326 g1326 X1326 e1326 E1326 A1326 D1326 => ?_
   have G_b1326 := Nat.le_trans ZN1325 (Nat.le_of_eq g1326.symm)
   have KK1326 := KK1325.ext E1326
   have ZN1326 := Nat.le_trans ZN1325 E1326.1
   have HK1326 := Nat.le_trans hk1325 E1326.1
   have OL1326 := OL1325.ext E1326
   have sf1326_b1257 := Safe.ext E1326 ch1325.1 sf1325_b1257
   have ch1326 := ch1325.trans (CHr.ext E1326 ch1325.1)
   refine c_sh 127 [.ref b1326] rfl rfl <| c_dup X1326 hx hby at_127 rfl <| c_aload X1326 hx hby at_128 rfl rfl <| c_aload X1326 hx hby at_130 rfl rfl ?_
   have cc1328 := show Fld Z h1326 b1326 "com/example/fuller_query/fullerquery/knowledge/ApiTypes$ApiType" "packageName" "Ljava/lang/String;" .null from D1326 (Or.inr (gw hw 37 rfl)) (ty := (.object "java/lang/String")) (by decide)
   have cc1329 := show Fld Z h1326 b1326 "com/example/fuller_query/fullerquery/knowledge/ApiTypes$ApiType" "name" "Ljava/lang/String;" .null from D1326 (Or.inr (gw hw 39 rfl)) (ty := (.object "java/lang/String")) (by decide)
   refine c_init X1326 hx hby hZ hown hml (gw hw 27 rfl) (gw hw 28 rfl) (gw hw 29 rfl) (gw hw 26 rfl) rfl e1326 (rm4 hw b1326 t1325 b1257 .null .null h1326 n0 ZN1326 A1326 cc1328 cc1329 G_b1326) pd_26 rfl at_132 [.ref b1326] rfl 1 (by decide) rfl rfl fun o1327 T1327 L1327 X1327 hQ1327 => ?_
   obtain ⟨rfl, N1327q, K1327, u1327_1⟩ := hQ1327
   have N1327 := Fr.app N1258 N1327q
   have ne1330 : b1248 ≠ b1326 := (Nat.ne_of_lt (Nat.lt_of_lt_of_le ((((cc1256.wr W1255).ext E1257).keep K1258).ext E1325).lt (Nat.le_of_eq g1326.symm)))
   have ne1331 : b1258 ≠ b1326 := (Nat.ne_of_lt (Nat.lt_of_lt_of_le (u1258_3.ext E1325).lt (Nat.le_of_eq g1326.symm)))
   have ne1332 : b1257 ≠ b1326 := (Nat.ne_of_lt (Nat.lt_of_lt_of_le ((A1257.keep K1258).ext E1325).lt (Nat.le_of_eq g1326.symm)))
   have ne1333 : t1325 ≠ b1326 := (Nat.ne_of_lt (Nat.lt_of_lt_of_le LE1325.lt (Nat.le_of_eq g1326.symm)))
   have ne1334 : bs1325 ≠ b1326 := (Nat.ne_of_lt (Nat.lt_of_lt_of_le LA1325.lt (Nat.le_of_eq g1326.symm)))
   have KK1327 := KK1326.trans K1327 (allS (P := fun x => x ∈ [] ∨ h0.size ≤ x) (Or.inr (Nat.le_trans KK1325.1 (Nat.le_of_eq g1326.symm))) all0)
   have ZN1327 := Nat.le_trans ZN1326 K1327.1
   have HK1327 : k1325 ≤ T1327.heap.size := Nat.le_trans HK1326 K1327.1
   have sf1327_b1257 := Safe.keep K1327 (allS (Safe.exa hZ.alike A1326 (by decide) (by decide)) all0) ch1326.1 sf1326_b1257
   have ch1327 := ch1326.trans (CHr.keep K1327 (allS (Safe.exa hZ.alike A1326 (by decide) (by decide)) all0) ch1326.1)
   have OL1327 := OL1326.keep K1327 (allS G_b1326 all0)
   refine c_sh 135 [.ref b1326] rfl rfl <| c_astore X1327 hx hby _ at_135 rfl rfl <| c_shL #[iv p1, iv p2, iv p3, iv p4, iv p5, iv p6, iv 3, rv b1248, rv b1257, rv t1325, rv b1326, .unset, .unset, .unset] rfl ?_
   by_cases hk2_1335 : c1254 = (46 : Int32)
   ·refine c_aload X1327 hx hby at_137 rfl rfl ?_
    have cc1337 := A1326.keep K1327
    have cc1338 := (((A1257.keep K1258).ext E1325).ext E1326).keep K1327
    have cc1339 := ((u1258_6.ext E1325).ext E1326).keep K1327 (ninS ne1332 nin0)
    have cc1340 := ((u1258_5.ext E1325).ext E1326).keep K1327 (ninS ne1332 nin0)
    have cc1341 := ((u1258_4.ext E1325).ext E1326).keep K1327 (ninS ne1331 nin0)
    refine c_callVH X1327 hx hby hZ hown hml (gw hw 40 rfl) (gw hw 41 rfl) (gw hw 43 rfl) (gw hw 42 rfl) (gw hw 44 rfl) (gw hw 26 rfl) cc1337 rfl (own_EW hw) ch1327 hS1325 HK1327 (rmSN3_2 hw b1326 b1257 w0 f0 b1258 kb1258 (c1249.toInt8.toInt32) (c1251.toInt8.toInt32) (c1254.toInt8.toInt32) (T1327.heap) n0 ZN1327 cc1337 u1327_1 P1 P2 OL1327 cc1338 cc1339 cc1340 cc1341 hw0 hf ((own_46 u1254_1).mpr hk2_1335)) pd_27 rfl at_139 [] rfl 0 (by decide) rfl rfl fun o1336 T1336 L1336 X1336 hS1336 hZ hown hR1336 ch1336 hQ1336 => ?_
    have sf1336_b1257 := CHr.safe hR1336 cc1338.lt sf1327_b1257
    obtain ⟨b1336, bb1336, kb1336, rfl, N1336q, K1336, u1336_1, u1336_2, u1336_3, u1336_4⟩ := hQ1336
    have N1336 := Fr.app N1327 N1336q
    have KK1336 := KK1327.trans K1336 all0
    have ZN1336 := Nat.le_trans ZN1327 K1336.1
    have OL1336 := OL1327.keep K1336 all0
    refine c_sh 142 [.ref b1336] rfl rfl <| c_astore X1336 hx hby _ at_142 rfl rfl <| c_iconst X1336 hx hby (-1) at_144 rfl <| c_istore X1336 hx hby _ at_145 rfl <| c_iload X1336 hx hby at_147 rfl <| c_ifNo X1336 hx hby at_149 (by decide) <| c_shL #[iv p1, iv p2, iv p3, iv p4, iv p5, iv p6, iv 3, rv b1248, rv b1257, rv t1325, rv b1326, rv b1336, iv (-1), .unset] rfl ?_
    have J1342 : ∀ (z1343 : Int32), Go (own_EndH Z) p e below s room_1.cells room_1.slots (Q0 Z p1 p2 p3 p4 p5 p6 w0 f0 h0 n0) (T1336.setTop (mkF m 164 #[iv p1, iv p2, iv p3, iv p4, iv p5, iv p6, iv 3, rv b1248, rv b1257, rv t1325, rv b1326, rv b1336, iv z1343, .unset] [])) := by
     intro z1343
     refine c_iload X1336 hx hby at_164 rfl <| c_iconst X1336 hx hby 1 at_166 rfl <| c_icmpNo X1336 hx hby at_167 (by decide) ?_
     have J1344 : ∀ (z1345 : Int32), Go (own_EndH Z) p e below s room_1.cells room_1.slots (Q0 Z p1 p2 p3 p4 p5 p6 w0 f0 h0 n0) (T1336.setTop (mkF m 182 #[iv p1, iv p2, iv p3, iv p4, iv p5, iv p6, iv 3, rv b1248, rv b1257, rv t1325, rv b1326, rv b1336, iv z1345, .unset] [])) := by
      intro z1345
      refine c_iload X1336 hx hby at_182 rfl <| c_iconst X1336 hx hby 2 at_184 rfl <| c_icmpNo X1336 hx hby at_185 (by decide) <| c_aload X1336 hx hby at_188 rfl rfl <| c_iconst X1336 hx hby 2 at_190 rfl ?_
      have cc1346 := ((((cc1261.keep K1258 (ninS (Ne.symm ne1262) nin0)).ext E1325).ext E1326).keep K1327 (ninS ne1330 nin0)).keep K1336 nin0
      refine c_cal X1336 hx hby hZ rfl cc1346 (by decide) (.int c1254) rfl at_191 <| c_bipush X1336 hx hby 46 at_192 rfl <| c_icmpNo X1336 hx hby at_194 (teq hk2_1335).2 <| c_iconst X1336 hx hby 2 at_197 rfl <| c_istore X1336 hx hby _ at_198 rfl <| c_iload X1336 hx hby at_200 rfl <| c_iconst X1336 hx hby 3 at_202 rfl <| c_icmpYes X1336 hx hby 218 at_203 (by decide) (by decide) <| c_iload X1336 hx hby at_218 rfl <| c_iload X1336 hx hby at_220 rfl <| c_isub X1336 hx hby at_222 <| c_sh 223 [.int 1] rfl rfl <| c_iconst X1336 hx hby 1 at_223 rfl <| c_isub X1336 hx hby at_224 <| c_sh 225 [.int 0] rfl rfl <| c_istore X1336 hx hby _ at_225 rfl <| c_aload X1336 hx hby at_227 rfl rfl <| c_ifnullNo X1336 hx hby at_229 <| c_aload X1336 hx hby at_232 rfl rfl <| c_shL #[iv p1, iv p2, iv p3, iv p4, iv p5, iv p6, iv 3, rv b1248, rv b1257, rv t1325, rv b1326, rv b1336, iv 2, iv 0] rfl <| c_callV X1336 hx hby hZ hown hml (gw hw 100 rfl) (gw hw 51 rfl) (gw hw 53 rfl) (gw hw 52 rfl) (gw hw 54 rfl) (gw hw 4 rfl) u1336_1 rfl (rm8 hw b1336 w0 bb1336 kb1336 (0 : Int32) [] (T1336.heap) n0 ZN1336 P1 OL1336 u1336_1 u1336_2 u1336_3 u1336_4 hw0) pd_3 rfl at_234 [] rfl 0 (by decide) rfl rfl fun o1347 T1347 L1347 X1347 hQ1347 => ?_
      obtain ⟨rfl, N1347q, e1347⟩ := hQ1347
      have N1347 := Fr.app N1336 N1347q
      refine c_sh 237 [.int 0] rfl rfl <| c_iload X1347 hx hby at_237 rfl <| c_icmpYes X1347 hx hby 244 at_239 (teq (rfl : (0 : Int32) = (0 : Int32))).1 (by decide) <| c_iload X1347 hx hby at_244 rfl <| c_ifYes X1347 hx hby 267 at_246 (by decide) (by decide) <| c_iload X1347 hx hby at_267 rfl <| c_iconst X1347 hx hby 1 at_269 rfl <| c_icmpYes X1347 hx hby 291 at_270 (by decide) (by decide) <| c_iload X1347 hx hby at_291 rfl <| c_iconst X1347 hx hby 2 at_293 rfl <| c_icmpYes X1347 hx hby 315 at_294 (by decide) (by decide) <| c_iload X1347 hx hby at_315 rfl <| c_iconst X1347 hx hby 3 at_317 rfl <| c_icmpYes X1347 hx hby 339 at_318 (by decide) (by decide) <| c_iconst X1347 hx hby 1 at_339 rfl ?_
      refine goRetH X1347 hZ (own_EW hw) ch1336 hh e1347 hS1336 (Nat.le_refl _) hx Bd.notSynchronized Bd.returns rfl (Or.inl ⟨rfl, Or.inr (Or.inl rfl), _, rfl⟩) (hb hby at_340) (by decide) (by decide) ⟨rfl, N1347⟩
     refine c_aload X1336 hx hby at_170 rfl rfl <| c_iconst X1336 hx hby 1 at_172 rfl ?_
     have cc1348 := ((((cc1261.keep K1258 (ninS (Ne.symm ne1262) nin0)).ext E1325).ext E1326).keep K1327 (ninS ne1330 nin0)).keep K1336 nin0
     refine c_cal X1336 hx hby hZ rfl cc1348 (by decide) (.int c1251) rfl at_173 <| c_bipush X1336 hx hby 46 at_174 rfl ?_
     by_cases hc176_1349 : c1251 = (46 : Int32)
     ·refine c_icmpNo X1336 hx hby at_176 (teq hc176_1349).2 <| c_iconst X1336 hx hby 1 at_179 rfl <| c_istore X1336 hx hby _ at_180 rfl <| c_shL #[iv p1, iv p2, iv p3, iv p4, iv p5, iv p6, iv 3, rv b1248, rv b1257, rv t1325, rv b1326, rv b1336, iv 1, .unset] rfl ?_
      exact J1344 _
     ·refine c_icmpYes X1336 hx hby 182 at_176 (feq hc176_1349).2 (by decide) ?_
      exact J1344 _
    refine c_aload X1336 hx hby at_152 rfl rfl <| c_iconst X1336 hx hby 0 at_154 rfl ?_
    have cc1350 := ((((cc1261.keep K1258 (ninS (Ne.symm ne1262) nin0)).ext E1325).ext E1326).keep K1327 (ninS ne1330 nin0)).keep K1336 nin0
    refine c_cal X1336 hx hby hZ rfl cc1350 (by decide) (.int c1249) rfl at_155 <| c_bipush X1336 hx hby 46 at_156 rfl ?_
    by_cases hc158_1351 : c1249 = (46 : Int32)
    ·refine c_icmpNo X1336 hx hby at_158 (teq hc158_1351).2 <| c_iconst X1336 hx hby 0 at_161 rfl <| c_istore X1336 hx hby _ at_162 rfl <| c_shL #[iv p1, iv p2, iv p3, iv p4, iv p5, iv p6, iv 3, rv b1248, rv b1257, rv t1325, rv b1326, rv b1336, iv 0, .unset] rfl ?_
     exact J1342 _
    ·refine c_icmpYes X1336 hx hby 164 at_158 (feq hc158_1351).2 (by decide) ?_
     exact J1342 _
   ·by_cases hk1_1352 : c1251 = (46 : Int32)
    ·refine c_aload X1327 hx hby at_137 rfl rfl ?_
     have cc1354 := A1326.keep K1327
     have cc1355 := (((A1257.keep K1258).ext E1325).ext E1326).keep K1327
     have cc1356 := ((u1258_6.ext E1325).ext E1326).keep K1327 (ninS ne1332 nin0)
     have cc1357 := ((u1258_5.ext E1325).ext E1326).keep K1327 (ninS ne1332 nin0)
     have cc1358 := ((u1258_4.ext E1325).ext E1326).keep K1327 (ninS ne1331 nin0)
     refine c_callV X1327 hx hby hZ hown hml (gw hw 40 rfl) (gw hw 41 rfl) (gw hw 43 rfl) (gw hw 42 rfl) (gw hw 44 rfl) (gw hw 26 rfl) cc1354 rfl (rmSN3_1 hw b1326 b1257 w0 f0 b1258 kb1258 (c1249.toInt8.toInt32) (c1251.toInt8.toInt32) (c1254.toInt8.toInt32) (T1327.heap) n0 ZN1327 cc1354 u1327_1 P1 P2 OL1327 cc1355 cc1356 cc1357 cc1358 hw0 hf ((own_46 u1251_1).mpr hk1_1352) (fun qq => hk2_1335 ((own_46 u1254_1).mp qq))) pd_27 rfl at_139 [] rfl 0 (by decide) rfl rfl fun o1353 T1353 L1353 X1353 hQ1353 => ?_
     obtain ⟨b1353, bb1353, kb1353, rfl, N1353q, u1353_0, u1353_1, K1353, u1353_3, u1353_4, u1353_5, u1353_6⟩ := hQ1353
     have N1353 := Fr.app N1327 N1353q
     have G_b1353 := Nat.le_trans ZN1327 u1353_0
     have KK1353 := KK1327.trans K1353 all0
     have ZN1353 := Nat.le_trans ZN1327 K1353.1
     have HK1353 : k1325 ≤ T1353.heap.size := Nat.le_trans HK1327 K1353.1
     have sf1353_b1257 := Safe.keep K1353 all0 ch1327.1 sf1327_b1257
     have ch1353 := ch1327.trans (CHr.keep K1353 all0 ch1327.1)
     have OL1353 := OL1327.keep K1353 all0
     refine c_sh 142 [.ref b1353] rfl rfl <| c_astore X1353 hx hby _ at_142 rfl rfl <| c_iconst X1353 hx hby (-1) at_144 rfl <| c_istore X1353 hx hby _ at_145 rfl <| c_iload X1353 hx hby at_147 rfl <| c_ifNo X1353 hx hby at_149 (by decide) <| c_shL #[iv p1, iv p2, iv p3, iv p4, iv p5, iv p6, iv 3, rv b1248, rv b1257, rv t1325, rv b1326, rv b1353, iv (-1), .unset] rfl ?_
     have J1359 : ∀ (z1360 : Int32), Go (own_EndH Z) p e below s room_1.cells room_1.slots (Q0 Z p1 p2 p3 p4 p5 p6 w0 f0 h0 n0) (T1353.setTop (mkF m 164 #[iv p1, iv p2, iv p3, iv p4, iv p5, iv p6, iv 3, rv b1248, rv b1257, rv t1325, rv b1326, rv b1353, iv z1360, .unset] [])) := by
      intro z1360
      refine c_iload X1353 hx hby at_164 rfl <| c_iconst X1353 hx hby 1 at_166 rfl <| c_icmpNo X1353 hx hby at_167 (by decide) <| c_aload X1353 hx hby at_170 rfl rfl <| c_iconst X1353 hx hby 1 at_172 rfl ?_
      have cc1361 := ((((cc1261.keep K1258 (ninS (Ne.symm ne1262) nin0)).ext E1325).ext E1326).keep K1327 (ninS ne1330 nin0)).keep K1353 nin0
      refine c_cal X1353 hx hby hZ rfl cc1361 (by decide) (.int c1251) rfl at_173 <| c_bipush X1353 hx hby 46 at_174 rfl <| c_icmpNo X1353 hx hby at_176 (teq hk1_1352).2 <| c_iconst X1353 hx hby 1 at_179 rfl <| c_istore X1353 hx hby _ at_180 rfl <| c_iload X1353 hx hby at_182 rfl <| c_iconst X1353 hx hby 2 at_184 rfl <| c_icmpNo X1353 hx hby at_185 (by decide) <| c_aload X1353 hx hby at_188 rfl rfl <| c_iconst X1353 hx hby 2 at_190 rfl <| c_sh 191 _ rfl rfl <| c_cal X1353 hx hby hZ rfl cc1361 (by decide) (.int c1254) rfl at_191 <| c_bipush X1353 hx hby 46 at_192 rfl <| c_icmpYes X1353 hx hby 200 at_194 (feq hk2_1335).2 (by decide) <| c_iload X1353 hx hby at_200 rfl <| c_iconst X1353 hx hby 3 at_202 rfl <| c_icmpYes X1353 hx hby 218 at_203 (by decide) (by decide) <| c_iload X1353 hx hby at_218 rfl <| c_iload X1353 hx hby at_220 rfl <| c_isub X1353 hx hby at_222 <| c_sh 223 [.int 2] rfl rfl <| c_iconst X1353 hx hby 1 at_223 rfl <| c_isub X1353 hx hby at_224 <| c_sh 225 [.int 1] rfl rfl <| c_istore X1353 hx hby _ at_225 rfl <| c_aload X1353 hx hby at_227 rfl rfl <| c_ifnullNo X1353 hx hby at_229 <| c_aload X1353 hx hby at_232 rfl rfl <| c_shL #[iv p1, iv p2, iv p3, iv p4, iv p5, iv p6, iv 3, rv b1248, rv b1257, rv t1325, rv b1326, rv b1353, iv 1, iv 1] rfl <| c_callV X1353 hx hby hZ hown hml (gw hw 100 rfl) (gw hw 51 rfl) (gw hw 53 rfl) (gw hw 52 rfl) (gw hw 54 rfl) (gw hw 4 rfl) u1353_3 rfl (rm8 hw b1353 w0 bb1353 kb1353 (1 : Int32) [(.int (c1254.toInt8.toInt32))] (T1353.heap) n0 ZN1353 P1 OL1353 u1353_3 u1353_4 u1353_5 u1353_6 hw0) pd_3 rfl at_234 [] rfl 0 (by decide) rfl rfl fun o1362 T1362 L1362 X1362 hQ1362 => ?_
      obtain ⟨rfl, N1362q, e1362⟩ := hQ1362
      have N1362 := Fr.app N1353 N1362q
      refine c_sh 237 [.int 1] rfl rfl <| c_iload X1362 hx hby at_237 rfl <| c_icmpYes X1362 hx hby 244 at_239 (teq (rfl : (1 : Int32) = (1 : Int32))).1 (by decide) <| c_iload X1362 hx hby at_244 rfl <| c_ifNo X1362 hx hby at_246 (by decide) <| c_aload X1362 hx hby at_249 rfl rfl <| c_iconst X1362 hx hby 0 at_251 rfl <| c_callV X1362 hx hby hZ hown hml (gw hw 148 rfl) (gw hw 149 rfl) (gw hw 151 rfl) (gw hw 150 rfl) (gw hw 152 rfl) (gw hw 4 rfl) u1353_3 e1362 (rm31 hw b1353 (0 : Int32) w0 f0 bb1353 kb1353 (1 : Int32) [(.int (c1254.toInt8.toInt32))] (c1254.toInt8.toInt32) (T1353.heap) n0 ZN1353 P1 P2 OL1353 u1353_3 u1353_4 u1353_5 u1353_6 hw0 (by decide) (by decide) rfl hf) pd_29 rfl at_252 [] rfl 0 (by decide) rfl rfl fun o1363 T1363 L1363 X1363 hQ1363 => ?_
      obtain ⟨rfl, N1363q, e1363⟩ := hQ1363
      have N1363 := Fr.app N1362 N1363q
      refine c_sh 255 [.int (((c1254.toInt8.toInt32) &&& (255 : Int32)).toUInt32.toUInt16.toUInt32.toInt32)] rfl rfl <| c_aload X1363 hx hby at_255 rfl rfl <| c_iload X1363 hx hby at_257 rfl <| c_iconst X1363 hx hby 1 at_259 rfl <| c_iadd X1363 hx hby at_260 <| c_sh 261 [.int 2, .ref b1248, .int (((c1254.toInt8.toInt32) &&& (255 : Int32)).toUInt32.toUInt16.toUInt32.toInt32)] rfl rfl <| c_cal X1363 hx hby hZ e1363 cc1361 (by decide) (.int c1254) rfl at_261 <| c_icmpYes X1363 hx hby 267 at_262 (teq (own_bk u1254_1)).1 (by decide) <| c_iload X1363 hx hby at_267 rfl <| c_iconst X1363 hx hby 1 at_269 rfl <| c_icmpYes X1363 hx hby 291 at_270 (by decide) (by decide) <| c_iload X1363 hx hby at_291 rfl <| c_iconst X1363 hx hby 2 at_293 rfl <| c_icmpYes X1363 hx hby 315 at_294 (by decide) (by decide) <| c_iload X1363 hx hby at_315 rfl <| c_iconst X1363 hx hby 3 at_317 rfl <| c_icmpYes X1363 hx hby 339 at_318 (by decide) (by decide) <| c_iconst X1363 hx hby 1 at_339 rfl ?_
      refine goRetH X1363 hZ (own_EW hw) ch1353 hh e1363 hS1325 HK1353 hx Bd.notSynchronized Bd.returns rfl (Or.inl ⟨rfl, Or.inr (Or.inl rfl), _, rfl⟩) (hb hby at_340) (by decide) (by decide) ⟨rfl, N1363⟩
     refine c_aload X1353 hx hby at_152 rfl rfl <| c_iconst X1353 hx hby 0 at_154 rfl ?_
     have cc1364 := ((((cc1261.keep K1258 (ninS (Ne.symm ne1262) nin0)).ext E1325).ext E1326).keep K1327 (ninS ne1330 nin0)).keep K1353 nin0
     refine c_cal X1353 hx hby hZ rfl cc1364 (by decide) (.int c1249) rfl at_155 <| c_bipush X1353 hx hby 46 at_156 rfl ?_
     by_cases hc158_1365 : c1249 = (46 : Int32)
     ·refine c_icmpNo X1353 hx hby at_158 (teq hc158_1365).2 <| c_iconst X1353 hx hby 0 at_161 rfl <| c_istore X1353 hx hby _ at_162 rfl <| c_shL #[iv p1, iv p2, iv p3, iv p4, iv p5, iv p6, iv 3, rv b1248, rv b1257, rv t1325, rv b1326, rv b1353, iv 0, .unset] rfl ?_
      exact J1359 _
     ·refine c_icmpYes X1353 hx hby 164 at_158 (feq hc158_1365).2 (by decide) ?_
      exact J1359 _
    ·by_cases hk0_1366 : c1249 = (46 : Int32)
     ·refine c_aload X1327 hx hby at_137 rfl rfl ?_
      have cc1368 := A1326.keep K1327
      have cc1369 := (((A1257.keep K1258).ext E1325).ext E1326).keep K1327
      have cc1370 := ((u1258_6.ext E1325).ext E1326).keep K1327 (ninS ne1332 nin0)
      have cc1371 := ((u1258_5.ext E1325).ext E1326).keep K1327 (ninS ne1332 nin0)
      have cc1372 := ((u1258_4.ext E1325).ext E1326).keep K1327 (ninS ne1331 nin0)
      refine c_callV X1327 hx hby hZ hown hml (gw hw 40 rfl) (gw hw 41 rfl) (gw hw 43 rfl) (gw hw 42 rfl) (gw hw 44 rfl) (gw hw 26 rfl) cc1368 rfl (rmSN3_0 hw b1326 b1257 w0 f0 b1258 kb1258 (c1249.toInt8.toInt32) (c1251.toInt8.toInt32) (c1254.toInt8.toInt32) (T1327.heap) n0 ZN1327 cc1368 u1327_1 P1 P2 OL1327 cc1369 cc1370 cc1371 cc1372 hw0 hf ((own_46 u1249_1).mpr hk0_1366) (fun qq => hk1_1352 ((own_46 u1251_1).mp qq)) (fun qq => hk2_1335 ((own_46 u1254_1).mp qq))) pd_27 rfl at_139 [] rfl 0 (by decide) rfl rfl fun o1367 T1367 L1367 X1367 hQ1367 => ?_
      obtain ⟨b1367, bb1367, kb1367, rfl, N1367q, u1367_0, u1367_1, K1367, u1367_3, u1367_4, u1367_5, u1367_6⟩ := hQ1367
      have N1367 := Fr.app N1327 N1367q
      have G_b1367 := Nat.le_trans ZN1327 u1367_0
      have KK1367 := KK1327.trans K1367 all0
      have ZN1367 := Nat.le_trans ZN1327 K1367.1
      have HK1367 : k1325 ≤ T1367.heap.size := Nat.le_trans HK1327 K1367.1
      have sf1367_b1257 := Safe.keep K1367 all0 ch1327.1 sf1327_b1257
      have ch1367 := ch1327.trans (CHr.keep K1367 all0 ch1327.1)
      have OL1367 := OL1327.keep K1367 all0
      refine c_sh 142 [.ref b1367] rfl rfl <| c_astore X1367 hx hby _ at_142 rfl rfl <| c_iconst X1367 hx hby (-1) at_144 rfl <| c_istore X1367 hx hby _ at_145 rfl <| c_iload X1367 hx hby at_147 rfl <| c_ifNo X1367 hx hby at_149 (by decide) <| c_aload X1367 hx hby at_152 rfl rfl <| c_iconst X1367 hx hby 0 at_154 rfl <| c_shL #[iv p1, iv p2, iv p3, iv p4, iv p5, iv p6, iv 3, rv b1248, rv b1257, rv t1325, rv b1326, rv b1367, iv (-1), .unset] rfl ?_
      have cc1373 := ((((cc1261.keep K1258 (ninS (Ne.symm ne1262) nin0)).ext E1325).ext E1326).keep K1327 (ninS ne1330 nin0)).keep K1367 nin0
      refine c_cal X1367 hx hby hZ rfl cc1373 (by decide) (.int c1249) rfl at_155 <| c_bipush X1367 hx hby 46 at_156 rfl <| c_icmpNo X1367 hx hby at_158 (teq hk0_1366).2 <| c_iconst X1367 hx hby 0 at_161 rfl <| c_istore X1367 hx hby _ at_162 rfl <| c_iload X1367 hx hby at_164 rfl <| c_iconst X1367 hx hby 1 at_166 rfl <| c_icmpNo X1367 hx hby at_167 (by decide) <| c_sh 170 _ rfl rfl <| c_aload X1367 hx hby at_170 rfl rfl <| c_iconst X1367 hx hby 1 at_172 rfl <| c_cal X1367 hx hby hZ rfl cc1373 (by decide) (.int c1251) rfl at_173 <| c_bipush X1367 hx hby 46 at_174 rfl <| c_icmpYes X1367 hx hby 182 at_176 (feq hk1_1352).2 (by decide) <| c_iload X1367 hx hby at_182 rfl <| c_iconst X1367 hx hby 2 at_184 rfl <| c_icmpNo X1367 hx hby at_185 (by decide) <| c_aload X1367 hx hby at_188 rfl rfl <| c_iconst X1367 hx hby 2 at_190 rfl <| c_cal X1367 hx hby hZ rfl cc1373 (by decide) (.int c1254) rfl at_191 <| c_bipush X1367 hx hby 46 at_192 rfl <| c_icmpYes X1367 hx hby 200 at_194 (feq hk2_1335).2 (by decide) <| c_iload X1367 hx hby at_200 rfl <| c_iconst X1367 hx hby 3 at_202 rfl <| c_icmpYes X1367 hx hby 218 at_203 (by decide) (by decide) <| c_iload X1367 hx hby at_218 rfl <| c_iload X1367 hx hby at_220 rfl <| c_isub X1367 hx hby at_222 <| c_sh 223 [.int 3] rfl rfl <| c_iconst X1367 hx hby 1 at_223 rfl <| c_isub X1367 hx hby at_224 <| c_sh 225 [.int 2] rfl rfl <| c_istore X1367 hx hby _ at_225 rfl <| c_aload X1367 hx hby at_227 rfl rfl <| c_ifnullNo X1367 hx hby at_229 <| c_aload X1367 hx hby at_232 rfl rfl <| c_shL #[iv p1, iv p2, iv p3, iv p4, iv p5, iv p6, iv 3, rv b1248, rv b1257, rv t1325, rv b1326, rv b1367, iv 0, iv 2] rfl <| c_callV X1367 hx hby hZ hown hml (gw hw 100 rfl) (gw hw 51 rfl) (gw hw 53 rfl) (gw hw 52 rfl) (gw hw 54 rfl) (gw hw 4 rfl) u1367_3 rfl (rm8 hw b1367 w0 bb1367 kb1367 (2 : Int32) [(.int (c1251.toInt8.toInt32)), (.int (c1254.toInt8.toInt32))] (T1367.heap) n0 ZN1367 P1 OL1367 u1367_3 u1367_4 u1367_5 u1367_6 hw0) pd_3 rfl at_234 [] rfl 0 (by decide) rfl rfl fun o1374 T1374 L1374 X1374 hQ1374 => ?_
      obtain ⟨rfl, N1374q, e1374⟩ := hQ1374
      have N1374 := Fr.app N1367 N1374q
      refine c_sh 237 [.int 2] rfl rfl <| c_iload X1374 hx hby at_237 rfl <| c_icmpYes X1374 hx hby 244 at_239 (teq (rfl : (2 : Int32) = (2 : Int32))).1 (by decide) <| c_iload X1374 hx hby at_244 rfl <| c_ifNo X1374 hx hby at_246 (by decide) <| c_aload X1374 hx hby at_249 rfl rfl <| c_iconst X1374 hx hby 0 at_251 rfl <| c_callV X1374 hx hby hZ hown hml (gw hw 148 rfl) (gw hw 149 rfl) (gw hw 151 rfl) (gw hw 150 rfl) (gw hw 152 rfl) (gw hw 4 rfl) u1367_3 e1374 (rm31 hw b1367 (0 : Int32) w0 f0 bb1367 kb1367 (2 : Int32) [(.int (c1251.toInt8.toInt32)), (.int (c1254.toInt8.toInt32))] (c1251.toInt8.toInt32) (T1367.heap) n0 ZN1367 P1 P2 OL1367 u1367_3 u1367_4 u1367_5 u1367_6 hw0 (by decide) (by decide) rfl hf) pd_29 rfl at_252 [] rfl 0 (by decide) rfl rfl fun o1375 T1375 L1375 X1375 hQ1375 => ?_
      obtain ⟨rfl, N1375q, e1375⟩ := hQ1375
      have N1375 := Fr.app N1374 N1375q
      refine c_sh 255 [.int (((c1251.toInt8.toInt32) &&& (255 : Int32)).toUInt32.toUInt16.toUInt32.toInt32)] rfl rfl <| c_aload X1375 hx hby at_255 rfl rfl <| c_iload X1375 hx hby at_257 rfl <| c_iconst X1375 hx hby 1 at_259 rfl <| c_iadd X1375 hx hby at_260 <| c_sh 261 [.int 1, .ref b1248, .int (((c1251.toInt8.toInt32) &&& (255 : Int32)).toUInt32.toUInt16.toUInt32.toInt32)] rfl rfl <| c_cal X1375 hx hby hZ e1375 cc1373 (by decide) (.int c1251) rfl at_261 <| c_icmpYes X1375 hx hby 267 at_262 (teq (own_bk u1251_1)).1 (by decide) <| c_iload X1375 hx hby at_267 rfl <| c_iconst X1375 hx hby 1 at_269 rfl <| c_icmpNo X1375 hx hby at_270 (by decide) <| c_aload X1375 hx hby at_273 rfl rfl <| c_iconst X1375 hx hby 1 at_275 rfl <| c_callV X1375 hx hby hZ hown hml (gw hw 148 rfl) (gw hw 149 rfl) (gw hw 151 rfl) (gw hw 150 rfl) (gw hw 152 rfl) (gw hw 4 rfl) u1367_3 e1375 (rm31 hw b1367 (1 : Int32) w0 f0 bb1367 kb1367 (2 : Int32) [(.int (c1251.toInt8.toInt32)), (.int (c1254.toInt8.toInt32))] (c1254.toInt8.toInt32) (T1367.heap) n0 ZN1367 P1 P2 OL1367 u1367_3 u1367_4 u1367_5 u1367_6 hw0 (by decide) (by decide) rfl hf) pd_29 rfl at_276 [] rfl 0 (by decide) rfl rfl fun o1376 T1376 L1376 X1376 hQ1376 => ?_
      obtain ⟨rfl, N1376q, e1376⟩ := hQ1376
      have N1376 := Fr.app N1375 N1376q
      refine c_sh 279 [.int (((c1254.toInt8.toInt32) &&& (255 : Int32)).toUInt32.toUInt16.toUInt32.toInt32)] rfl rfl <| c_aload X1376 hx hby at_279 rfl rfl <| c_iload X1376 hx hby at_281 rfl <| c_iconst X1376 hx hby 2 at_283 rfl <| c_iadd X1376 hx hby at_284 <| c_sh 285 [.int 2, .ref b1248, .int (((c1254.toInt8.toInt32) &&& (255 : Int32)).toUInt32.toUInt16.toUInt32.toInt32)] rfl rfl <| c_cal X1376 hx hby hZ e1376 cc1373 (by decide) (.int c1254) rfl at_285 <| c_icmpYes X1376 hx hby 291 at_286 (teq (own_bk u1254_1)).1 (by decide) <| c_iload X1376 hx hby at_291 rfl <| c_iconst X1376 hx hby 2 at_293 rfl <| c_icmpYes X1376 hx hby 315 at_294 (by decide) (by decide) <| c_iload X1376 hx hby at_315 rfl <| c_iconst X1376 hx hby 3 at_317 rfl <| c_icmpYes X1376 hx hby 339 at_318 (by decide) (by decide) <| c_iconst X1376 hx hby 1 at_339 rfl ?_
      refine goRetH X1376 hZ (own_EW hw) ch1367 hh e1376 hS1325 HK1367 hx Bd.notSynchronized Bd.returns rfl (Or.inl ⟨rfl, Or.inr (Or.inl rfl), _, rfl⟩) (hb hby at_340) (by decide) (by decide) ⟨rfl, N1376⟩
     ·refine c_aload X1327 hx hby at_137 rfl rfl ?_
      have cc1378 := A1326.keep K1327
      have cc1379 := (((A1257.keep K1258).ext E1325).ext E1326).keep K1327
      have cc1380 := ((u1258_6.ext E1325).ext E1326).keep K1327 (ninS ne1332 nin0)
      have cc1381 := ((u1258_5.ext E1325).ext E1326).keep K1327 (ninS ne1332 nin0)
      have cc1382 := ((u1258_4.ext E1325).ext E1326).keep K1327 (ninS ne1331 nin0)
      refine c_callV X1327 hx hby hZ hown hml (gw hw 40 rfl) (gw hw 41 rfl) (gw hw 43 rfl) (gw hw 42 rfl) (gw hw 44 rfl) (gw hw 26 rfl) cc1378 rfl (rmSN3_m1 hw b1326 b1257 w0 f0 b1258 kb1258 (c1249.toInt8.toInt32) (c1251.toInt8.toInt32) (c1254.toInt8.toInt32) (T1327.heap) n0 ZN1327 cc1378 u1327_1 P1 P2 OL1327 cc1379 cc1380 cc1381 cc1382 hw0 hf (fun qq => hk0_1366 ((own_46 u1249_1).mp qq)) (fun qq => hk1_1352 ((own_46 u1251_1).mp qq)) (fun qq => hk2_1335 ((own_46 u1254_1).mp qq))) pd_27 rfl at_139 [] rfl 0 (by decide) rfl rfl fun o1377 T1377 L1377 X1377 hQ1377 => ?_
      obtain ⟨rfl, N1377q, e1377⟩ := hQ1377
      have N1377 := Fr.app N1327 N1377q
      refine c_sh 142 [.ref b1257] rfl rfl <| c_astore X1377 hx hby _ at_142 rfl rfl <| c_iconst X1377 hx hby (-1) at_144 rfl <| c_istore X1377 hx hby _ at_145 rfl <| c_iload X1377 hx hby at_147 rfl <| c_ifNo X1377 hx hby at_149 (by decide) <| c_aload X1377 hx hby at_152 rfl rfl <| c_iconst X1377 hx hby 0 at_154 rfl <| c_shL #[iv p1, iv p2, iv p3, iv p4, iv p5, iv p6, iv 3, rv b1248, rv b1257, rv t1325, rv b1326, rv b1257, iv (-1), .unset] rfl ?_
      have cc1383 := (((cc1261.keep K1258 (ninS (Ne.symm ne1262) nin0)).ext E1325).ext E1326).keep K1327 (ninS ne1330 nin0)
      refine c_cal X1377 hx hby hZ e1377 cc1383 (by decide) (.int c1249) rfl at_155 <| c_bipush X1377 hx hby 46 at_156 rfl <| c_icmpYes X1377 hx hby 164 at_158 (feq hk0_1366).2 (by decide) <| c_iload X1377 hx hby at_164 rfl <| c_iconst X1377 hx hby 1 at_166 rfl <| c_icmpNo X1377 hx hby at_167 (by decide) <| c_aload X1377 hx hby at_170 rfl rfl <| c_iconst X1377 hx hby 1 at_172 rfl <| c_cal X1377 hx hby hZ e1377 cc1383 (by decide) (.int c1251) rfl at_173 <| c_bipush X1377 hx hby 46 at_174 rfl <| c_icmpYes X1377 hx hby 182 at_176 (feq hk1_1352).2 (by decide) <| c_iload X1377 hx hby at_182 rfl <| c_iconst X1377 hx hby 2 at_184 rfl <| c_icmpNo X1377 hx hby at_185 (by decide) <| c_aload X1377 hx hby at_188 rfl rfl <| c_iconst X1377 hx hby 2 at_190 rfl <| c_cal X1377 hx hby hZ e1377 cc1383 (by decide) (.int c1254) rfl at_191 <| c_bipush X1377 hx hby 46 at_192 rfl <| c_icmpYes X1377 hx hby 200 at_194 (feq hk2_1335).2 (by decide) <| c_iload X1377 hx hby at_200 rfl <| c_iconst X1377 hx hby 3 at_202 rfl <| c_icmpYes X1377 hx hby 218 at_203 (by decide) (by decide) <| c_iload X1377 hx hby at_218 rfl <| c_iload X1377 hx hby at_220 rfl <| c_isub X1377 hx hby at_222 <| c_sh 223 [.int 4] rfl rfl <| c_iconst X1377 hx hby 1 at_223 rfl <| c_isub X1377 hx hby at_224 <| c_sh 225 [.int 3] rfl rfl <| c_istore X1377 hx hby _ at_225 rfl <| c_aload X1377 hx hby at_227 rfl rfl <| c_ifnullNo X1377 hx hby at_229 <| c_aload X1377 hx hby at_232 rfl rfl <| c_shL #[iv p1, iv p2, iv p3, iv p4, iv p5, iv p6, iv 3, rv b1248, rv b1257, rv t1325, rv b1326, rv b1257, iv (-1), iv 3] rfl <| c_callV X1377 hx hby hZ hown hml (gw hw 100 rfl) (gw hw 51 rfl) (gw hw 53 rfl) (gw hw 52 rfl) (gw hw 54 rfl) (gw hw 4 rfl) cc1379 e1377 (rm8 hw b1257 w0 b1258 kb1258 (3 : Int32) [(.int (c1249.toInt8.toInt32)), (.int (c1251.toInt8.toInt32)), (.int (c1254.toInt8.toInt32))] (T1327.heap) n0 ZN1327 P1 OL1327 cc1379 cc1380 cc1381 cc1382 hw0) pd_3 rfl at_234 [] rfl 0 (by decide) rfl rfl fun o1384 T1384 L1384 X1384 hQ1384 => ?_
      obtain ⟨rfl, N1384q, e1384⟩ := hQ1384
      have N1384 := Fr.app N1377 N1384q
      refine c_sh 237 [.int 3] rfl rfl <| c_iload X1384 hx hby at_237 rfl <| c_icmpYes X1384 hx hby 244 at_239 (teq (rfl : (3 : Int32) = (3 : Int32))).1 (by decide) <| c_iload X1384 hx hby at_244 rfl <| c_ifNo X1384 hx hby at_246 (by decide) <| c_aload X1384 hx hby at_249 rfl rfl <| c_iconst X1384 hx hby 0 at_251 rfl <| c_callV X1384 hx hby hZ hown hml (gw hw 148 rfl) (gw hw 149 rfl) (gw hw 151 rfl) (gw hw 150 rfl) (gw hw 152 rfl) (gw hw 4 rfl) cc1379 e1384 (rm31 hw b1257 (0 : Int32) w0 f0 b1258 kb1258 (3 : Int32) [(.int (c1249.toInt8.toInt32)), (.int (c1251.toInt8.toInt32)), (.int (c1254.toInt8.toInt32))] (c1249.toInt8.toInt32) (T1327.heap) n0 ZN1327 P1 P2 OL1327 cc1379 cc1380 cc1381 cc1382 hw0 (by decide) (by decide) rfl hf) pd_29 rfl at_252 [] rfl 0 (by decide) rfl rfl fun o1385 T1385 L1385 X1385 hQ1385 => ?_
      obtain ⟨rfl, N1385q, e1385⟩ := hQ1385
      have N1385 := Fr.app N1384 N1385q
      refine c_sh 255 [.int (((c1249.toInt8.toInt32) &&& (255 : Int32)).toUInt32.toUInt16.toUInt32.toInt32)] rfl rfl <| c_aload X1385 hx hby at_255 rfl rfl <| c_iload X1385 hx hby at_257 rfl <| c_iconst X1385 hx hby 1 at_259 rfl <| c_iadd X1385 hx hby at_260 <| c_sh 261 [.int 0, .ref b1248, .int (((c1249.toInt8.toInt32) &&& (255 : Int32)).toUInt32.toUInt16.toUInt32.toInt32)] rfl rfl <| c_cal X1385 hx hby hZ e1385 cc1383 (by decide) (.int c1249) rfl at_261 <| c_icmpYes X1385 hx hby 267 at_262 (teq (own_bk u1249_1)).1 (by decide) <| c_iload X1385 hx hby at_267 rfl <| c_iconst X1385 hx hby 1 at_269 rfl <| c_icmpNo X1385 hx hby at_270 (by decide) <| c_aload X1385 hx hby at_273 rfl rfl <| c_iconst X1385 hx hby 1 at_275 rfl <| c_callV X1385 hx hby hZ hown hml (gw hw 148 rfl) (gw hw 149 rfl) (gw hw 151 rfl) (gw hw 150 rfl) (gw hw 152 rfl) (gw hw 4 rfl) cc1379 e1385 (rm31 hw b1257 (1 : Int32) w0 f0 b1258 kb1258 (3 : Int32) [(.int (c1249.toInt8.toInt32)), (.int (c1251.toInt8.toInt32)), (.int (c1254.toInt8.toInt32))] (c1251.toInt8.toInt32) (T1327.heap) n0 ZN1327 P1 P2 OL1327 cc1379 cc1380 cc1381 cc1382 hw0 (by decide) (by decide) rfl hf) pd_29 rfl at_276 [] rfl 0 (by decide) rfl rfl fun o1386 T1386 L1386 X1386 hQ1386 => ?_
      obtain ⟨rfl, N1386q, e1386⟩ := hQ1386
      have N1386 := Fr.app N1385 N1386q
      refine c_sh 279 [.int (((c1251.toInt8.toInt32) &&& (255 : Int32)).toUInt32.toUInt16.toUInt32.toInt32)] rfl rfl <| c_aload X1386 hx hby at_279 rfl rfl <| c_iload X1386 hx hby at_281 rfl <| c_iconst X1386 hx hby 2 at_283 rfl <| c_iadd X1386 hx hby at_284 <| c_sh 285 [.int 1, .ref b1248, .int (((c1251.toInt8.toInt32) &&& (255 : Int32)).toUInt32.toUInt16.toUInt32.toInt32)] rfl rfl <| c_cal X1386 hx hby hZ e1386 cc1383 (by decide) (.int c1251) rfl at_285 <| c_icmpYes X1386 hx hby 291 at_286 (teq (own_bk u1251_1)).1 (by decide) <| c_iload X1386 hx hby at_291 rfl <| c_iconst X1386 hx hby 2 at_293 rfl <| c_icmpNo X1386 hx hby at_294 (by decide) <| c_aload X1386 hx hby at_297 rfl rfl <| c_iconst X1386 hx hby 2 at_299 rfl <| c_callV X1386 hx hby hZ hown hml (gw hw 148 rfl) (gw hw 149 rfl) (gw hw 151 rfl) (gw hw 150 rfl) (gw hw 152 rfl) (gw hw 4 rfl) cc1379 e1386 (rm31 hw b1257 (2 : Int32) w0 f0 b1258 kb1258 (3 : Int32) [(.int (c1249.toInt8.toInt32)), (.int (c1251.toInt8.toInt32)), (.int (c1254.toInt8.toInt32))] (c1254.toInt8.toInt32) (T1327.heap) n0 ZN1327 P1 P2 OL1327 cc1379 cc1380 cc1381 cc1382 hw0 (by decide) (by decide) rfl hf) pd_29 rfl at_300 [] rfl 0 (by decide) rfl rfl fun o1387 T1387 L1387 X1387 hQ1387 => ?_
      obtain ⟨rfl, N1387q, e1387⟩ := hQ1387
      have N1387 := Fr.app N1386 N1387q
      refine c_sh 303 [.int (((c1254.toInt8.toInt32) &&& (255 : Int32)).toUInt32.toUInt16.toUInt32.toInt32)] rfl rfl <| c_aload X1387 hx hby at_303 rfl rfl <| c_iload X1387 hx hby at_305 rfl <| c_iconst X1387 hx hby 3 at_307 rfl <| c_iadd X1387 hx hby at_308 <| c_sh 309 [.int 2, .ref b1248, .int (((c1254.toInt8.toInt32) &&& (255 : Int32)).toUInt32.toUInt16.toUInt32.toInt32)] rfl rfl <| c_cal X1387 hx hby hZ e1387 cc1383 (by decide) (.int c1254) rfl at_309 <| c_icmpYes X1387 hx hby 315 at_310 (teq (own_bk u1254_1)).1 (by decide) <| c_iload X1387 hx hby at_315 rfl <| c_iconst X1387 hx hby 3 at_317 rfl <| c_icmpYes X1387 hx hby 339 at_318 (by decide) (by decide) <| c_iconst X1387 hx hby 1 at_339 rfl ?_
      refine goRetH X1387 hZ (own_EW hw) ch1327 hh e1387 hS1325 HK1327 hx Bd.notSynchronized Bd.returns rfl (Or.inl ⟨rfl, Or.inr (Or.inl rfl), _, rfl⟩) (hb hby at_340) (by decide) (by decide) ⟨rfl, N1387⟩
 ·refine c_sh 9 [] rfl rfl <| c_iload X0 hx hby at_9 rfl <| c_newP X0 hx hby hZ (gw hw 1 rfl) e0 at_11 (by decide) 4 (by decide) (by decide) "[C" (by first | rfl | decide) fun T1388 h1388 k1388 b1388 g1388 X1388 e1388 E1388 A1388 AE1388 => ?_
  have G_b1388 := Nat.le_trans Z0 (Nat.le_of_eq g1388.symm)
  have KK1388 := (Keep.refl h0 []).ext E1388
  have ZN1388 := Nat.le_trans Z0 E1388.1
  have HK1388 : 0 ≤ h1388.size := Nat.le_trans (Nat.zero_le _) E1388.1
  have OL1388 := P0.ext E1388
  have ch1388 := ch0.trans (CHr.ext E1388 ch0.1)
  have V1388 : Arv Z h1388 b1388 k1388 .char (4 : Int32) [(.int (0 : Int32)), (.int (0 : Int32)), (.int (0 : Int32)), (.int (0 : Int32))] (.int (0 : Int32)) := (Arv.new A1388 (by decide)).pad (pad_rep [] (.int (0 : Int32)) 4)
  refine c_sh 13 [.ref b1388] rfl rfl <| c_astore X1388 hx hby _ at_13 rfl rfl <| c_iload X1388 hx hby at_15 rfl <| c_ifNo X1388 hx hby at_17 (by decide) <| c_aload X1388 hx hby at_20 rfl rfl <| c_iconst X1388 hx hby 0 at_22 rfl <| c_iloadN X1388 hx hby at_23 rfl <| c_iload X1388 hx hby at_24 rfl <| c_iconst X1388 hx hby 3 at_26 rfl <| c_iushr X1388 hx hby at_27 <| c_shL #[iv p1, iv p2, iv p3, iv p4, iv p5, iv p6, iv 4, rv b1388, .unset, .unset, .unset, .unset, .unset, .unset] rfl <| c_callS X1388 hx hby hZ hown hml (gw hw 101 rfl) (gw hw 102 rfl) (gw hw 103 rfl) (gw hw 104 rfl) e1388 (rmPK hw p1 ((p5.toUInt32 >>> ((3 : Int32) &&& 31).toUInt32).toInt32) h1388 n0 ZN1388 ) pd_28 rfl at_28 [.int 0, .ref b1388] rfl 2 (by decide) rfl rfl fun o1389 T1389 L1389 X1389 hQ1389 => ?_
  obtain ⟨c1389, rfl, N1389q, e1389, u1389_1⟩ := hQ1389
  have N1389 := Fr.app N0 N1389q
  refine c_sh 31 [.int c1389, .int 0, .ref b1388] rfl rfl <| c_cst X1389 hx hby hZ e1389 V1388 (by decide) 0 rfl (Nat.le_of_ble_eq_true rfl) at_31 fun T1390 h1390 X1390 e1390 W1390 V1390 => ?_
  rw [own_nc u1389_1] at V1390
  have V1390 : Arv Z h1390 b1388 k1388 .char (4 : Int32) [(.int c1389), (.int (0 : Int32)), (.int (0 : Int32)), (.int (0 : Int32))] (.int (0 : Int32)) := V1390
  have KK1390 := KK1388.wr W1390 (Or.inr (Nat.le_trans (Keep.refl h0 []).1 (Nat.le_of_eq g1388.symm)))
  have ZN1390 := Nat.le_trans ZN1388 (Keep.of_wr W1390).1
  have HK1390 : 0 ≤ h1390.size := Nat.le_trans HK1388 (Keep.of_wr W1390).1
  have NN1390 := Fr.snoc X1390 N1389 G_b1388
  have OL1390 := OL1388.wr W1390 G_b1388
  have ch1390 := ch1388.trans (CHr.wr W1390 (Safe.exa hZ.alike AE1388 (by decide) (by decide)) ch1388.1)
  refine c_sh 32 [] rfl rfl <| c_iload X1390 hx hby at_32 rfl <| c_iconst X1390 hx hby 1 at_34 rfl <| c_icmpNo X1390 hx hby at_35 (by decide) <| c_aload X1390 hx hby at_38 rfl rfl <| c_iconst X1390 hx hby 1 at_40 rfl <| c_iloadN X1390 hx hby at_41 rfl <| c_iload X1390 hx hby at_42 rfl <| c_iconst X1390 hx hby 4 at_44 rfl <| c_iushr X1390 hx hby at_45 <| c_callS X1390 hx hby hZ hown hml (gw hw 101 rfl) (gw hw 102 rfl) (gw hw 103 rfl) (gw hw 104 rfl) e1390 (rmPK hw p2 ((p5.toUInt32 >>> ((4 : Int32) &&& 31).toUInt32).toInt32) h1390 n0 ZN1390 ) pd_28 rfl at_46 [.int 1, .ref b1388] rfl 2 (by decide) rfl rfl fun o1391 T1391 L1391 X1391 hQ1391 => ?_
  obtain ⟨c1391, rfl, N1391q, e1391, u1391_1⟩ := hQ1391
  have N1391 := Fr.app NN1390 N1391q
  refine c_sh 49 [.int c1391, .int 1, .ref b1388] rfl rfl <| c_cst X1391 hx hby hZ e1391 V1390 (by decide) 1 rfl (Nat.le_of_ble_eq_true rfl) at_49 fun T1392 h1392 X1392 e1392 W1392 V1392 => ?_
  rw [own_nc u1391_1] at V1392
  have V1392 : Arv Z h1392 b1388 k1388 .char (4 : Int32) [(.int c1389), (.int c1391), (.int (0 : Int32)), (.int (0 : Int32))] (.int (0 : Int32)) := V1392
  have cc1393 := AE1388.wr W1390
  have KK1392 := KK1390.wr W1392 (Or.inr (Nat.le_trans (Keep.refl h0 []).1 (Nat.le_of_eq g1388.symm)))
  have ZN1392 := Nat.le_trans ZN1390 (Keep.of_wr W1392).1
  have HK1392 : 0 ≤ h1392.size := Nat.le_trans HK1390 (Keep.of_wr W1392).1
  have NN1392 := Fr.snoc X1392 N1391 G_b1388
  have OL1392 := OL1390.wr W1392 G_b1388
  have ch1392 := ch1390.trans (CHr.wr W1392 (Safe.exa hZ.alike cc1393 (by decide) (by decide)) ch1390.1)
  refine c_sh 50 [] rfl rfl <| c_iload X1392 hx hby at_50 rfl <| c_iconst X1392 hx hby 2 at_52 rfl <| c_icmpNo X1392 hx hby at_53 (by decide) <| c_aload X1392 hx hby at_56 rfl rfl <| c_iconst X1392 hx hby 2 at_58 rfl <| c_iloadN X1392 hx hby at_59 rfl <| c_iload X1392 hx hby at_60 rfl <| c_iconst X1392 hx hby 5 at_62 rfl <| c_iushr X1392 hx hby at_63 <| c_callS X1392 hx hby hZ hown hml (gw hw 101 rfl) (gw hw 102 rfl) (gw hw 103 rfl) (gw hw 104 rfl) e1392 (rmPK hw p3 ((p5.toUInt32 >>> ((5 : Int32) &&& 31).toUInt32).toInt32) h1392 n0 ZN1392 ) pd_28 rfl at_64 [.int 2, .ref b1388] rfl 2 (by decide) rfl rfl fun o1394 T1394 L1394 X1394 hQ1394 => ?_
  obtain ⟨c1394, rfl, N1394q, e1394, u1394_1⟩ := hQ1394
  have N1394 := Fr.app NN1392 N1394q
  refine c_sh 67 [.int c1394, .int 2, .ref b1388] rfl rfl <| c_cst X1394 hx hby hZ e1394 V1392 (by decide) 2 rfl (Nat.le_of_ble_eq_true rfl) at_67 fun T1395 h1395 X1395 e1395 W1395 V1395 => ?_
  rw [own_nc u1394_1] at V1395
  have V1395 : Arv Z h1395 b1388 k1388 .char (4 : Int32) [(.int c1389), (.int c1391), (.int c1394), (.int (0 : Int32))] (.int (0 : Int32)) := V1395
  have cc1396 := cc1393.wr W1392
  have KK1395 := KK1392.wr W1395 (Or.inr (Nat.le_trans (Keep.refl h0 []).1 (Nat.le_of_eq g1388.symm)))
  have ZN1395 := Nat.le_trans ZN1392 (Keep.of_wr W1395).1
  have HK1395 : 0 ≤ h1395.size := Nat.le_trans HK1392 (Keep.of_wr W1395).1
  have NN1395 := Fr.snoc X1395 N1394 G_b1388
  have OL1395 := OL1392.wr W1395 G_b1388
  have ch1395 := ch1392.trans (CHr.wr W1395 (Safe.exa hZ.alike cc1396 (by decide) (by decide)) ch1392.1)
  refine c_sh 68 [] rfl rfl <| c_iload X1395 hx hby at_68 rfl <| c_iconst X1395 hx hby 3 at_70 rfl <| c_icmpNo X1395 hx hby at_71 (by decide) <| c_aload X1395 hx hby at_74 rfl rfl <| c_iconst X1395 hx hby 3 at_76 rfl <| c_iloadN X1395 hx hby at_77 rfl <| c_iload X1395 hx hby at_78 rfl <| c_bipush X1395 hx hby 6 at_80 rfl <| c_iushr X1395 hx hby at_82 <| c_callS X1395 hx hby hZ hown hml (gw hw 101 rfl) (gw hw 102 rfl) (gw hw 103 rfl) (gw hw 104 rfl) e1395 (rmPK hw p4 ((p5.toUInt32 >>> ((6 : Int32) &&& 31).toUInt32).toInt32) h1395 n0 ZN1395 ) pd_28 rfl at_83 [.int 3, .ref b1388] rfl 2 (by decide) rfl rfl fun o1397 T1397 L1397 X1397 hQ1397 => ?_
  obtain ⟨c1397, rfl, N1397q, e1397, u1397_1⟩ := hQ1397
  have N1397 := Fr.app NN1395 N1397q
  refine c_sh 86 [.int c1397, .int 3, .ref b1388] rfl rfl <| c_cst X1397 hx hby hZ e1397 V1395 (by decide) 3 rfl (Nat.le_of_ble_eq_true rfl) at_86 fun T1398 h1398 X1398 e1398 W1398 V1398 => ?_
  rw [own_nc u1397_1] at V1398
  have V1398 : Arv Z h1398 b1388 k1388 .char (4 : Int32) [(.int c1389), (.int c1391), (.int c1394), (.int c1397)] (.int (0 : Int32)) := V1398
  have cc1399 := cc1396.wr W1395
  have KK1398 := KK1395.wr W1398 (Or.inr (Nat.le_trans (Keep.refl h0 []).1 (Nat.le_of_eq g1388.symm)))
  have ZN1398 := Nat.le_trans ZN1395 (Keep.of_wr W1398).1
  have HK1398 : 0 ≤ h1398.size := Nat.le_trans HK1395 (Keep.of_wr W1398).1
  have NN1398 := Fr.snoc X1398 N1397 G_b1388
  have OL1398 := OL1395.wr W1398 G_b1388
  have ch1398 := ch1395.trans (CHr.wr W1398 (Safe.exa hZ.alike cc1399 (by decide) (by decide)) ch1395.1)
  refine c_sh 87 [] rfl rfl <| c_new X1398 hx hby hZ hown (gw hw 2 rfl) (gw hw 3 rfl) (gw hw 4 rfl) e1398 at_87 (by decide) fun T1400 h1400 b1400 g1400 X1400 e1400 E1400 A1400 D1400 => ?_
  have G_b1400 := Nat.le_trans ZN1398 (Nat.le_of_eq g1400.symm)
  have KK1400 := KK1398.ext E1400
  have ZN1400 := Nat.le_trans ZN1398 E1400.1
  have HK1400 := Nat.le_trans HK1398 E1400.1
  have OL1400 := OL1398.ext E1400
  have sf1400_b1400 := Safe.ext E1400 ch1398.1 (Safe.new (Nat.le_of_eq g1400.symm))
  have ch1400 := ch1398.trans (CHr.ext E1400 ch1398.1)
  refine c_sh 90 [.ref b1400] rfl rfl <| c_dup X1400 hx hby at_90 rfl <| c_aload X1400 hx hby at_91 rfl rfl ?_
  have cc1402 := show Fld Z h1400 b1400 "java/lang/String" "value" "[B" .null from D1400 (Or.inr (gw hw 17 rfl)) (ty := (.array .byte)) (by decide)
  have cc1403 := show fC Z h1400 b1400 from D1400 (Or.inr (gw hw 18 rfl)) (ty := .byte) (by decide)
  have cc1404 := V1398.ext E1400
  have ne1405 : b1400 ≠ b1388 := (Ne.symm (Nat.ne_of_lt (Nat.lt_of_lt_of_le (cc1399.wr W1398).lt (Nat.le_of_eq g1400.symm))))
  refine c_init X1400 hx hby hZ hown hml (gw hw 5 rfl) (gw hw 6 rfl) (gw hw 7 rfl) (gw hw 4 rfl) rfl e1400 (rmSJ4 hw b1400 b1388 w0 .null (.int (0 : Int32)) k1388 c1389 c1391 c1394 c1397 h1400 n0 ZN1400 P1 OL1400 A1400 cc1402 cc1403 G_b1400 cc1404 ne1405 hw0 u1389_1 u1391_1 u1394_1 u1397_1) pd_24 rfl at_93 [.ref b1400] rfl 1 (by decide) rfl rfl fun o1401 T1401 L1401 X1401 hQ1401 => ?_
  obtain ⟨b1401, kb1401, rfl, N1401q, K1401, u1401_1, u1401_2, u1401_3, u1401_4, u1401_5, u1401_6⟩ := hQ1401
  have N1401 := Fr.app NN1398 N1401q
  have G_b1401 := Nat.le_trans ZN1400 u1401_1
  have KK1401 := KK1400.trans K1401 (allS (P := fun x => x ∈ [] ∨ h0.size ≤ x) (Or.inr (Nat.le_trans KK1398.1 (Nat.le_of_eq g1400.symm))) all0)
  have ZN1401 := Nat.le_trans ZN1400 K1401.1
  have HK1401 : 0 ≤ T1401.heap.size := Nat.le_trans HK1400 K1401.1
  have sf1401_b1400 := Safe.keep K1401 (allS sf1400_b1400 all0) ch1400.1 sf1400_b1400
  have ch1401 := ch1400.trans (CHr.keep K1401 (allS sf1400_b1400 all0) ch1400.1)
  have OL1401 := OL1400.keep K1401 (allS G_b1400 all0)
  refine c_sh 96 [.ref b1400] rfl rfl <| c_astore X1401 hx hby _ at_96 rfl rfl <| c_iload X1401 hx hby at_98 rfl <| c_iconst X1401 hx hby 1 at_100 rfl <| c_iand X1401 hx hby at_101 <| c_shL #[iv p1, iv p2, iv p3, iv p4, iv p5, iv p6, iv 4, rv b1388, rv b1400, .unset, .unset, .unset, .unset, .unset] rfl ?_
  by_cases hc102_1406 : (p6 &&& (1 : Int32)) = (0 : Int32)
  ·refine c_ifYes X1401 hx hby 110 at_102 ((if0 _ _).trans (teq hc102_1406).1) (by decide) <| c_iload X1401 hx hby at_110 rfl <| c_iconst X1401 hx hby 1 at_112 rfl <| c_iushr X1401 hx hby at_113 <| c_sipush X1401 hx hby 255 at_114 rfl <| c_iand X1401 hx hby at_117 <| c_i2c X1401 hx hby at_118 ?_
   rw [i2c_mask]
   refine c_sh 119 [.int (((p6.toUInt32 >>> ((1 : Int32) &&& 31).toUInt32).toInt32) &&& (255 : Int32))] rfl rfl <| c_callS X1401 hx hby hZ hown hml (gw hw 115 rfl) (gw hw 116 rfl) (gw hw 4 rfl) (gw hw 117 rfl) rfl (rm23 hw (((p6.toUInt32 >>> ((1 : Int32) &&& 31).toUInt32).toInt32) &&& (255 : Int32)) w0 (T1401.heap) n0 ZN1401 P1 OL1401 hw0 (own_le (own_chm _))) pd_25 rfl at_119 [] rfl 0 (by decide) rfl rfl fun o1407 T1407 L1407 X1407 hQ1407 => ?_
   obtain ⟨b1407, rfl, N1407q, u1407_0, u1407_1, K1407, u1407_3⟩ := hQ1407
   have N1407 := Fr.app N1401 N1407q
   have G_b1407 := Nat.le_trans ZN1401 u1407_0
   have KK1407 := KK1401.trans K1407 all0
   have ZN1407 := Nat.le_trans ZN1401 K1407.1
   have HK1407 : 0 ≤ T1407.heap.size := Nat.le_trans HK1401 K1407.1
   have sf1407_b1400 := Safe.keep K1407 all0 ch1401.1 sf1401_b1400
   have ch1407 := ch1401.trans (CHr.keep K1407 all0 ch1401.1)
   have OL1407 := OL1401.keep K1407 all0
   refine c_sh 122 [.ref b1407] rfl rfl <| c_astore X1407 hx hby _ at_122 rfl rfl <| c_shL #[iv p1, iv p2, iv p3, iv p4, iv p5, iv p6, iv 4, rv b1388, rv b1400, rv b1407, .unset, .unset, .unset, .unset] rfl <| c_new X1407 hx hby hZ hown (gw hw 24 rfl) (gw hw 25 rfl) (gw hw 26 rfl) rfl at_124 (by decide) fun T1408 h1408 b1408 g1408 X1408 e1408 E1408 A1408 D1408 => ?_
   have G_b1408 := Nat.le_trans ZN1407 (Nat.le_of_eq g1408.symm)
   have KK1408 := KK1407.ext E1408
   have ZN1408 := Nat.le_trans ZN1407 E1408.1
   have HK1408 := Nat.le_trans HK1407 E1408.1
   have OL1408 := OL1407.ext E1408
   have sf1408_b1400 := Safe.ext E1408 ch1407.1 sf1407_b1400
   have ch1408 := ch1407.trans (CHr.ext E1408 ch1407.1)
   refine c_sh 127 [.ref b1408] rfl rfl <| c_dup X1408 hx hby at_127 rfl <| c_aload X1408 hx hby at_128 rfl rfl <| c_aload X1408 hx hby at_130 rfl rfl ?_
   have cc1410 := show Fld Z h1408 b1408 "com/example/fuller_query/fullerquery/knowledge/ApiTypes$ApiType" "packageName" "Ljava/lang/String;" .null from D1408 (Or.inr (gw hw 37 rfl)) (ty := (.object "java/lang/String")) (by decide)
   have cc1411 := show Fld Z h1408 b1408 "com/example/fuller_query/fullerquery/knowledge/ApiTypes$ApiType" "name" "Ljava/lang/String;" .null from D1408 (Or.inr (gw hw 39 rfl)) (ty := (.object "java/lang/String")) (by decide)
   refine c_init X1408 hx hby hZ hown hml (gw hw 27 rfl) (gw hw 28 rfl) (gw hw 29 rfl) (gw hw 26 rfl) rfl e1408 (rm4 hw b1408 b1407 b1400 .null .null h1408 n0 ZN1408 A1408 cc1410 cc1411 G_b1408) pd_26 rfl at_132 [.ref b1408] rfl 1 (by decide) rfl rfl fun o1409 T1409 L1409 X1409 hQ1409 => ?_
   obtain ⟨rfl, N1409q, K1409, u1409_1⟩ := hQ1409
   have N1409 := Fr.app N1407 N1409q
   have ne1412 : b1388 ≠ b1408 := (Nat.ne_of_lt (Nat.lt_of_lt_of_le ((((cc1399.wr W1398).ext E1400).keep K1401).keep K1407).lt (Nat.le_of_eq g1408.symm)))
   have ne1413 : b1401 ≠ b1408 := (Nat.ne_of_lt (Nat.lt_of_lt_of_le (u1401_3.keep K1407).lt (Nat.le_of_eq g1408.symm)))
   have ne1414 : b1400 ≠ b1408 := (Nat.ne_of_lt (Nat.lt_of_lt_of_le ((A1400.keep K1401).keep K1407).lt (Nat.le_of_eq g1408.symm)))
   have KK1409 := KK1408.trans K1409 (allS (P := fun x => x ∈ [] ∨ h0.size ≤ x) (Or.inr (Nat.le_trans KK1407.1 (Nat.le_of_eq g1408.symm))) all0)
   have ZN1409 := Nat.le_trans ZN1408 K1409.1
   have HK1409 : 0 ≤ T1409.heap.size := Nat.le_trans HK1408 K1409.1
   have sf1409_b1400 := Safe.keep K1409 (allS (Safe.exa hZ.alike A1408 (by decide) (by decide)) all0) ch1408.1 sf1408_b1400
   have ch1409 := ch1408.trans (CHr.keep K1409 (allS (Safe.exa hZ.alike A1408 (by decide) (by decide)) all0) ch1408.1)
   have OL1409 := OL1408.keep K1409 (allS G_b1408 all0)
   refine c_sh 135 [.ref b1408] rfl rfl <| c_astore X1409 hx hby _ at_135 rfl rfl <| c_shL #[iv p1, iv p2, iv p3, iv p4, iv p5, iv p6, iv 4, rv b1388, rv b1400, rv b1407, rv b1408, .unset, .unset, .unset] rfl ?_
   by_cases hk3_1415 : c1397 = (46 : Int32)
   ·refine c_aload X1409 hx hby at_137 rfl rfl ?_
    have cc1417 := A1408.keep K1409
    have cc1418 := (((A1400.keep K1401).keep K1407).ext E1408).keep K1409
    have cc1419 := ((u1401_6.keep K1407 nin0).ext E1408).keep K1409 (ninS ne1414 nin0)
    have cc1420 := ((u1401_5.keep K1407 nin0).ext E1408).keep K1409 (ninS ne1414 nin0)
    have cc1421 := ((u1401_4.keep K1407 nin0).ext E1408).keep K1409 (ninS ne1413 nin0)
    refine c_callVH X1409 hx hby hZ hown hml (gw hw 40 rfl) (gw hw 41 rfl) (gw hw 43 rfl) (gw hw 42 rfl) (gw hw 44 rfl) (gw hw 26 rfl) cc1417 rfl (own_EW hw) ch1409 hS0 HK1409 (rmSN4_3 hw b1408 b1400 w0 f0 b1401 kb1401 (c1389.toInt8.toInt32) (c1391.toInt8.toInt32) (c1394.toInt8.toInt32) (c1397.toInt8.toInt32) (T1409.heap) n0 ZN1409 cc1417 u1409_1 P1 P2 OL1409 cc1418 cc1419 cc1420 cc1421 hw0 hf ((own_46 u1397_1).mpr hk3_1415)) pd_27 rfl at_139 [] rfl 0 (by decide) rfl rfl fun o1416 T1416 L1416 X1416 hS1416 hZ hown hR1416 ch1416 hQ1416 => ?_
    have sf1416_b1400 := CHr.safe hR1416 cc1418.lt sf1409_b1400
    obtain ⟨b1416, bb1416, kb1416, rfl, N1416q, K1416, u1416_1, u1416_2, u1416_3, u1416_4⟩ := hQ1416
    have N1416 := Fr.app N1409 N1416q
    have KK1416 := KK1409.trans K1416 all0
    have ZN1416 := Nat.le_trans ZN1409 K1416.1
    have OL1416 := OL1409.keep K1416 all0
    refine c_sh 142 [.ref b1416] rfl rfl <| c_astore X1416 hx hby _ at_142 rfl rfl <| c_iconst X1416 hx hby (-1) at_144 rfl <| c_istore X1416 hx hby _ at_145 rfl <| c_iload X1416 hx hby at_147 rfl <| c_ifNo X1416 hx hby at_149 (by decide) <| c_shL #[iv p1, iv p2, iv p3, iv p4, iv p5, iv p6, iv 4, rv b1388, rv b1400, rv b1407, rv b1408, rv b1416, iv (-1), .unset] rfl ?_
    have J1422 : ∀ (z1423 : Int32), Go (own_EndH Z) p e below s room_1.cells room_1.slots (Q0 Z p1 p2 p3 p4 p5 p6 w0 f0 h0 n0) (T1416.setTop (mkF m 164 #[iv p1, iv p2, iv p3, iv p4, iv p5, iv p6, iv 4, rv b1388, rv b1400, rv b1407, rv b1408, rv b1416, iv z1423, .unset] [])) := by
     intro z1423
     refine c_iload X1416 hx hby at_164 rfl <| c_iconst X1416 hx hby 1 at_166 rfl <| c_icmpNo X1416 hx hby at_167 (by decide) ?_
     have J1424 : ∀ (z1425 : Int32), Go (own_EndH Z) p e below s room_1.cells room_1.slots (Q0 Z p1 p2 p3 p4 p5 p6 w0 f0 h0 n0) (T1416.setTop (mkF m 182 #[iv p1, iv p2, iv p3, iv p4, iv p5, iv p6, iv 4, rv b1388, rv b1400, rv b1407, rv b1408, rv b1416, iv z1425, .unset] [])) := by
      intro z1425
      refine c_iload X1416 hx hby at_182 rfl <| c_iconst X1416 hx hby 2 at_184 rfl <| c_icmpNo X1416 hx hby at_185 (by decide) ?_
      have J1426 : ∀ (z1427 : Int32), Go (own_EndH Z) p e below s room_1.cells room_1.slots (Q0 Z p1 p2 p3 p4 p5 p6 w0 f0 h0 n0) (T1416.setTop (mkF m 200 #[iv p1, iv p2, iv p3, iv p4, iv p5, iv p6, iv 4, rv b1388, rv b1400, rv b1407, rv b1408, rv b1416, iv z1427, .unset] [])) := by
       intro z1427
       refine c_iload X1416 hx hby at_200 rfl <| c_iconst X1416 hx hby 3 at_202 rfl <| c_icmpNo X1416 hx hby at_203 (by decide) <| c_aload X1416 hx hby at_206 rfl rfl <| c_iconst X1416 hx hby 3 at_208 rfl ?_
       have cc1428 := ((((cc1404.keep K1401 (ninS (Ne.symm ne1405) nin0)).keep K1407 nin0).ext E1408).keep K1409 (ninS ne1412 nin0)).keep K1416 nin0
       refine c_cal X1416 hx hby hZ rfl cc1428 (by decide) (.int c1397) rfl at_209 <| c_bipush X1416 hx hby 46 at_210 rfl <| c_icmpNo X1416 hx hby at_212 (teq hk3_1415).2 <| c_iconst X1416 hx hby 3 at_215 rfl <| c_istore X1416 hx hby _ at_216 rfl <| c_iload X1416 hx hby at_218 rfl <| c_iload X1416 hx hby at_220 rfl <| c_isub X1416 hx hby at_222 <| c_sh 223 [.int 1] rfl rfl <| c_iconst X1416 hx hby 1 at_223 rfl <| c_isub X1416 hx hby at_224 <| c_sh 225 [.int 0] rfl rfl <| c_istore X1416 hx hby _ at_225 rfl <| c_aload X1416 hx hby at_227 rfl rfl <| c_ifnullNo X1416 hx hby at_229 <| c_aload X1416 hx hby at_232 rfl rfl <| c_shL #[iv p1, iv p2, iv p3, iv p4, iv p5, iv p6, iv 4, rv b1388, rv b1400, rv b1407, rv b1408, rv b1416, iv 3, iv 0] rfl <| c_callV X1416 hx hby hZ hown hml (gw hw 100 rfl) (gw hw 51 rfl) (gw hw 53 rfl) (gw hw 52 rfl) (gw hw 54 rfl) (gw hw 4 rfl) u1416_1 rfl (rm8 hw b1416 w0 bb1416 kb1416 (0 : Int32) [] (T1416.heap) n0 ZN1416 P1 OL1416 u1416_1 u1416_2 u1416_3 u1416_4 hw0) pd_3 rfl at_234 [] rfl 0 (by decide) rfl rfl fun o1429 T1429 L1429 X1429 hQ1429 => ?_
       obtain ⟨rfl, N1429q, e1429⟩ := hQ1429
       have N1429 := Fr.app N1416 N1429q
       refine c_sh 237 [.int 0] rfl rfl <| c_iload X1429 hx hby at_237 rfl <| c_icmpYes X1429 hx hby 244 at_239 (teq (rfl : (0 : Int32) = (0 : Int32))).1 (by decide) <| c_iload X1429 hx hby at_244 rfl <| c_ifYes X1429 hx hby 267 at_246 (by decide) (by decide) <| c_iload X1429 hx hby at_267 rfl <| c_iconst X1429 hx hby 1 at_269 rfl <| c_icmpYes X1429 hx hby 291 at_270 (by decide) (by decide) <| c_iload X1429 hx hby at_291 rfl <| c_iconst X1429 hx hby 2 at_293 rfl <| c_icmpYes X1429 hx hby 315 at_294 (by decide) (by decide) <| c_iload X1429 hx hby at_315 rfl <| c_iconst X1429 hx hby 3 at_317 rfl <| c_icmpYes X1429 hx hby 339 at_318 (by decide) (by decide) <| c_iconst X1429 hx hby 1 at_339 rfl ?_
       refine goRetH X1429 hZ (own_EW hw) ch1416 hh e1429 hS1416 (Nat.le_refl _) hx Bd.notSynchronized Bd.returns rfl (Or.inl ⟨rfl, Or.inr (Or.inl rfl), _, rfl⟩) (hb hby at_340) (by decide) (by decide) ⟨rfl, N1429⟩
      refine c_aload X1416 hx hby at_188 rfl rfl <| c_iconst X1416 hx hby 2 at_190 rfl ?_
      have cc1430 := ((((cc1404.keep K1401 (ninS (Ne.symm ne1405) nin0)).keep K1407 nin0).ext E1408).keep K1409 (ninS ne1412 nin0)).keep K1416 nin0
      refine c_cal X1416 hx hby hZ rfl cc1430 (by decide) (.int c1394) rfl at_191 <| c_bipush X1416 hx hby 46 at_192 rfl ?_
      by_cases hc194_1431 : c1394 = (46 : Int32)
      ·refine c_icmpNo X1416 hx hby at_194 (teq hc194_1431).2 <| c_iconst X1416 hx hby 2 at_197 rfl <| c_istore X1416 hx hby _ at_198 rfl <| c_shL #[iv p1, iv p2, iv p3, iv p4, iv p5, iv p6, iv 4, rv b1388, rv b1400, rv b1407, rv b1408, rv b1416, iv 2, .unset] rfl ?_
       exact J1426 _
      ·refine c_icmpYes X1416 hx hby 200 at_194 (feq hc194_1431).2 (by decide) ?_
       exact J1426 _
     refine c_aload X1416 hx hby at_170 rfl rfl <| c_iconst X1416 hx hby 1 at_172 rfl ?_
     have cc1432 := ((((cc1404.keep K1401 (ninS (Ne.symm ne1405) nin0)).keep K1407 nin0).ext E1408).keep K1409 (ninS ne1412 nin0)).keep K1416 nin0
     refine c_cal X1416 hx hby hZ rfl cc1432 (by decide) (.int c1391) rfl at_173 <| c_bipush X1416 hx hby 46 at_174 rfl ?_
     by_cases hc176_1433 : c1391 = (46 : Int32)
     ·refine c_icmpNo X1416 hx hby at_176 (teq hc176_1433).2 <| c_iconst X1416 hx hby 1 at_179 rfl <| c_istore X1416 hx hby _ at_180 rfl <| c_shL #[iv p1, iv p2, iv p3, iv p4, iv p5, iv p6, iv 4, rv b1388, rv b1400, rv b1407, rv b1408, rv b1416, iv 1, .unset] rfl ?_
      exact J1424 _
     ·refine c_icmpYes X1416 hx hby 182 at_176 (feq hc176_1433).2 (by decide) ?_
      exact J1424 _
    refine c_aload X1416 hx hby at_152 rfl rfl <| c_iconst X1416 hx hby 0 at_154 rfl ?_
    have cc1434 := ((((cc1404.keep K1401 (ninS (Ne.symm ne1405) nin0)).keep K1407 nin0).ext E1408).keep K1409 (ninS ne1412 nin0)).keep K1416 nin0
    refine c_cal X1416 hx hby hZ rfl cc1434 (by decide) (.int c1389) rfl at_155 <| c_bipush X1416 hx hby 46 at_156 rfl ?_
    by_cases hc158_1435 : c1389 = (46 : Int32)
    ·refine c_icmpNo X1416 hx hby at_158 (teq hc158_1435).2 <| c_iconst X1416 hx hby 0 at_161 rfl <| c_istore X1416 hx hby _ at_162 rfl <| c_shL #[iv p1, iv p2, iv p3, iv p4, iv p5, iv p6, iv 4, rv b1388, rv b1400, rv b1407, rv b1408, rv b1416, iv 0, .unset] rfl ?_
     exact J1422 _
    ·refine c_icmpYes X1416 hx hby 164 at_158 (feq hc158_1435).2 (by decide) ?_
     exact J1422 _
   ·by_cases hk2_1436 : c1394 = (46 : Int32)
    ·refine c_aload X1409 hx hby at_137 rfl rfl ?_
     have cc1438 := A1408.keep K1409
     have cc1439 := (((A1400.keep K1401).keep K1407).ext E1408).keep K1409
     have cc1440 := ((u1401_6.keep K1407 nin0).ext E1408).keep K1409 (ninS ne1414 nin0)
     have cc1441 := ((u1401_5.keep K1407 nin0).ext E1408).keep K1409 (ninS ne1414 nin0)
     have cc1442 := ((u1401_4.keep K1407 nin0).ext E1408).keep K1409 (ninS ne1413 nin0)
     refine c_callV X1409 hx hby hZ hown hml (gw hw 40 rfl) (gw hw 41 rfl) (gw hw 43 rfl) (gw hw 42 rfl) (gw hw 44 rfl) (gw hw 26 rfl) cc1438 rfl (rmSN4_2 hw b1408 b1400 w0 f0 b1401 kb1401 (c1389.toInt8.toInt32) (c1391.toInt8.toInt32) (c1394.toInt8.toInt32) (c1397.toInt8.toInt32) (T1409.heap) n0 ZN1409 cc1438 u1409_1 P1 P2 OL1409 cc1439 cc1440 cc1441 cc1442 hw0 hf ((own_46 u1394_1).mpr hk2_1436) (fun qq => hk3_1415 ((own_46 u1397_1).mp qq))) pd_27 rfl at_139 [] rfl 0 (by decide) rfl rfl fun o1437 T1437 L1437 X1437 hQ1437 => ?_
     obtain ⟨b1437, bb1437, kb1437, rfl, N1437q, u1437_0, u1437_1, K1437, u1437_3, u1437_4, u1437_5, u1437_6⟩ := hQ1437
     have N1437 := Fr.app N1409 N1437q
     have G_b1437 := Nat.le_trans ZN1409 u1437_0
     have KK1437 := KK1409.trans K1437 all0
     have ZN1437 := Nat.le_trans ZN1409 K1437.1
     have HK1437 : 0 ≤ T1437.heap.size := Nat.le_trans HK1409 K1437.1
     have sf1437_b1400 := Safe.keep K1437 all0 ch1409.1 sf1409_b1400
     have ch1437 := ch1409.trans (CHr.keep K1437 all0 ch1409.1)
     have OL1437 := OL1409.keep K1437 all0
     refine c_sh 142 [.ref b1437] rfl rfl <| c_astore X1437 hx hby _ at_142 rfl rfl <| c_iconst X1437 hx hby (-1) at_144 rfl <| c_istore X1437 hx hby _ at_145 rfl <| c_iload X1437 hx hby at_147 rfl <| c_ifNo X1437 hx hby at_149 (by decide) <| c_shL #[iv p1, iv p2, iv p3, iv p4, iv p5, iv p6, iv 4, rv b1388, rv b1400, rv b1407, rv b1408, rv b1437, iv (-1), .unset] rfl ?_
     have J1443 : ∀ (z1444 : Int32), Go (own_EndH Z) p e below s room_1.cells room_1.slots (Q0 Z p1 p2 p3 p4 p5 p6 w0 f0 h0 n0) (T1437.setTop (mkF m 164 #[iv p1, iv p2, iv p3, iv p4, iv p5, iv p6, iv 4, rv b1388, rv b1400, rv b1407, rv b1408, rv b1437, iv z1444, .unset] [])) := by
      intro z1444
      refine c_iload X1437 hx hby at_164 rfl <| c_iconst X1437 hx hby 1 at_166 rfl <| c_icmpNo X1437 hx hby at_167 (by decide) ?_
      have J1445 : ∀ (z1446 : Int32), Go (own_EndH Z) p e below s room_1.cells room_1.slots (Q0 Z p1 p2 p3 p4 p5 p6 w0 f0 h0 n0) (T1437.setTop (mkF m 182 #[iv p1, iv p2, iv p3, iv p4, iv p5, iv p6, iv 4, rv b1388, rv b1400, rv b1407, rv b1408, rv b1437, iv z1446, .unset] [])) := by
       intro z1446
       refine c_iload X1437 hx hby at_182 rfl <| c_iconst X1437 hx hby 2 at_184 rfl <| c_icmpNo X1437 hx hby at_185 (by decide) <| c_aload X1437 hx hby at_188 rfl rfl <| c_iconst X1437 hx hby 2 at_190 rfl ?_
       have cc1447 := ((((cc1404.keep K1401 (ninS (Ne.symm ne1405) nin0)).keep K1407 nin0).ext E1408).keep K1409 (ninS ne1412 nin0)).keep K1437 nin0
       refine c_cal X1437 hx hby hZ rfl cc1447 (by decide) (.int c1394) rfl at_191 <| c_bipush X1437 hx hby 46 at_192 rfl <| c_icmpNo X1437 hx hby at_194 (teq hk2_1436).2 <| c_iconst X1437 hx hby 2 at_197 rfl <| c_istore X1437 hx hby _ at_198 rfl <| c_iload X1437 hx hby at_200 rfl <| c_iconst X1437 hx hby 3 at_202 rfl <| c_icmpNo X1437 hx hby at_203 (by decide) <| c_aload X1437 hx hby at_206 rfl rfl <| c_iconst X1437 hx hby 3 at_208 rfl <| c_sh 209 _ rfl rfl <| c_cal X1437 hx hby hZ rfl cc1447 (by decide) (.int c1397) rfl at_209 <| c_bipush X1437 hx hby 46 at_210 rfl <| c_icmpYes X1437 hx hby 218 at_212 (feq hk3_1415).2 (by decide) <| c_iload X1437 hx hby at_218 rfl <| c_iload X1437 hx hby at_220 rfl <| c_isub X1437 hx hby at_222 <| c_sh 223 [.int 2] rfl rfl <| c_iconst X1437 hx hby 1 at_223 rfl <| c_isub X1437 hx hby at_224 <| c_sh 225 [.int 1] rfl rfl <| c_istore X1437 hx hby _ at_225 rfl <| c_aload X1437 hx hby at_227 rfl rfl <| c_ifnullNo X1437 hx hby at_229 <| c_aload X1437 hx hby at_232 rfl rfl <| c_shL #[iv p1, iv p2, iv p3, iv p4, iv p5, iv p6, iv 4, rv b1388, rv b1400, rv b1407, rv b1408, rv b1437, iv 2, iv 1] rfl <| c_callV X1437 hx hby hZ hown hml (gw hw 100 rfl) (gw hw 51 rfl) (gw hw 53 rfl) (gw hw 52 rfl) (gw hw 54 rfl) (gw hw 4 rfl) u1437_3 rfl (rm8 hw b1437 w0 bb1437 kb1437 (1 : Int32) [(.int (c1397.toInt8.toInt32))] (T1437.heap) n0 ZN1437 P1 OL1437 u1437_3 u1437_4 u1437_5 u1437_6 hw0) pd_3 rfl at_234 [] rfl 0 (by decide) rfl rfl fun o1448 T1448 L1448 X1448 hQ1448 => ?_
       obtain ⟨rfl, N1448q, e1448⟩ := hQ1448
       have N1448 := Fr.app N1437 N1448q
       refine c_sh 237 [.int 1] rfl rfl <| c_iload X1448 hx hby at_237 rfl <| c_icmpYes X1448 hx hby 244 at_239 (teq (rfl : (1 : Int32) = (1 : Int32))).1 (by decide) <| c_iload X1448 hx hby at_244 rfl <| c_ifNo X1448 hx hby at_246 (by decide) <| c_aload X1448 hx hby at_249 rfl rfl <| c_iconst X1448 hx hby 0 at_251 rfl <| c_callV X1448 hx hby hZ hown hml (gw hw 148 rfl) (gw hw 149 rfl) (gw hw 151 rfl) (gw hw 150 rfl) (gw hw 152 rfl) (gw hw 4 rfl) u1437_3 e1448 (rm31 hw b1437 (0 : Int32) w0 f0 bb1437 kb1437 (1 : Int32) [(.int (c1397.toInt8.toInt32))] (c1397.toInt8.toInt32) (T1437.heap) n0 ZN1437 P1 P2 OL1437 u1437_3 u1437_4 u1437_5 u1437_6 hw0 (by decide) (by decide) rfl hf) pd_29 rfl at_252 [] rfl 0 (by decide) rfl rfl fun o1449 T1449 L1449 X1449 hQ1449 => ?_
       obtain ⟨rfl, N1449q, e1449⟩ := hQ1449
       have N1449 := Fr.app N1448 N1449q
       refine c_sh 255 [.int (((c1397.toInt8.toInt32) &&& (255 : Int32)).toUInt32.toUInt16.toUInt32.toInt32)] rfl rfl <| c_aload X1449 hx hby at_255 rfl rfl <| c_iload X1449 hx hby at_257 rfl <| c_iconst X1449 hx hby 1 at_259 rfl <| c_iadd X1449 hx hby at_260 <| c_sh 261 [.int 3, .ref b1388, .int (((c1397.toInt8.toInt32) &&& (255 : Int32)).toUInt32.toUInt16.toUInt32.toInt32)] rfl rfl <| c_cal X1449 hx hby hZ e1449 cc1447 (by decide) (.int c1397) rfl at_261 <| c_icmpYes X1449 hx hby 267 at_262 (teq (own_bk u1397_1)).1 (by decide) <| c_iload X1449 hx hby at_267 rfl <| c_iconst X1449 hx hby 1 at_269 rfl <| c_icmpYes X1449 hx hby 291 at_270 (by decide) (by decide) <| c_iload X1449 hx hby at_291 rfl <| c_iconst X1449 hx hby 2 at_293 rfl <| c_icmpYes X1449 hx hby 315 at_294 (by decide) (by decide) <| c_iload X1449 hx hby at_315 rfl <| c_iconst X1449 hx hby 3 at_317 rfl <| c_icmpYes X1449 hx hby 339 at_318 (by decide) (by decide) <| c_iconst X1449 hx hby 1 at_339 rfl ?_
       refine goRetH X1449 hZ (own_EW hw) ch1437 hh e1449 hS0 HK1437 hx Bd.notSynchronized Bd.returns rfl (Or.inl ⟨rfl, Or.inr (Or.inl rfl), _, rfl⟩) (hb hby at_340) (by decide) (by decide) ⟨rfl, N1449⟩
      refine c_aload X1437 hx hby at_170 rfl rfl <| c_iconst X1437 hx hby 1 at_172 rfl ?_
      have cc1450 := ((((cc1404.keep K1401 (ninS (Ne.symm ne1405) nin0)).keep K1407 nin0).ext E1408).keep K1409 (ninS ne1412 nin0)).keep K1437 nin0
      refine c_cal X1437 hx hby hZ rfl cc1450 (by decide) (.int c1391) rfl at_173 <| c_bipush X1437 hx hby 46 at_174 rfl ?_
      by_cases hc176_1451 : c1391 = (46 : Int32)
      ·refine c_icmpNo X1437 hx hby at_176 (teq hc176_1451).2 <| c_iconst X1437 hx hby 1 at_179 rfl <| c_istore X1437 hx hby _ at_180 rfl <| c_shL #[iv p1, iv p2, iv p3, iv p4, iv p5, iv p6, iv 4, rv b1388, rv b1400, rv b1407, rv b1408, rv b1437, iv 1, .unset] rfl ?_
       exact J1445 _
      ·refine c_icmpYes X1437 hx hby 182 at_176 (feq hc176_1451).2 (by decide) ?_
       exact J1445 _
     refine c_aload X1437 hx hby at_152 rfl rfl <| c_iconst X1437 hx hby 0 at_154 rfl ?_
     have cc1452 := ((((cc1404.keep K1401 (ninS (Ne.symm ne1405) nin0)).keep K1407 nin0).ext E1408).keep K1409 (ninS ne1412 nin0)).keep K1437 nin0
     refine c_cal X1437 hx hby hZ rfl cc1452 (by decide) (.int c1389) rfl at_155 <| c_bipush X1437 hx hby 46 at_156 rfl ?_
     by_cases hc158_1453 : c1389 = (46 : Int32)
     ·refine c_icmpNo X1437 hx hby at_158 (teq hc158_1453).2 <| c_iconst X1437 hx hby 0 at_161 rfl <| c_istore X1437 hx hby _ at_162 rfl <| c_shL #[iv p1, iv p2, iv p3, iv p4, iv p5, iv p6, iv 4, rv b1388, rv b1400, rv b1407, rv b1408, rv b1437, iv 0, .unset] rfl ?_
      exact J1443 _
     ·refine c_icmpYes X1437 hx hby 164 at_158 (feq hc158_1453).2 (by decide) ?_
      exact J1443 _
    ·by_cases hk1_1454 : c1391 = (46 : Int32)
     ·refine c_aload X1409 hx hby at_137 rfl rfl ?_
      have cc1456 := A1408.keep K1409
      have cc1457 := (((A1400.keep K1401).keep K1407).ext E1408).keep K1409
      have cc1458 := ((u1401_6.keep K1407 nin0).ext E1408).keep K1409 (ninS ne1414 nin0)
      have cc1459 := ((u1401_5.keep K1407 nin0).ext E1408).keep K1409 (ninS ne1414 nin0)
      have cc1460 := ((u1401_4.keep K1407 nin0).ext E1408).keep K1409 (ninS ne1413 nin0)
      refine c_callV X1409 hx hby hZ hown hml (gw hw 40 rfl) (gw hw 41 rfl) (gw hw 43 rfl) (gw hw 42 rfl) (gw hw 44 rfl) (gw hw 26 rfl) cc1456 rfl (rmSN4_1 hw b1408 b1400 w0 f0 b1401 kb1401 (c1389.toInt8.toInt32) (c1391.toInt8.toInt32) (c1394.toInt8.toInt32) (c1397.toInt8.toInt32) (T1409.heap) n0 ZN1409 cc1456 u1409_1 P1 P2 OL1409 cc1457 cc1458 cc1459 cc1460 hw0 hf ((own_46 u1391_1).mpr hk1_1454) (fun qq => hk2_1436 ((own_46 u1394_1).mp qq)) (fun qq => hk3_1415 ((own_46 u1397_1).mp qq))) pd_27 rfl at_139 [] rfl 0 (by decide) rfl rfl fun o1455 T1455 L1455 X1455 hQ1455 => ?_
      obtain ⟨b1455, bb1455, kb1455, rfl, N1455q, u1455_0, u1455_1, K1455, u1455_3, u1455_4, u1455_5, u1455_6⟩ := hQ1455
      have N1455 := Fr.app N1409 N1455q
      have G_b1455 := Nat.le_trans ZN1409 u1455_0
      have KK1455 := KK1409.trans K1455 all0
      have ZN1455 := Nat.le_trans ZN1409 K1455.1
      have HK1455 : 0 ≤ T1455.heap.size := Nat.le_trans HK1409 K1455.1
      have sf1455_b1400 := Safe.keep K1455 all0 ch1409.1 sf1409_b1400
      have ch1455 := ch1409.trans (CHr.keep K1455 all0 ch1409.1)
      have OL1455 := OL1409.keep K1455 all0
      refine c_sh 142 [.ref b1455] rfl rfl <| c_astore X1455 hx hby _ at_142 rfl rfl <| c_iconst X1455 hx hby (-1) at_144 rfl <| c_istore X1455 hx hby _ at_145 rfl <| c_iload X1455 hx hby at_147 rfl <| c_ifNo X1455 hx hby at_149 (by decide) <| c_shL #[iv p1, iv p2, iv p3, iv p4, iv p5, iv p6, iv 4, rv b1388, rv b1400, rv b1407, rv b1408, rv b1455, iv (-1), .unset] rfl ?_
      have J1461 : ∀ (z1462 : Int32), Go (own_EndH Z) p e below s room_1.cells room_1.slots (Q0 Z p1 p2 p3 p4 p5 p6 w0 f0 h0 n0) (T1455.setTop (mkF m 164 #[iv p1, iv p2, iv p3, iv p4, iv p5, iv p6, iv 4, rv b1388, rv b1400, rv b1407, rv b1408, rv b1455, iv z1462, .unset] [])) := by
       intro z1462
       refine c_iload X1455 hx hby at_164 rfl <| c_iconst X1455 hx hby 1 at_166 rfl <| c_icmpNo X1455 hx hby at_167 (by decide) <| c_aload X1455 hx hby at_170 rfl rfl <| c_iconst X1455 hx hby 1 at_172 rfl ?_
       have cc1463 := ((((cc1404.keep K1401 (ninS (Ne.symm ne1405) nin0)).keep K1407 nin0).ext E1408).keep K1409 (ninS ne1412 nin0)).keep K1455 nin0
       refine c_cal X1455 hx hby hZ rfl cc1463 (by decide) (.int c1391) rfl at_173 <| c_bipush X1455 hx hby 46 at_174 rfl <| c_icmpNo X1455 hx hby at_176 (teq hk1_1454).2 <| c_iconst X1455 hx hby 1 at_179 rfl <| c_istore X1455 hx hby _ at_180 rfl <| c_iload X1455 hx hby at_182 rfl <| c_iconst X1455 hx hby 2 at_184 rfl <| c_icmpNo X1455 hx hby at_185 (by decide) <| c_aload X1455 hx hby at_188 rfl rfl <| c_iconst X1455 hx hby 2 at_190 rfl <| c_sh 191 _ rfl rfl <| c_cal X1455 hx hby hZ rfl cc1463 (by decide) (.int c1394) rfl at_191 <| c_bipush X1455 hx hby 46 at_192 rfl <| c_icmpYes X1455 hx hby 200 at_194 (feq hk2_1436).2 (by decide) <| c_iload X1455 hx hby at_200 rfl <| c_iconst X1455 hx hby 3 at_202 rfl <| c_icmpNo X1455 hx hby at_203 (by decide) <| c_aload X1455 hx hby at_206 rfl rfl <| c_iconst X1455 hx hby 3 at_208 rfl <| c_cal X1455 hx hby hZ rfl cc1463 (by decide) (.int c1397) rfl at_209 <| c_bipush X1455 hx hby 46 at_210 rfl <| c_icmpYes X1455 hx hby 218 at_212 (feq hk3_1415).2 (by decide) <| c_iload X1455 hx hby at_218 rfl <| c_iload X1455 hx hby at_220 rfl <| c_isub X1455 hx hby at_222 <| c_sh 223 [.int 3] rfl rfl <| c_iconst X1455 hx hby 1 at_223 rfl <| c_isub X1455 hx hby at_224 <| c_sh 225 [.int 2] rfl rfl <| c_istore X1455 hx hby _ at_225 rfl <| c_aload X1455 hx hby at_227 rfl rfl <| c_ifnullNo X1455 hx hby at_229 <| c_aload X1455 hx hby at_232 rfl rfl <| c_shL #[iv p1, iv p2, iv p3, iv p4, iv p5, iv p6, iv 4, rv b1388, rv b1400, rv b1407, rv b1408, rv b1455, iv 1, iv 2] rfl <| c_callV X1455 hx hby hZ hown hml (gw hw 100 rfl) (gw hw 51 rfl) (gw hw 53 rfl) (gw hw 52 rfl) (gw hw 54 rfl) (gw hw 4 rfl) u1455_3 rfl (rm8 hw b1455 w0 bb1455 kb1455 (2 : Int32) [(.int (c1394.toInt8.toInt32)), (.int (c1397.toInt8.toInt32))] (T1455.heap) n0 ZN1455 P1 OL1455 u1455_3 u1455_4 u1455_5 u1455_6 hw0) pd_3 rfl at_234 [] rfl 0 (by decide) rfl rfl fun o1464 T1464 L1464 X1464 hQ1464 => ?_
       obtain ⟨rfl, N1464q, e1464⟩ := hQ1464
       have N1464 := Fr.app N1455 N1464q
       refine c_sh 237 [.int 2] rfl rfl <| c_iload X1464 hx hby at_237 rfl <| c_icmpYes X1464 hx hby 244 at_239 (teq (rfl : (2 : Int32) = (2 : Int32))).1 (by decide) <| c_iload X1464 hx hby at_244 rfl <| c_ifNo X1464 hx hby at_246 (by decide) <| c_aload X1464 hx hby at_249 rfl rfl <| c_iconst X1464 hx hby 0 at_251 rfl <| c_callV X1464 hx hby hZ hown hml (gw hw 148 rfl) (gw hw 149 rfl) (gw hw 151 rfl) (gw hw 150 rfl) (gw hw 152 rfl) (gw hw 4 rfl) u1455_3 e1464 (rm31 hw b1455 (0 : Int32) w0 f0 bb1455 kb1455 (2 : Int32) [(.int (c1394.toInt8.toInt32)), (.int (c1397.toInt8.toInt32))] (c1394.toInt8.toInt32) (T1455.heap) n0 ZN1455 P1 P2 OL1455 u1455_3 u1455_4 u1455_5 u1455_6 hw0 (by decide) (by decide) rfl hf) pd_29 rfl at_252 [] rfl 0 (by decide) rfl rfl fun o1465 T1465 L1465 X1465 hQ1465 => ?_
       obtain ⟨rfl, N1465q, e1465⟩ := hQ1465
       have N1465 := Fr.app N1464 N1465q
       refine c_sh 255 [.int (((c1394.toInt8.toInt32) &&& (255 : Int32)).toUInt32.toUInt16.toUInt32.toInt32)] rfl rfl <| c_aload X1465 hx hby at_255 rfl rfl <| c_iload X1465 hx hby at_257 rfl <| c_iconst X1465 hx hby 1 at_259 rfl <| c_iadd X1465 hx hby at_260 <| c_sh 261 [.int 2, .ref b1388, .int (((c1394.toInt8.toInt32) &&& (255 : Int32)).toUInt32.toUInt16.toUInt32.toInt32)] rfl rfl <| c_cal X1465 hx hby hZ e1465 cc1463 (by decide) (.int c1394) rfl at_261 <| c_icmpYes X1465 hx hby 267 at_262 (teq (own_bk u1394_1)).1 (by decide) <| c_iload X1465 hx hby at_267 rfl <| c_iconst X1465 hx hby 1 at_269 rfl <| c_icmpNo X1465 hx hby at_270 (by decide) <| c_aload X1465 hx hby at_273 rfl rfl <| c_iconst X1465 hx hby 1 at_275 rfl <| c_callV X1465 hx hby hZ hown hml (gw hw 148 rfl) (gw hw 149 rfl) (gw hw 151 rfl) (gw hw 150 rfl) (gw hw 152 rfl) (gw hw 4 rfl) u1455_3 e1465 (rm31 hw b1455 (1 : Int32) w0 f0 bb1455 kb1455 (2 : Int32) [(.int (c1394.toInt8.toInt32)), (.int (c1397.toInt8.toInt32))] (c1397.toInt8.toInt32) (T1455.heap) n0 ZN1455 P1 P2 OL1455 u1455_3 u1455_4 u1455_5 u1455_6 hw0 (by decide) (by decide) rfl hf) pd_29 rfl at_276 [] rfl 0 (by decide) rfl rfl fun o1466 T1466 L1466 X1466 hQ1466 => ?_
       obtain ⟨rfl, N1466q, e1466⟩ := hQ1466
       have N1466 := Fr.app N1465 N1466q
       refine c_sh 279 [.int (((c1397.toInt8.toInt32) &&& (255 : Int32)).toUInt32.toUInt16.toUInt32.toInt32)] rfl rfl <| c_aload X1466 hx hby at_279 rfl rfl <| c_iload X1466 hx hby at_281 rfl <| c_iconst X1466 hx hby 2 at_283 rfl <| c_iadd X1466 hx hby at_284 <| c_sh 285 [.int 3, .ref b1388, .int (((c1397.toInt8.toInt32) &&& (255 : Int32)).toUInt32.toUInt16.toUInt32.toInt32)] rfl rfl <| c_cal X1466 hx hby hZ e1466 cc1463 (by decide) (.int c1397) rfl at_285 <| c_icmpYes X1466 hx hby 291 at_286 (teq (own_bk u1397_1)).1 (by decide) <| c_iload X1466 hx hby at_291 rfl <| c_iconst X1466 hx hby 2 at_293 rfl <| c_icmpYes X1466 hx hby 315 at_294 (by decide) (by decide) <| c_iload X1466 hx hby at_315 rfl <| c_iconst X1466 hx hby 3 at_317 rfl <| c_icmpYes X1466 hx hby 339 at_318 (by decide) (by decide) <| c_iconst X1466 hx hby 1 at_339 rfl ?_
       refine goRetH X1466 hZ (own_EW hw) ch1455 hh e1466 hS0 HK1455 hx Bd.notSynchronized Bd.returns rfl (Or.inl ⟨rfl, Or.inr (Or.inl rfl), _, rfl⟩) (hb hby at_340) (by decide) (by decide) ⟨rfl, N1466⟩
      refine c_aload X1455 hx hby at_152 rfl rfl <| c_iconst X1455 hx hby 0 at_154 rfl ?_
      have cc1467 := ((((cc1404.keep K1401 (ninS (Ne.symm ne1405) nin0)).keep K1407 nin0).ext E1408).keep K1409 (ninS ne1412 nin0)).keep K1455 nin0
      refine c_cal X1455 hx hby hZ rfl cc1467 (by decide) (.int c1389) rfl at_155 <| c_bipush X1455 hx hby 46 at_156 rfl ?_
      by_cases hc158_1468 : c1389 = (46 : Int32)
      ·refine c_icmpNo X1455 hx hby at_158 (teq hc158_1468).2 <| c_iconst X1455 hx hby 0 at_161 rfl <| c_istore X1455 hx hby _ at_162 rfl <| c_shL #[iv p1, iv p2, iv p3, iv p4, iv p5, iv p6, iv 4, rv b1388, rv b1400, rv b1407, rv b1408, rv b1455, iv 0, .unset] rfl ?_
       exact J1461 _
      ·refine c_icmpYes X1455 hx hby 164 at_158 (feq hc158_1468).2 (by decide) ?_
       exact J1461 _
     ·by_cases hk0_1469 : c1389 = (46 : Int32)
      ·refine c_aload X1409 hx hby at_137 rfl rfl ?_
       have cc1471 := A1408.keep K1409
       have cc1472 := (((A1400.keep K1401).keep K1407).ext E1408).keep K1409
       have cc1473 := ((u1401_6.keep K1407 nin0).ext E1408).keep K1409 (ninS ne1414 nin0)
       have cc1474 := ((u1401_5.keep K1407 nin0).ext E1408).keep K1409 (ninS ne1414 nin0)
       have cc1475 := ((u1401_4.keep K1407 nin0).ext E1408).keep K1409 (ninS ne1413 nin0)
       refine c_callV X1409 hx hby hZ hown hml (gw hw 40 rfl) (gw hw 41 rfl) (gw hw 43 rfl) (gw hw 42 rfl) (gw hw 44 rfl) (gw hw 26 rfl) cc1471 rfl (rmSN4_0 hw b1408 b1400 w0 f0 b1401 kb1401 (c1389.toInt8.toInt32) (c1391.toInt8.toInt32) (c1394.toInt8.toInt32) (c1397.toInt8.toInt32) (T1409.heap) n0 ZN1409 cc1471 u1409_1 P1 P2 OL1409 cc1472 cc1473 cc1474 cc1475 hw0 hf ((own_46 u1389_1).mpr hk0_1469) (fun qq => hk1_1454 ((own_46 u1391_1).mp qq)) (fun qq => hk2_1436 ((own_46 u1394_1).mp qq)) (fun qq => hk3_1415 ((own_46 u1397_1).mp qq))) pd_27 rfl at_139 [] rfl 0 (by decide) rfl rfl fun o1470 T1470 L1470 X1470 hQ1470 => ?_
       obtain ⟨b1470, bb1470, kb1470, rfl, N1470q, u1470_0, u1470_1, K1470, u1470_3, u1470_4, u1470_5, u1470_6⟩ := hQ1470
       have N1470 := Fr.app N1409 N1470q
       have G_b1470 := Nat.le_trans ZN1409 u1470_0
       have KK1470 := KK1409.trans K1470 all0
       have ZN1470 := Nat.le_trans ZN1409 K1470.1
       have HK1470 : 0 ≤ T1470.heap.size := Nat.le_trans HK1409 K1470.1
       have sf1470_b1400 := Safe.keep K1470 all0 ch1409.1 sf1409_b1400
       have ch1470 := ch1409.trans (CHr.keep K1470 all0 ch1409.1)
       have OL1470 := OL1409.keep K1470 all0
       refine c_sh 142 [.ref b1470] rfl rfl <| c_astore X1470 hx hby _ at_142 rfl rfl <| c_iconst X1470 hx hby (-1) at_144 rfl <| c_istore X1470 hx hby _ at_145 rfl <| c_iload X1470 hx hby at_147 rfl <| c_ifNo X1470 hx hby at_149 (by decide) <| c_aload X1470 hx hby at_152 rfl rfl <| c_iconst X1470 hx hby 0 at_154 rfl <| c_shL #[iv p1, iv p2, iv p3, iv p4, iv p5, iv p6, iv 4, rv b1388, rv b1400, rv b1407, rv b1408, rv b1470, iv (-1), .unset] rfl ?_
       have cc1476 := ((((cc1404.keep K1401 (ninS (Ne.symm ne1405) nin0)).keep K1407 nin0).ext E1408).keep K1409 (ninS ne1412 nin0)).keep K1470 nin0
       refine c_cal X1470 hx hby hZ rfl cc1476 (by decide) (.int c1389) rfl at_155 <| c_bipush X1470 hx hby 46 at_156 rfl <| c_icmpNo X1470 hx hby at_158 (teq hk0_1469).2 <| c_iconst X1470 hx hby 0 at_161 rfl <| c_istore X1470 hx hby _ at_162 rfl <| c_iload X1470 hx hby at_164 rfl <| c_iconst X1470 hx hby 1 at_166 rfl <| c_icmpNo X1470 hx hby at_167 (by decide) <| c_sh 170 _ rfl rfl <| c_aload X1470 hx hby at_170 rfl rfl <| c_iconst X1470 hx hby 1 at_172 rfl <| c_cal X1470 hx hby hZ rfl cc1476 (by decide) (.int c1391) rfl at_173 <| c_bipush X1470 hx hby 46 at_174 rfl <| c_icmpYes X1470 hx hby 182 at_176 (feq hk1_1454).2 (by decide) <| c_iload X1470 hx hby at_182 rfl <| c_iconst X1470 hx hby 2 at_184 rfl <| c_icmpNo X1470 hx hby at_185 (by decide) <| c_aload X1470 hx hby at_188 rfl rfl <| c_iconst X1470 hx hby 2 at_190 rfl <| c_cal X1470 hx hby hZ rfl cc1476 (by decide) (.int c1394) rfl at_191 <| c_bipush X1470 hx hby 46 at_192 rfl <| c_icmpYes X1470 hx hby 200 at_194 (feq hk2_1436).2 (by decide) <| c_iload X1470 hx hby at_200 rfl <| c_iconst X1470 hx hby 3 at_202 rfl <| c_icmpNo X1470 hx hby at_203 (by decide) <| c_aload X1470 hx hby at_206 rfl rfl <| c_iconst X1470 hx hby 3 at_208 rfl <| c_cal X1470 hx hby hZ rfl cc1476 (by decide) (.int c1397) rfl at_209 <| c_bipush X1470 hx hby 46 at_210 rfl <| c_icmpYes X1470 hx hby 218 at_212 (feq hk3_1415).2 (by decide) <| c_iload X1470 hx hby at_218 rfl <| c_iload X1470 hx hby at_220 rfl <| c_isub X1470 hx hby at_222 <| c_sh 223 [.int 4] rfl rfl <| c_iconst X1470 hx hby 1 at_223 rfl <| c_isub X1470 hx hby at_224 <| c_sh 225 [.int 3] rfl rfl <| c_istore X1470 hx hby _ at_225 rfl <| c_aload X1470 hx hby at_227 rfl rfl <| c_ifnullNo X1470 hx hby at_229 <| c_aload X1470 hx hby at_232 rfl rfl <| c_shL #[iv p1, iv p2, iv p3, iv p4, iv p5, iv p6, iv 4, rv b1388, rv b1400, rv b1407, rv b1408, rv b1470, iv 0, iv 3] rfl <| c_callV X1470 hx hby hZ hown hml (gw hw 100 rfl) (gw hw 51 rfl) (gw hw 53 rfl) (gw hw 52 rfl) (gw hw 54 rfl) (gw hw 4 rfl) u1470_3 rfl (rm8 hw b1470 w0 bb1470 kb1470 (3 : Int32) [(.int (c1391.toInt8.toInt32)), (.int (c1394.toInt8.toInt32)), (.int (c1397.toInt8.toInt32))] (T1470.heap) n0 ZN1470 P1 OL1470 u1470_3 u1470_4 u1470_5 u1470_6 hw0) pd_3 rfl at_234 [] rfl 0 (by decide) rfl rfl fun o1477 T1477 L1477 X1477 hQ1477 => ?_
       obtain ⟨rfl, N1477q, e1477⟩ := hQ1477
       have N1477 := Fr.app N1470 N1477q
       refine c_sh 237 [.int 3] rfl rfl <| c_iload X1477 hx hby at_237 rfl <| c_icmpYes X1477 hx hby 244 at_239 (teq (rfl : (3 : Int32) = (3 : Int32))).1 (by decide) <| c_iload X1477 hx hby at_244 rfl <| c_ifNo X1477 hx hby at_246 (by decide) <| c_aload X1477 hx hby at_249 rfl rfl <| c_iconst X1477 hx hby 0 at_251 rfl <| c_callV X1477 hx hby hZ hown hml (gw hw 148 rfl) (gw hw 149 rfl) (gw hw 151 rfl) (gw hw 150 rfl) (gw hw 152 rfl) (gw hw 4 rfl) u1470_3 e1477 (rm31 hw b1470 (0 : Int32) w0 f0 bb1470 kb1470 (3 : Int32) [(.int (c1391.toInt8.toInt32)), (.int (c1394.toInt8.toInt32)), (.int (c1397.toInt8.toInt32))] (c1391.toInt8.toInt32) (T1470.heap) n0 ZN1470 P1 P2 OL1470 u1470_3 u1470_4 u1470_5 u1470_6 hw0 (by decide) (by decide) rfl hf) pd_29 rfl at_252 [] rfl 0 (by decide) rfl rfl fun o1478 T1478 L1478 X1478 hQ1478 => ?_
       obtain ⟨rfl, N1478q, e1478⟩ := hQ1478
       have N1478 := Fr.app N1477 N1478q
       refine c_sh 255 [.int (((c1391.toInt8.toInt32) &&& (255 : Int32)).toUInt32.toUInt16.toUInt32.toInt32)] rfl rfl <| c_aload X1478 hx hby at_255 rfl rfl <| c_iload X1478 hx hby at_257 rfl <| c_iconst X1478 hx hby 1 at_259 rfl <| c_iadd X1478 hx hby at_260 <| c_sh 261 [.int 1, .ref b1388, .int (((c1391.toInt8.toInt32) &&& (255 : Int32)).toUInt32.toUInt16.toUInt32.toInt32)] rfl rfl <| c_cal X1478 hx hby hZ e1478 cc1476 (by decide) (.int c1391) rfl at_261 <| c_icmpYes X1478 hx hby 267 at_262 (teq (own_bk u1391_1)).1 (by decide) <| c_iload X1478 hx hby at_267 rfl <| c_iconst X1478 hx hby 1 at_269 rfl <| c_icmpNo X1478 hx hby at_270 (by decide) <| c_aload X1478 hx hby at_273 rfl rfl <| c_iconst X1478 hx hby 1 at_275 rfl <| c_callV X1478 hx hby hZ hown hml (gw hw 148 rfl) (gw hw 149 rfl) (gw hw 151 rfl) (gw hw 150 rfl) (gw hw 152 rfl) (gw hw 4 rfl) u1470_3 e1478 (rm31 hw b1470 (1 : Int32) w0 f0 bb1470 kb1470 (3 : Int32) [(.int (c1391.toInt8.toInt32)), (.int (c1394.toInt8.toInt32)), (.int (c1397.toInt8.toInt32))] (c1394.toInt8.toInt32) (T1470.heap) n0 ZN1470 P1 P2 OL1470 u1470_3 u1470_4 u1470_5 u1470_6 hw0 (by decide) (by decide) rfl hf) pd_29 rfl at_276 [] rfl 0 (by decide) rfl rfl fun o1479 T1479 L1479 X1479 hQ1479 => ?_
       obtain ⟨rfl, N1479q, e1479⟩ := hQ1479
       have N1479 := Fr.app N1478 N1479q
       refine c_sh 279 [.int (((c1394.toInt8.toInt32) &&& (255 : Int32)).toUInt32.toUInt16.toUInt32.toInt32)] rfl rfl <| c_aload X1479 hx hby at_279 rfl rfl <| c_iload X1479 hx hby at_281 rfl <| c_iconst X1479 hx hby 2 at_283 rfl <| c_iadd X1479 hx hby at_284 <| c_sh 285 [.int 2, .ref b1388, .int (((c1394.toInt8.toInt32) &&& (255 : Int32)).toUInt32.toUInt16.toUInt32.toInt32)] rfl rfl <| c_cal X1479 hx hby hZ e1479 cc1476 (by decide) (.int c1394) rfl at_285 <| c_icmpYes X1479 hx hby 291 at_286 (teq (own_bk u1394_1)).1 (by decide) <| c_iload X1479 hx hby at_291 rfl <| c_iconst X1479 hx hby 2 at_293 rfl <| c_icmpNo X1479 hx hby at_294 (by decide) <| c_aload X1479 hx hby at_297 rfl rfl <| c_iconst X1479 hx hby 2 at_299 rfl <| c_callV X1479 hx hby hZ hown hml (gw hw 148 rfl) (gw hw 149 rfl) (gw hw 151 rfl) (gw hw 150 rfl) (gw hw 152 rfl) (gw hw 4 rfl) u1470_3 e1479 (rm31 hw b1470 (2 : Int32) w0 f0 bb1470 kb1470 (3 : Int32) [(.int (c1391.toInt8.toInt32)), (.int (c1394.toInt8.toInt32)), (.int (c1397.toInt8.toInt32))] (c1397.toInt8.toInt32) (T1470.heap) n0 ZN1470 P1 P2 OL1470 u1470_3 u1470_4 u1470_5 u1470_6 hw0 (by decide) (by decide) rfl hf) pd_29 rfl at_300 [] rfl 0 (by decide) rfl rfl fun o1480 T1480 L1480 X1480 hQ1480 => ?_
       obtain ⟨rfl, N1480q, e1480⟩ := hQ1480
       have N1480 := Fr.app N1479 N1480q
       refine c_sh 303 [.int (((c1397.toInt8.toInt32) &&& (255 : Int32)).toUInt32.toUInt16.toUInt32.toInt32)] rfl rfl <| c_aload X1480 hx hby at_303 rfl rfl <| c_iload X1480 hx hby at_305 rfl <| c_iconst X1480 hx hby 3 at_307 rfl <| c_iadd X1480 hx hby at_308 <| c_sh 309 [.int 3, .ref b1388, .int (((c1397.toInt8.toInt32) &&& (255 : Int32)).toUInt32.toUInt16.toUInt32.toInt32)] rfl rfl <| c_cal X1480 hx hby hZ e1480 cc1476 (by decide) (.int c1397) rfl at_309 <| c_icmpYes X1480 hx hby 315 at_310 (teq (own_bk u1397_1)).1 (by decide) <| c_iload X1480 hx hby at_315 rfl <| c_iconst X1480 hx hby 3 at_317 rfl <| c_icmpYes X1480 hx hby 339 at_318 (by decide) (by decide) <| c_iconst X1480 hx hby 1 at_339 rfl ?_
       refine goRetH X1480 hZ (own_EW hw) ch1470 hh e1480 hS0 HK1470 hx Bd.notSynchronized Bd.returns rfl (Or.inl ⟨rfl, Or.inr (Or.inl rfl), _, rfl⟩) (hb hby at_340) (by decide) (by decide) ⟨rfl, N1480⟩
      ·refine c_aload X1409 hx hby at_137 rfl rfl ?_
       have cc1482 := A1408.keep K1409
       have cc1483 := (((A1400.keep K1401).keep K1407).ext E1408).keep K1409
       have cc1484 := ((u1401_6.keep K1407 nin0).ext E1408).keep K1409 (ninS ne1414 nin0)
       have cc1485 := ((u1401_5.keep K1407 nin0).ext E1408).keep K1409 (ninS ne1414 nin0)
       have cc1486 := ((u1401_4.keep K1407 nin0).ext E1408).keep K1409 (ninS ne1413 nin0)
       refine c_callV X1409 hx hby hZ hown hml (gw hw 40 rfl) (gw hw 41 rfl) (gw hw 43 rfl) (gw hw 42 rfl) (gw hw 44 rfl) (gw hw 26 rfl) cc1482 rfl (rmSN4_m1 hw b1408 b1400 w0 f0 b1401 kb1401 (c1389.toInt8.toInt32) (c1391.toInt8.toInt32) (c1394.toInt8.toInt32) (c1397.toInt8.toInt32) (T1409.heap) n0 ZN1409 cc1482 u1409_1 P1 P2 OL1409 cc1483 cc1484 cc1485 cc1486 hw0 hf (fun qq => hk0_1469 ((own_46 u1389_1).mp qq)) (fun qq => hk1_1454 ((own_46 u1391_1).mp qq)) (fun qq => hk2_1436 ((own_46 u1394_1).mp qq)) (fun qq => hk3_1415 ((own_46 u1397_1).mp qq))) pd_27 rfl at_139 [] rfl 0 (by decide) rfl rfl fun o1481 T1481 L1481 X1481 hQ1481 => ?_
       obtain ⟨rfl, N1481q, e1481⟩ := hQ1481
       have N1481 := Fr.app N1409 N1481q
       refine c_sh 142 [.ref b1400] rfl rfl <| c_astore X1481 hx hby _ at_142 rfl rfl <| c_iconst X1481 hx hby (-1) at_144 rfl <| c_istore X1481 hx hby _ at_145 rfl <| c_iload X1481 hx hby at_147 rfl <| c_ifNo X1481 hx hby at_149 (by decide) <| c_aload X1481 hx hby at_152 rfl rfl <| c_iconst X1481 hx hby 0 at_154 rfl <| c_shL #[iv p1, iv p2, iv p3, iv p4, iv p5, iv p6, iv 4, rv b1388, rv b1400, rv b1407, rv b1408, rv b1400, iv (-1), .unset] rfl ?_
       have cc1487 := (((cc1404.keep K1401 (ninS (Ne.symm ne1405) nin0)).keep K1407 nin0).ext E1408).keep K1409 (ninS ne1412 nin0)
       refine c_cal X1481 hx hby hZ e1481 cc1487 (by decide) (.int c1389) rfl at_155 <| c_bipush X1481 hx hby 46 at_156 rfl <| c_icmpYes X1481 hx hby 164 at_158 (feq hk0_1469).2 (by decide) <| c_iload X1481 hx hby at_164 rfl <| c_iconst X1481 hx hby 1 at_166 rfl <| c_icmpNo X1481 hx hby at_167 (by decide) <| c_aload X1481 hx hby at_170 rfl rfl <| c_iconst X1481 hx hby 1 at_172 rfl <| c_cal X1481 hx hby hZ e1481 cc1487 (by decide) (.int c1391) rfl at_173 <| c_bipush X1481 hx hby 46 at_174 rfl <| c_icmpYes X1481 hx hby 182 at_176 (feq hk1_1454).2 (by decide) <| c_iload X1481 hx hby at_182 rfl <| c_iconst X1481 hx hby 2 at_184 rfl <| c_icmpNo X1481 hx hby at_185 (by decide) <| c_aload X1481 hx hby at_188 rfl rfl <| c_iconst X1481 hx hby 2 at_190 rfl <| c_cal X1481 hx hby hZ e1481 cc1487 (by decide) (.int c1394) rfl at_191 <| c_bipush X1481 hx hby 46 at_192 rfl <| c_icmpYes X1481 hx hby 200 at_194 (feq hk2_1436).2 (by decide) <| c_iload X1481 hx hby at_200 rfl <| c_iconst X1481 hx hby 3 at_202 rfl <| c_icmpNo X1481 hx hby at_203 (by decide) <| c_aload X1481 hx hby at_206 rfl rfl <| c_iconst X1481 hx hby 3 at_208 rfl <| c_cal X1481 hx hby hZ e1481 cc1487 (by decide) (.int c1397) rfl at_209 <| c_bipush X1481 hx hby 46 at_210 rfl <| c_icmpYes X1481 hx hby 218 at_212 (feq hk3_1415).2 (by decide) <| c_iload X1481 hx hby at_218 rfl <| c_iload X1481 hx hby at_220 rfl <| c_isub X1481 hx hby at_222 <| c_sh 223 [.int 5] rfl rfl <| c_iconst X1481 hx hby 1 at_223 rfl <| c_isub X1481 hx hby at_224 <| c_sh 225 [.int 4] rfl rfl <| c_istore X1481 hx hby _ at_225 rfl <| c_aload X1481 hx hby at_227 rfl rfl <| c_ifnullNo X1481 hx hby at_229 <| c_aload X1481 hx hby at_232 rfl rfl <| c_shL #[iv p1, iv p2, iv p3, iv p4, iv p5, iv p6, iv 4, rv b1388, rv b1400, rv b1407, rv b1408, rv b1400, iv (-1), iv 4] rfl <| c_callV X1481 hx hby hZ hown hml (gw hw 100 rfl) (gw hw 51 rfl) (gw hw 53 rfl) (gw hw 52 rfl) (gw hw 54 rfl) (gw hw 4 rfl) cc1483 e1481 (rm8 hw b1400 w0 b1401 kb1401 (4 : Int32) [(.int (c1389.toInt8.toInt32)), (.int (c1391.toInt8.toInt32)), (.int (c1394.toInt8.toInt32)), (.int (c1397.toInt8.toInt32))] (T1409.heap) n0 ZN1409 P1 OL1409 cc1483 cc1484 cc1485 cc1486 hw0) pd_3 rfl at_234 [] rfl 0 (by decide) rfl rfl fun o1488 T1488 L1488 X1488 hQ1488 => ?_
       obtain ⟨rfl, N1488q, e1488⟩ := hQ1488
       have N1488 := Fr.app N1481 N1488q
       refine c_sh 237 [.int 4] rfl rfl <| c_iload X1488 hx hby at_237 rfl <| c_icmpYes X1488 hx hby 244 at_239 (teq (rfl : (4 : Int32) = (4 : Int32))).1 (by decide) <| c_iload X1488 hx hby at_244 rfl <| c_ifNo X1488 hx hby at_246 (by decide) <| c_aload X1488 hx hby at_249 rfl rfl <| c_iconst X1488 hx hby 0 at_251 rfl <| c_callV X1488 hx hby hZ hown hml (gw hw 148 rfl) (gw hw 149 rfl) (gw hw 151 rfl) (gw hw 150 rfl) (gw hw 152 rfl) (gw hw 4 rfl) cc1483 e1488 (rm31 hw b1400 (0 : Int32) w0 f0 b1401 kb1401 (4 : Int32) [(.int (c1389.toInt8.toInt32)), (.int (c1391.toInt8.toInt32)), (.int (c1394.toInt8.toInt32)), (.int (c1397.toInt8.toInt32))] (c1389.toInt8.toInt32) (T1409.heap) n0 ZN1409 P1 P2 OL1409 cc1483 cc1484 cc1485 cc1486 hw0 (by decide) (by decide) rfl hf) pd_29 rfl at_252 [] rfl 0 (by decide) rfl rfl fun o1489 T1489 L1489 X1489 hQ1489 => ?_
       obtain ⟨rfl, N1489q, e1489⟩ := hQ1489
       have N1489 := Fr.app N1488 N1489q
       refine c_sh 255 [.int (((c1389.toInt8.toInt32) &&& (255 : Int32)).toUInt32.toUInt16.toUInt32.toInt32)] rfl rfl <| c_aload X1489 hx hby at_255 rfl rfl <| c_iload X1489 hx hby at_257 rfl <| c_iconst X1489 hx hby 1 at_259 rfl <| c_iadd X1489 hx hby at_260 <| c_sh 261 [.int 0, .ref b1388, .int (((c1389.toInt8.toInt32) &&& (255 : Int32)).toUInt32.toUInt16.toUInt32.toInt32)] rfl rfl <| c_cal X1489 hx hby hZ e1489 cc1487 (by decide) (.int c1389) rfl at_261 <| c_icmpYes X1489 hx hby 267 at_262 (teq (own_bk u1389_1)).1 (by decide) <| c_iload X1489 hx hby at_267 rfl <| c_iconst X1489 hx hby 1 at_269 rfl <| c_icmpNo X1489 hx hby at_270 (by decide) <| c_aload X1489 hx hby at_273 rfl rfl <| c_iconst X1489 hx hby 1 at_275 rfl <| c_callV X1489 hx hby hZ hown hml (gw hw 148 rfl) (gw hw 149 rfl) (gw hw 151 rfl) (gw hw 150 rfl) (gw hw 152 rfl) (gw hw 4 rfl) cc1483 e1489 (rm31 hw b1400 (1 : Int32) w0 f0 b1401 kb1401 (4 : Int32) [(.int (c1389.toInt8.toInt32)), (.int (c1391.toInt8.toInt32)), (.int (c1394.toInt8.toInt32)), (.int (c1397.toInt8.toInt32))] (c1391.toInt8.toInt32) (T1409.heap) n0 ZN1409 P1 P2 OL1409 cc1483 cc1484 cc1485 cc1486 hw0 (by decide) (by decide) rfl hf) pd_29 rfl at_276 [] rfl 0 (by decide) rfl rfl fun o1490 T1490 L1490 X1490 hQ1490 => ?_
       obtain ⟨rfl, N1490q, e1490⟩ := hQ1490
       have N1490 := Fr.app N1489 N1490q
       refine c_sh 279 [.int (((c1391.toInt8.toInt32) &&& (255 : Int32)).toUInt32.toUInt16.toUInt32.toInt32)] rfl rfl <| c_aload X1490 hx hby at_279 rfl rfl <| c_iload X1490 hx hby at_281 rfl <| c_iconst X1490 hx hby 2 at_283 rfl <| c_iadd X1490 hx hby at_284 <| c_sh 285 [.int 1, .ref b1388, .int (((c1391.toInt8.toInt32) &&& (255 : Int32)).toUInt32.toUInt16.toUInt32.toInt32)] rfl rfl <| c_cal X1490 hx hby hZ e1490 cc1487 (by decide) (.int c1391) rfl at_285 <| c_icmpYes X1490 hx hby 291 at_286 (teq (own_bk u1391_1)).1 (by decide) <| c_iload X1490 hx hby at_291 rfl <| c_iconst X1490 hx hby 2 at_293 rfl <| c_icmpNo X1490 hx hby at_294 (by decide) <| c_aload X1490 hx hby at_297 rfl rfl <| c_iconst X1490 hx hby 2 at_299 rfl <| c_callV X1490 hx hby hZ hown hml (gw hw 148 rfl) (gw hw 149 rfl) (gw hw 151 rfl) (gw hw 150 rfl) (gw hw 152 rfl) (gw hw 4 rfl) cc1483 e1490 (rm31 hw b1400 (2 : Int32) w0 f0 b1401 kb1401 (4 : Int32) [(.int (c1389.toInt8.toInt32)), (.int (c1391.toInt8.toInt32)), (.int (c1394.toInt8.toInt32)), (.int (c1397.toInt8.toInt32))] (c1394.toInt8.toInt32) (T1409.heap) n0 ZN1409 P1 P2 OL1409 cc1483 cc1484 cc1485 cc1486 hw0 (by decide) (by decide) rfl hf) pd_29 rfl at_300 [] rfl 0 (by decide) rfl rfl fun o1491 T1491 L1491 X1491 hQ1491 => ?_
       obtain ⟨rfl, N1491q, e1491⟩ := hQ1491
       have N1491 := Fr.app N1490 N1491q
       refine c_sh 303 [.int (((c1394.toInt8.toInt32) &&& (255 : Int32)).toUInt32.toUInt16.toUInt32.toInt32)] rfl rfl <| c_aload X1491 hx hby at_303 rfl rfl <| c_iload X1491 hx hby at_305 rfl <| c_iconst X1491 hx hby 3 at_307 rfl <| c_iadd X1491 hx hby at_308 <| c_sh 309 [.int 2, .ref b1388, .int (((c1394.toInt8.toInt32) &&& (255 : Int32)).toUInt32.toUInt16.toUInt32.toInt32)] rfl rfl <| c_cal X1491 hx hby hZ e1491 cc1487 (by decide) (.int c1394) rfl at_309 <| c_icmpYes X1491 hx hby 315 at_310 (teq (own_bk u1394_1)).1 (by decide) <| c_iload X1491 hx hby at_315 rfl <| c_iconst X1491 hx hby 3 at_317 rfl <| c_icmpNo X1491 hx hby at_318 (by decide) <| c_aload X1491 hx hby at_321 rfl rfl <| c_iconst X1491 hx hby 3 at_323 rfl <| c_callV X1491 hx hby hZ hown hml (gw hw 148 rfl) (gw hw 149 rfl) (gw hw 151 rfl) (gw hw 150 rfl) (gw hw 152 rfl) (gw hw 4 rfl) cc1483 e1491 (rm31 hw b1400 (3 : Int32) w0 f0 b1401 kb1401 (4 : Int32) [(.int (c1389.toInt8.toInt32)), (.int (c1391.toInt8.toInt32)), (.int (c1394.toInt8.toInt32)), (.int (c1397.toInt8.toInt32))] (c1397.toInt8.toInt32) (T1409.heap) n0 ZN1409 P1 P2 OL1409 cc1483 cc1484 cc1485 cc1486 hw0 (by decide) (by decide) rfl hf) pd_29 rfl at_324 [] rfl 0 (by decide) rfl rfl fun o1492 T1492 L1492 X1492 hQ1492 => ?_
       obtain ⟨rfl, N1492q, e1492⟩ := hQ1492
       have N1492 := Fr.app N1491 N1492q
       refine c_sh 327 [.int (((c1397.toInt8.toInt32) &&& (255 : Int32)).toUInt32.toUInt16.toUInt32.toInt32)] rfl rfl <| c_aload X1492 hx hby at_327 rfl rfl <| c_iload X1492 hx hby at_329 rfl <| c_iconst X1492 hx hby 4 at_331 rfl <| c_iadd X1492 hx hby at_332 <| c_sh 333 [.int 3, .ref b1388, .int (((c1397.toInt8.toInt32) &&& (255 : Int32)).toUInt32.toUInt16.toUInt32.toInt32)] rfl rfl <| c_cal X1492 hx hby hZ e1492 cc1487 (by decide) (.int c1397) rfl at_333 <| c_icmpYes X1492 hx hby 339 at_334 (teq (own_bk u1397_1)).1 (by decide) <| c_iconst X1492 hx hby 1 at_339 rfl ?_
       refine goRetH X1492 hZ (own_EW hw) ch1409 hh e1492 hS0 HK1409 hx Bd.notSynchronized Bd.returns rfl (Or.inl ⟨rfl, Or.inr (Or.inl rfl), _, rfl⟩) (hb hby at_340) (by decide) (by decide) ⟨rfl, N1492⟩
  ·refine c_ifNo X1401 hx hby at_102 ((if0 _ _).trans (feq hc102_1406).1) ?_
   obtain ⟨t1493, T1493, h1493, k1493, bs1493, ks1493, X1493, e1493, E1493, hS1493, hk1493, hZ, hown, LE1493, LC1493, LV1493, LA1493, -, -, cr1493, -, sn1493, st1493⟩ := ldcCH X1401 hx hZ hown (gw hw 23 rfl) (own_wS hw) rfl hS0 HK1401 (own_EW hw) (List.mem_of_getElem? (i := 0) rfl) ch1401.1 (vs := []) (z := (0 : Int32)) ⟨by decide, by decide⟩ (by decide) (by decide) (g := (mkF m 105 #[iv p1, iv p2, iv p3, iv p4, iv p5, iv p6, iv 4, rv b1388, rv b1400, .unset, .unset, .unset, .unset, .unset] [])) rfl (hb hby at_105) (n := 0) (by decide) (by decide) (by decide) (by decide)
   have sf1493_b1400 := CHr.safe cr1493 (A1400.keep K1401).lt sf1401_b1400
   have ch1493 := ch1401.trans cr1493
   have KK1493 := KK1401.ext E1493
   have ZN1493 := Nat.le_trans ZN1401 E1493.1
   have OL1493 := OL1401.ext E1493
   refine go st1493 ?_
   show Go _ p e below s _ _ _ (T1493.setTop (mkF m 107 #[iv p1, iv p2, iv p3, iv p4, iv p5, iv p6, iv 4, rv b1388, rv b1400, .unset, .unset, .unset, .unset, .unset] [.ref t1493]))
   refine c_goto X1493 hx hby 122 at_107 (by decide) <| c_astore X1493 hx hby _ at_122 rfl rfl <| c_shL #[iv p1, iv p2, iv p3, iv p4, iv p5, iv p6, iv 4, rv b1388, rv b1400, rv t1493, .unset, .unset, .unset, .unset] rfl <| c_new X1493 hx hby hZ hown (gw hw 24 rfl) (gw hw 25 rfl) (gw hw 26 rfl) e1493 at_124 (by decide) fun T1494 h1494 b1494 g1494 X1494 e1494 E1494 A1494 D1494 => ?_
   have G_b1494 := Nat.le_trans ZN1493 (Nat.le_of_eq g1494.symm)
   have KK1494 := KK1493.ext E1494
   have ZN1494 := Nat.le_trans ZN1493 E1494.1
   have HK1494 := Nat.le_trans hk1493 E1494.1
   have OL1494 := OL1493.ext E1494
   have sf1494_b1400 := Safe.ext E1494 ch1493.1 sf1493_b1400
   have ch1494 := ch1493.trans (CHr.ext E1494 ch1493.1)
   refine c_sh 127 [.ref b1494] rfl rfl <| c_dup X1494 hx hby at_127 rfl <| c_aload X1494 hx hby at_128 rfl rfl <| c_aload X1494 hx hby at_130 rfl rfl ?_
   have cc1496 := show Fld Z h1494 b1494 "com/example/fuller_query/fullerquery/knowledge/ApiTypes$ApiType" "packageName" "Ljava/lang/String;" .null from D1494 (Or.inr (gw hw 37 rfl)) (ty := (.object "java/lang/String")) (by decide)
   have cc1497 := show Fld Z h1494 b1494 "com/example/fuller_query/fullerquery/knowledge/ApiTypes$ApiType" "name" "Ljava/lang/String;" .null from D1494 (Or.inr (gw hw 39 rfl)) (ty := (.object "java/lang/String")) (by decide)
   refine c_init X1494 hx hby hZ hown hml (gw hw 27 rfl) (gw hw 28 rfl) (gw hw 29 rfl) (gw hw 26 rfl) rfl e1494 (rm4 hw b1494 t1493 b1400 .null .null h1494 n0 ZN1494 A1494 cc1496 cc1497 G_b1494) pd_26 rfl at_132 [.ref b1494] rfl 1 (by decide) rfl rfl fun o1495 T1495 L1495 X1495 hQ1495 => ?_
   obtain ⟨rfl, N1495q, K1495, u1495_1⟩ := hQ1495
   have N1495 := Fr.app N1401 N1495q
   have ne1498 : b1388 ≠ b1494 := (Nat.ne_of_lt (Nat.lt_of_lt_of_le ((((cc1399.wr W1398).ext E1400).keep K1401).ext E1493).lt (Nat.le_of_eq g1494.symm)))
   have ne1499 : b1401 ≠ b1494 := (Nat.ne_of_lt (Nat.lt_of_lt_of_le (u1401_3.ext E1493).lt (Nat.le_of_eq g1494.symm)))
   have ne1500 : b1400 ≠ b1494 := (Nat.ne_of_lt (Nat.lt_of_lt_of_le ((A1400.keep K1401).ext E1493).lt (Nat.le_of_eq g1494.symm)))
   have ne1501 : t1493 ≠ b1494 := (Nat.ne_of_lt (Nat.lt_of_lt_of_le LE1493.lt (Nat.le_of_eq g1494.symm)))
   have ne1502 : bs1493 ≠ b1494 := (Nat.ne_of_lt (Nat.lt_of_lt_of_le LA1493.lt (Nat.le_of_eq g1494.symm)))
   have KK1495 := KK1494.trans K1495 (allS (P := fun x => x ∈ [] ∨ h0.size ≤ x) (Or.inr (Nat.le_trans KK1493.1 (Nat.le_of_eq g1494.symm))) all0)
   have ZN1495 := Nat.le_trans ZN1494 K1495.1
   have HK1495 : k1493 ≤ T1495.heap.size := Nat.le_trans HK1494 K1495.1
   have sf1495_b1400 := Safe.keep K1495 (allS (Safe.exa hZ.alike A1494 (by decide) (by decide)) all0) ch1494.1 sf1494_b1400
   have ch1495 := ch1494.trans (CHr.keep K1495 (allS (Safe.exa hZ.alike A1494 (by decide) (by decide)) all0) ch1494.1)
   have OL1495 := OL1494.keep K1495 (allS G_b1494 all0)
   refine c_sh 135 [.ref b1494] rfl rfl <| c_astore X1495 hx hby _ at_135 rfl rfl <| c_shL #[iv p1, iv p2, iv p3, iv p4, iv p5, iv p6, iv 4, rv b1388, rv b1400, rv t1493, rv b1494, .unset, .unset, .unset] rfl ?_
   by_cases hk3_1503 : c1397 = (46 : Int32)
   ·refine c_aload X1495 hx hby at_137 rfl rfl ?_
    have cc1505 := A1494.keep K1495
    have cc1506 := (((A1400.keep K1401).ext E1493).ext E1494).keep K1495
    have cc1507 := ((u1401_6.ext E1493).ext E1494).keep K1495 (ninS ne1500 nin0)
    have cc1508 := ((u1401_5.ext E1493).ext E1494).keep K1495 (ninS ne1500 nin0)
    have cc1509 := ((u1401_4.ext E1493).ext E1494).keep K1495 (ninS ne1499 nin0)
    refine c_callVH X1495 hx hby hZ hown hml (gw hw 40 rfl) (gw hw 41 rfl) (gw hw 43 rfl) (gw hw 42 rfl) (gw hw 44 rfl) (gw hw 26 rfl) cc1505 rfl (own_EW hw) ch1495 hS1493 HK1495 (rmSN4_3 hw b1494 b1400 w0 f0 b1401 kb1401 (c1389.toInt8.toInt32) (c1391.toInt8.toInt32) (c1394.toInt8.toInt32) (c1397.toInt8.toInt32) (T1495.heap) n0 ZN1495 cc1505 u1495_1 P1 P2 OL1495 cc1506 cc1507 cc1508 cc1509 hw0 hf ((own_46 u1397_1).mpr hk3_1503)) pd_27 rfl at_139 [] rfl 0 (by decide) rfl rfl fun o1504 T1504 L1504 X1504 hS1504 hZ hown hR1504 ch1504 hQ1504 => ?_
    have sf1504_b1400 := CHr.safe hR1504 cc1506.lt sf1495_b1400
    obtain ⟨b1504, bb1504, kb1504, rfl, N1504q, K1504, u1504_1, u1504_2, u1504_3, u1504_4⟩ := hQ1504
    have N1504 := Fr.app N1495 N1504q
    have KK1504 := KK1495.trans K1504 all0
    have ZN1504 := Nat.le_trans ZN1495 K1504.1
    have OL1504 := OL1495.keep K1504 all0
    refine c_sh 142 [.ref b1504] rfl rfl <| c_astore X1504 hx hby _ at_142 rfl rfl <| c_iconst X1504 hx hby (-1) at_144 rfl <| c_istore X1504 hx hby _ at_145 rfl <| c_iload X1504 hx hby at_147 rfl <| c_ifNo X1504 hx hby at_149 (by decide) <| c_shL #[iv p1, iv p2, iv p3, iv p4, iv p5, iv p6, iv 4, rv b1388, rv b1400, rv t1493, rv b1494, rv b1504, iv (-1), .unset] rfl ?_
    have J1510 : ∀ (z1511 : Int32), Go (own_EndH Z) p e below s room_1.cells room_1.slots (Q0 Z p1 p2 p3 p4 p5 p6 w0 f0 h0 n0) (T1504.setTop (mkF m 164 #[iv p1, iv p2, iv p3, iv p4, iv p5, iv p6, iv 4, rv b1388, rv b1400, rv t1493, rv b1494, rv b1504, iv z1511, .unset] [])) := by
     intro z1511
     refine c_iload X1504 hx hby at_164 rfl <| c_iconst X1504 hx hby 1 at_166 rfl <| c_icmpNo X1504 hx hby at_167 (by decide) ?_
     have J1512 : ∀ (z1513 : Int32), Go (own_EndH Z) p e below s room_1.cells room_1.slots (Q0 Z p1 p2 p3 p4 p5 p6 w0 f0 h0 n0) (T1504.setTop (mkF m 182 #[iv p1, iv p2, iv p3, iv p4, iv p5, iv p6, iv 4, rv b1388, rv b1400, rv t1493, rv b1494, rv b1504, iv z1513, .unset] [])) := by
      intro z1513
      refine c_iload X1504 hx hby at_182 rfl <| c_iconst X1504 hx hby 2 at_184 rfl <| c_icmpNo X1504 hx hby at_185 (by decide) ?_
      have J1514 : ∀ (z1515 : Int32), Go (own_EndH Z) p e below s room_1.cells room_1.slots (Q0 Z p1 p2 p3 p4 p5 p6 w0 f0 h0 n0) (T1504.setTop (mkF m 200 #[iv p1, iv p2, iv p3, iv p4, iv p5, iv p6, iv 4, rv b1388, rv b1400, rv t1493, rv b1494, rv b1504, iv z1515, .unset] [])) := by
       intro z1515
       refine c_iload X1504 hx hby at_200 rfl <| c_iconst X1504 hx hby 3 at_202 rfl <| c_icmpNo X1504 hx hby at_203 (by decide) <| c_aload X1504 hx hby at_206 rfl rfl <| c_iconst X1504 hx hby 3 at_208 rfl ?_
       have cc1516 := ((((cc1404.keep K1401 (ninS (Ne.symm ne1405) nin0)).ext E1493).ext E1494).keep K1495 (ninS ne1498 nin0)).keep K1504 nin0
       refine c_cal X1504 hx hby hZ rfl cc1516 (by decide) (.int c1397) rfl at_209 <| c_bipush X1504 hx hby 46 at_210 rfl <| c_icmpNo X1504 hx hby at_212 (teq hk3_1503).2 <| c_iconst X1504 hx hby 3 at_215 rfl <| c_istore X1504 hx hby _ at_216 rfl <| c_iload X1504 hx hby at_218 rfl <| c_iload X1504 hx hby at_220 rfl <| c_isub X1504 hx hby at_222 <| c_sh 223 [.int 1] rfl rfl <| c_iconst X1504 hx hby 1 at_223 rfl <| c_isub X1504 hx hby at_224 <| c_sh 225 [.int 0] rfl rfl <| c_istore X1504 hx hby _ at_225 rfl <| c_aload X1504 hx hby at_227 rfl rfl <| c_ifnullNo X1504 hx hby at_229 <| c_aload X1504 hx hby at_232 rfl rfl <| c_shL #[iv p1, iv p2, iv p3, iv p4, iv p5, iv p6, iv 4, rv b1388, rv b1400, rv t1493, rv b1494, rv b1504, iv 3, iv 0] rfl <| c_callV X1504 hx hby hZ hown hml (gw hw 100 rfl) (gw hw 51 rfl) (gw hw 53 rfl) (gw hw 52 rfl) (gw hw 54 rfl) (gw hw 4 rfl) u1504_1 rfl (rm8 hw b1504 w0 bb1504 kb1504 (0 : Int32) [] (T1504.heap) n0 ZN1504 P1 OL1504 u1504_1 u1504_2 u1504_3 u1504_4 hw0) pd_3 rfl at_234 [] rfl 0 (by decide) rfl rfl fun o1517 T1517 L1517 X1517 hQ1517 => ?_
       obtain ⟨rfl, N1517q, e1517⟩ := hQ1517
       have N1517 := Fr.app N1504 N1517q
       refine c_sh 237 [.int 0] rfl rfl <| c_iload X1517 hx hby at_237 rfl <| c_icmpYes X1517 hx hby 244 at_239 (teq (rfl : (0 : Int32) = (0 : Int32))).1 (by decide) <| c_iload X1517 hx hby at_244 rfl <| c_ifYes X1517 hx hby 267 at_246 (by decide) (by decide) <| c_iload X1517 hx hby at_267 rfl <| c_iconst X1517 hx hby 1 at_269 rfl <| c_icmpYes X1517 hx hby 291 at_270 (by decide) (by decide) <| c_iload X1517 hx hby at_291 rfl <| c_iconst X1517 hx hby 2 at_293 rfl <| c_icmpYes X1517 hx hby 315 at_294 (by decide) (by decide) <| c_iload X1517 hx hby at_315 rfl <| c_iconst X1517 hx hby 3 at_317 rfl <| c_icmpYes X1517 hx hby 339 at_318 (by decide) (by decide) <| c_iconst X1517 hx hby 1 at_339 rfl ?_
       refine goRetH X1517 hZ (own_EW hw) ch1504 hh e1517 hS1504 (Nat.le_refl _) hx Bd.notSynchronized Bd.returns rfl (Or.inl ⟨rfl, Or.inr (Or.inl rfl), _, rfl⟩) (hb hby at_340) (by decide) (by decide) ⟨rfl, N1517⟩
      refine c_aload X1504 hx hby at_188 rfl rfl <| c_iconst X1504 hx hby 2 at_190 rfl ?_
      have cc1518 := ((((cc1404.keep K1401 (ninS (Ne.symm ne1405) nin0)).ext E1493).ext E1494).keep K1495 (ninS ne1498 nin0)).keep K1504 nin0
      refine c_cal X1504 hx hby hZ rfl cc1518 (by decide) (.int c1394) rfl at_191 <| c_bipush X1504 hx hby 46 at_192 rfl ?_
      by_cases hc194_1519 : c1394 = (46 : Int32)
      ·refine c_icmpNo X1504 hx hby at_194 (teq hc194_1519).2 <| c_iconst X1504 hx hby 2 at_197 rfl <| c_istore X1504 hx hby _ at_198 rfl <| c_shL #[iv p1, iv p2, iv p3, iv p4, iv p5, iv p6, iv 4, rv b1388, rv b1400, rv t1493, rv b1494, rv b1504, iv 2, .unset] rfl ?_
       exact J1514 _
      ·refine c_icmpYes X1504 hx hby 200 at_194 (feq hc194_1519).2 (by decide) ?_
       exact J1514 _
     refine c_aload X1504 hx hby at_170 rfl rfl <| c_iconst X1504 hx hby 1 at_172 rfl ?_
     have cc1520 := ((((cc1404.keep K1401 (ninS (Ne.symm ne1405) nin0)).ext E1493).ext E1494).keep K1495 (ninS ne1498 nin0)).keep K1504 nin0
     refine c_cal X1504 hx hby hZ rfl cc1520 (by decide) (.int c1391) rfl at_173 <| c_bipush X1504 hx hby 46 at_174 rfl ?_
     by_cases hc176_1521 : c1391 = (46 : Int32)
     ·refine c_icmpNo X1504 hx hby at_176 (teq hc176_1521).2 <| c_iconst X1504 hx hby 1 at_179 rfl <| c_istore X1504 hx hby _ at_180 rfl <| c_shL #[iv p1, iv p2, iv p3, iv p4, iv p5, iv p6, iv 4, rv b1388, rv b1400, rv t1493, rv b1494, rv b1504, iv 1, .unset] rfl ?_
      exact J1512 _
     ·refine c_icmpYes X1504 hx hby 182 at_176 (feq hc176_1521).2 (by decide) ?_
      exact J1512 _
    refine c_aload X1504 hx hby at_152 rfl rfl <| c_iconst X1504 hx hby 0 at_154 rfl ?_
    have cc1522 := ((((cc1404.keep K1401 (ninS (Ne.symm ne1405) nin0)).ext E1493).ext E1494).keep K1495 (ninS ne1498 nin0)).keep K1504 nin0
    refine c_cal X1504 hx hby hZ rfl cc1522 (by decide) (.int c1389) rfl at_155 <| c_bipush X1504 hx hby 46 at_156 rfl ?_
    by_cases hc158_1523 : c1389 = (46 : Int32)
    ·refine c_icmpNo X1504 hx hby at_158 (teq hc158_1523).2 <| c_iconst X1504 hx hby 0 at_161 rfl <| c_istore X1504 hx hby _ at_162 rfl <| c_shL #[iv p1, iv p2, iv p3, iv p4, iv p5, iv p6, iv 4, rv b1388, rv b1400, rv t1493, rv b1494, rv b1504, iv 0, .unset] rfl ?_
     exact J1510 _
    ·refine c_icmpYes X1504 hx hby 164 at_158 (feq hc158_1523).2 (by decide) ?_
     exact J1510 _
   ·by_cases hk2_1524 : c1394 = (46 : Int32)
    ·refine c_aload X1495 hx hby at_137 rfl rfl ?_
     have cc1526 := A1494.keep K1495
     have cc1527 := (((A1400.keep K1401).ext E1493).ext E1494).keep K1495
     have cc1528 := ((u1401_6.ext E1493).ext E1494).keep K1495 (ninS ne1500 nin0)
     have cc1529 := ((u1401_5.ext E1493).ext E1494).keep K1495 (ninS ne1500 nin0)
     have cc1530 := ((u1401_4.ext E1493).ext E1494).keep K1495 (ninS ne1499 nin0)
     refine c_callV X1495 hx hby hZ hown hml (gw hw 40 rfl) (gw hw 41 rfl) (gw hw 43 rfl) (gw hw 42 rfl) (gw hw 44 rfl) (gw hw 26 rfl) cc1526 rfl (rmSN4_2 hw b1494 b1400 w0 f0 b1401 kb1401 (c1389.toInt8.toInt32) (c1391.toInt8.toInt32) (c1394.toInt8.toInt32) (c1397.toInt8.toInt32) (T1495.heap) n0 ZN1495 cc1526 u1495_1 P1 P2 OL1495 cc1527 cc1528 cc1529 cc1530 hw0 hf ((own_46 u1394_1).mpr hk2_1524) (fun qq => hk3_1503 ((own_46 u1397_1).mp qq))) pd_27 rfl at_139 [] rfl 0 (by decide) rfl rfl fun o1525 T1525 L1525 X1525 hQ1525 => ?_
     obtain ⟨b1525, bb1525, kb1525, rfl, N1525q, u1525_0, u1525_1, K1525, u1525_3, u1525_4, u1525_5, u1525_6⟩ := hQ1525
     have N1525 := Fr.app N1495 N1525q
     have G_b1525 := Nat.le_trans ZN1495 u1525_0
     have KK1525 := KK1495.trans K1525 all0
     have ZN1525 := Nat.le_trans ZN1495 K1525.1
     have HK1525 : k1493 ≤ T1525.heap.size := Nat.le_trans HK1495 K1525.1
     have sf1525_b1400 := Safe.keep K1525 all0 ch1495.1 sf1495_b1400
     have ch1525 := ch1495.trans (CHr.keep K1525 all0 ch1495.1)
     have OL1525 := OL1495.keep K1525 all0
     refine c_sh 142 [.ref b1525] rfl rfl <| c_astore X1525 hx hby _ at_142 rfl rfl <| c_iconst X1525 hx hby (-1) at_144 rfl <| c_istore X1525 hx hby _ at_145 rfl <| c_iload X1525 hx hby at_147 rfl <| c_ifNo X1525 hx hby at_149 (by decide) <| c_shL #[iv p1, iv p2, iv p3, iv p4, iv p5, iv p6, iv 4, rv b1388, rv b1400, rv t1493, rv b1494, rv b1525, iv (-1), .unset] rfl ?_
     have J1531 : ∀ (z1532 : Int32), Go (own_EndH Z) p e below s room_1.cells room_1.slots (Q0 Z p1 p2 p3 p4 p5 p6 w0 f0 h0 n0) (T1525.setTop (mkF m 164 #[iv p1, iv p2, iv p3, iv p4, iv p5, iv p6, iv 4, rv b1388, rv b1400, rv t1493, rv b1494, rv b1525, iv z1532, .unset] [])) := by
      intro z1532
      refine c_iload X1525 hx hby at_164 rfl <| c_iconst X1525 hx hby 1 at_166 rfl <| c_icmpNo X1525 hx hby at_167 (by decide) ?_
      have J1533 : ∀ (z1534 : Int32), Go (own_EndH Z) p e below s room_1.cells room_1.slots (Q0 Z p1 p2 p3 p4 p5 p6 w0 f0 h0 n0) (T1525.setTop (mkF m 182 #[iv p1, iv p2, iv p3, iv p4, iv p5, iv p6, iv 4, rv b1388, rv b1400, rv t1493, rv b1494, rv b1525, iv z1534, .unset] [])) := by
       intro z1534
       refine c_iload X1525 hx hby at_182 rfl <| c_iconst X1525 hx hby 2 at_184 rfl <| c_icmpNo X1525 hx hby at_185 (by decide) <| c_aload X1525 hx hby at_188 rfl rfl <| c_iconst X1525 hx hby 2 at_190 rfl ?_
       have cc1535 := ((((cc1404.keep K1401 (ninS (Ne.symm ne1405) nin0)).ext E1493).ext E1494).keep K1495 (ninS ne1498 nin0)).keep K1525 nin0
       refine c_cal X1525 hx hby hZ rfl cc1535 (by decide) (.int c1394) rfl at_191 <| c_bipush X1525 hx hby 46 at_192 rfl <| c_icmpNo X1525 hx hby at_194 (teq hk2_1524).2 <| c_iconst X1525 hx hby 2 at_197 rfl <| c_istore X1525 hx hby _ at_198 rfl <| c_iload X1525 hx hby at_200 rfl <| c_iconst X1525 hx hby 3 at_202 rfl <| c_icmpNo X1525 hx hby at_203 (by decide) <| c_aload X1525 hx hby at_206 rfl rfl <| c_iconst X1525 hx hby 3 at_208 rfl <| c_sh 209 _ rfl rfl <| c_cal X1525 hx hby hZ rfl cc1535 (by decide) (.int c1397) rfl at_209 <| c_bipush X1525 hx hby 46 at_210 rfl <| c_icmpYes X1525 hx hby 218 at_212 (feq hk3_1503).2 (by decide) <| c_iload X1525 hx hby at_218 rfl <| c_iload X1525 hx hby at_220 rfl <| c_isub X1525 hx hby at_222 <| c_sh 223 [.int 2] rfl rfl <| c_iconst X1525 hx hby 1 at_223 rfl <| c_isub X1525 hx hby at_224 <| c_sh 225 [.int 1] rfl rfl <| c_istore X1525 hx hby _ at_225 rfl <| c_aload X1525 hx hby at_227 rfl rfl <| c_ifnullNo X1525 hx hby at_229 <| c_aload X1525 hx hby at_232 rfl rfl <| c_shL #[iv p1, iv p2, iv p3, iv p4, iv p5, iv p6, iv 4, rv b1388, rv b1400, rv t1493, rv b1494, rv b1525, iv 2, iv 1] rfl <| c_callV X1525 hx hby hZ hown hml (gw hw 100 rfl) (gw hw 51 rfl) (gw hw 53 rfl) (gw hw 52 rfl) (gw hw 54 rfl) (gw hw 4 rfl) u1525_3 rfl (rm8 hw b1525 w0 bb1525 kb1525 (1 : Int32) [(.int (c1397.toInt8.toInt32))] (T1525.heap) n0 ZN1525 P1 OL1525 u1525_3 u1525_4 u1525_5 u1525_6 hw0) pd_3 rfl at_234 [] rfl 0 (by decide) rfl rfl fun o1536 T1536 L1536 X1536 hQ1536 => ?_
       obtain ⟨rfl, N1536q, e1536⟩ := hQ1536
       have N1536 := Fr.app N1525 N1536q
       refine c_sh 237 [.int 1] rfl rfl <| c_iload X1536 hx hby at_237 rfl <| c_icmpYes X1536 hx hby 244 at_239 (teq (rfl : (1 : Int32) = (1 : Int32))).1 (by decide) <| c_iload X1536 hx hby at_244 rfl <| c_ifNo X1536 hx hby at_246 (by decide) <| c_aload X1536 hx hby at_249 rfl rfl <| c_iconst X1536 hx hby 0 at_251 rfl <| c_callV X1536 hx hby hZ hown hml (gw hw 148 rfl) (gw hw 149 rfl) (gw hw 151 rfl) (gw hw 150 rfl) (gw hw 152 rfl) (gw hw 4 rfl) u1525_3 e1536 (rm31 hw b1525 (0 : Int32) w0 f0 bb1525 kb1525 (1 : Int32) [(.int (c1397.toInt8.toInt32))] (c1397.toInt8.toInt32) (T1525.heap) n0 ZN1525 P1 P2 OL1525 u1525_3 u1525_4 u1525_5 u1525_6 hw0 (by decide) (by decide) rfl hf) pd_29 rfl at_252 [] rfl 0 (by decide) rfl rfl fun o1537 T1537 L1537 X1537 hQ1537 => ?_
       obtain ⟨rfl, N1537q, e1537⟩ := hQ1537
       have N1537 := Fr.app N1536 N1537q
       refine c_sh 255 [.int (((c1397.toInt8.toInt32) &&& (255 : Int32)).toUInt32.toUInt16.toUInt32.toInt32)] rfl rfl <| c_aload X1537 hx hby at_255 rfl rfl <| c_iload X1537 hx hby at_257 rfl <| c_iconst X1537 hx hby 1 at_259 rfl <| c_iadd X1537 hx hby at_260 <| c_sh 261 [.int 3, .ref b1388, .int (((c1397.toInt8.toInt32) &&& (255 : Int32)).toUInt32.toUInt16.toUInt32.toInt32)] rfl rfl <| c_cal X1537 hx hby hZ e1537 cc1535 (by decide) (.int c1397) rfl at_261 <| c_icmpYes X1537 hx hby 267 at_262 (teq (own_bk u1397_1)).1 (by decide) <| c_iload X1537 hx hby at_267 rfl <| c_iconst X1537 hx hby 1 at_269 rfl <| c_icmpYes X1537 hx hby 291 at_270 (by decide) (by decide) <| c_iload X1537 hx hby at_291 rfl <| c_iconst X1537 hx hby 2 at_293 rfl <| c_icmpYes X1537 hx hby 315 at_294 (by decide) (by decide) <| c_iload X1537 hx hby at_315 rfl <| c_iconst X1537 hx hby 3 at_317 rfl <| c_icmpYes X1537 hx hby 339 at_318 (by decide) (by decide) <| c_iconst X1537 hx hby 1 at_339 rfl ?_
       refine goRetH X1537 hZ (own_EW hw) ch1525 hh e1537 hS1493 HK1525 hx Bd.notSynchronized Bd.returns rfl (Or.inl ⟨rfl, Or.inr (Or.inl rfl), _, rfl⟩) (hb hby at_340) (by decide) (by decide) ⟨rfl, N1537⟩
      refine c_aload X1525 hx hby at_170 rfl rfl <| c_iconst X1525 hx hby 1 at_172 rfl ?_
      have cc1538 := ((((cc1404.keep K1401 (ninS (Ne.symm ne1405) nin0)).ext E1493).ext E1494).keep K1495 (ninS ne1498 nin0)).keep K1525 nin0
      refine c_cal X1525 hx hby hZ rfl cc1538 (by decide) (.int c1391) rfl at_173 <| c_bipush X1525 hx hby 46 at_174 rfl ?_
      by_cases hc176_1539 : c1391 = (46 : Int32)
      ·refine c_icmpNo X1525 hx hby at_176 (teq hc176_1539).2 <| c_iconst X1525 hx hby 1 at_179 rfl <| c_istore X1525 hx hby _ at_180 rfl <| c_shL #[iv p1, iv p2, iv p3, iv p4, iv p5, iv p6, iv 4, rv b1388, rv b1400, rv t1493, rv b1494, rv b1525, iv 1, .unset] rfl ?_
       exact J1533 _
      ·refine c_icmpYes X1525 hx hby 182 at_176 (feq hc176_1539).2 (by decide) ?_
       exact J1533 _
     refine c_aload X1525 hx hby at_152 rfl rfl <| c_iconst X1525 hx hby 0 at_154 rfl ?_
     have cc1540 := ((((cc1404.keep K1401 (ninS (Ne.symm ne1405) nin0)).ext E1493).ext E1494).keep K1495 (ninS ne1498 nin0)).keep K1525 nin0
     refine c_cal X1525 hx hby hZ rfl cc1540 (by decide) (.int c1389) rfl at_155 <| c_bipush X1525 hx hby 46 at_156 rfl ?_
     by_cases hc158_1541 : c1389 = (46 : Int32)
     ·refine c_icmpNo X1525 hx hby at_158 (teq hc158_1541).2 <| c_iconst X1525 hx hby 0 at_161 rfl <| c_istore X1525 hx hby _ at_162 rfl <| c_shL #[iv p1, iv p2, iv p3, iv p4, iv p5, iv p6, iv 4, rv b1388, rv b1400, rv t1493, rv b1494, rv b1525, iv 0, .unset] rfl ?_
      exact J1531 _
     ·refine c_icmpYes X1525 hx hby 164 at_158 (feq hc158_1541).2 (by decide) ?_
      exact J1531 _
    ·by_cases hk1_1542 : c1391 = (46 : Int32)
     ·refine c_aload X1495 hx hby at_137 rfl rfl ?_
      have cc1544 := A1494.keep K1495
      have cc1545 := (((A1400.keep K1401).ext E1493).ext E1494).keep K1495
      have cc1546 := ((u1401_6.ext E1493).ext E1494).keep K1495 (ninS ne1500 nin0)
      have cc1547 := ((u1401_5.ext E1493).ext E1494).keep K1495 (ninS ne1500 nin0)
      have cc1548 := ((u1401_4.ext E1493).ext E1494).keep K1495 (ninS ne1499 nin0)
      refine c_callV X1495 hx hby hZ hown hml (gw hw 40 rfl) (gw hw 41 rfl) (gw hw 43 rfl) (gw hw 42 rfl) (gw hw 44 rfl) (gw hw 26 rfl) cc1544 rfl (rmSN4_1 hw b1494 b1400 w0 f0 b1401 kb1401 (c1389.toInt8.toInt32) (c1391.toInt8.toInt32) (c1394.toInt8.toInt32) (c1397.toInt8.toInt32) (T1495.heap) n0 ZN1495 cc1544 u1495_1 P1 P2 OL1495 cc1545 cc1546 cc1547 cc1548 hw0 hf ((own_46 u1391_1).mpr hk1_1542) (fun qq => hk2_1524 ((own_46 u1394_1).mp qq)) (fun qq => hk3_1503 ((own_46 u1397_1).mp qq))) pd_27 rfl at_139 [] rfl 0 (by decide) rfl rfl fun o1543 T1543 L1543 X1543 hQ1543 => ?_
      obtain ⟨b1543, bb1543, kb1543, rfl, N1543q, u1543_0, u1543_1, K1543, u1543_3, u1543_4, u1543_5, u1543_6⟩ := hQ1543
      have N1543 := Fr.app N1495 N1543q
      have G_b1543 := Nat.le_trans ZN1495 u1543_0
      have KK1543 := KK1495.trans K1543 all0
      have ZN1543 := Nat.le_trans ZN1495 K1543.1
      have HK1543 : k1493 ≤ T1543.heap.size := Nat.le_trans HK1495 K1543.1
      have sf1543_b1400 := Safe.keep K1543 all0 ch1495.1 sf1495_b1400
      have ch1543 := ch1495.trans (CHr.keep K1543 all0 ch1495.1)
      have OL1543 := OL1495.keep K1543 all0
      refine c_sh 142 [.ref b1543] rfl rfl <| c_astore X1543 hx hby _ at_142 rfl rfl <| c_iconst X1543 hx hby (-1) at_144 rfl <| c_istore X1543 hx hby _ at_145 rfl <| c_iload X1543 hx hby at_147 rfl <| c_ifNo X1543 hx hby at_149 (by decide) <| c_shL #[iv p1, iv p2, iv p3, iv p4, iv p5, iv p6, iv 4, rv b1388, rv b1400, rv t1493, rv b1494, rv b1543, iv (-1), .unset] rfl ?_
      have J1549 : ∀ (z1550 : Int32), Go (own_EndH Z) p e below s room_1.cells room_1.slots (Q0 Z p1 p2 p3 p4 p5 p6 w0 f0 h0 n0) (T1543.setTop (mkF m 164 #[iv p1, iv p2, iv p3, iv p4, iv p5, iv p6, iv 4, rv b1388, rv b1400, rv t1493, rv b1494, rv b1543, iv z1550, .unset] [])) := by
       intro z1550
       refine c_iload X1543 hx hby at_164 rfl <| c_iconst X1543 hx hby 1 at_166 rfl <| c_icmpNo X1543 hx hby at_167 (by decide) <| c_aload X1543 hx hby at_170 rfl rfl <| c_iconst X1543 hx hby 1 at_172 rfl ?_
       have cc1551 := ((((cc1404.keep K1401 (ninS (Ne.symm ne1405) nin0)).ext E1493).ext E1494).keep K1495 (ninS ne1498 nin0)).keep K1543 nin0
       refine c_cal X1543 hx hby hZ rfl cc1551 (by decide) (.int c1391) rfl at_173 <| c_bipush X1543 hx hby 46 at_174 rfl <| c_icmpNo X1543 hx hby at_176 (teq hk1_1542).2 <| c_iconst X1543 hx hby 1 at_179 rfl <| c_istore X1543 hx hby _ at_180 rfl <| c_iload X1543 hx hby at_182 rfl <| c_iconst X1543 hx hby 2 at_184 rfl <| c_icmpNo X1543 hx hby at_185 (by decide) <| c_aload X1543 hx hby at_188 rfl rfl <| c_iconst X1543 hx hby 2 at_190 rfl <| c_sh 191 _ rfl rfl <| c_cal X1543 hx hby hZ rfl cc1551 (by decide) (.int c1394) rfl at_191 <| c_bipush X1543 hx hby 46 at_192 rfl <| c_icmpYes X1543 hx hby 200 at_194 (feq hk2_1524).2 (by decide) <| c_iload X1543 hx hby at_200 rfl <| c_iconst X1543 hx hby 3 at_202 rfl <| c_icmpNo X1543 hx hby at_203 (by decide) <| c_aload X1543 hx hby at_206 rfl rfl <| c_iconst X1543 hx hby 3 at_208 rfl <| c_cal X1543 hx hby hZ rfl cc1551 (by decide) (.int c1397) rfl at_209 <| c_bipush X1543 hx hby 46 at_210 rfl <| c_icmpYes X1543 hx hby 218 at_212 (feq hk3_1503).2 (by decide) <| c_iload X1543 hx hby at_218 rfl <| c_iload X1543 hx hby at_220 rfl <| c_isub X1543 hx hby at_222 <| c_sh 223 [.int 3] rfl rfl <| c_iconst X1543 hx hby 1 at_223 rfl <| c_isub X1543 hx hby at_224 <| c_sh 225 [.int 2] rfl rfl <| c_istore X1543 hx hby _ at_225 rfl <| c_aload X1543 hx hby at_227 rfl rfl <| c_ifnullNo X1543 hx hby at_229 <| c_aload X1543 hx hby at_232 rfl rfl <| c_shL #[iv p1, iv p2, iv p3, iv p4, iv p5, iv p6, iv 4, rv b1388, rv b1400, rv t1493, rv b1494, rv b1543, iv 1, iv 2] rfl <| c_callV X1543 hx hby hZ hown hml (gw hw 100 rfl) (gw hw 51 rfl) (gw hw 53 rfl) (gw hw 52 rfl) (gw hw 54 rfl) (gw hw 4 rfl) u1543_3 rfl (rm8 hw b1543 w0 bb1543 kb1543 (2 : Int32) [(.int (c1394.toInt8.toInt32)), (.int (c1397.toInt8.toInt32))] (T1543.heap) n0 ZN1543 P1 OL1543 u1543_3 u1543_4 u1543_5 u1543_6 hw0) pd_3 rfl at_234 [] rfl 0 (by decide) rfl rfl fun o1552 T1552 L1552 X1552 hQ1552 => ?_
       obtain ⟨rfl, N1552q, e1552⟩ := hQ1552
       have N1552 := Fr.app N1543 N1552q
       refine c_sh 237 [.int 2] rfl rfl <| c_iload X1552 hx hby at_237 rfl <| c_icmpYes X1552 hx hby 244 at_239 (teq (rfl : (2 : Int32) = (2 : Int32))).1 (by decide) <| c_iload X1552 hx hby at_244 rfl <| c_ifNo X1552 hx hby at_246 (by decide) <| c_aload X1552 hx hby at_249 rfl rfl <| c_iconst X1552 hx hby 0 at_251 rfl <| c_callV X1552 hx hby hZ hown hml (gw hw 148 rfl) (gw hw 149 rfl) (gw hw 151 rfl) (gw hw 150 rfl) (gw hw 152 rfl) (gw hw 4 rfl) u1543_3 e1552 (rm31 hw b1543 (0 : Int32) w0 f0 bb1543 kb1543 (2 : Int32) [(.int (c1394.toInt8.toInt32)), (.int (c1397.toInt8.toInt32))] (c1394.toInt8.toInt32) (T1543.heap) n0 ZN1543 P1 P2 OL1543 u1543_3 u1543_4 u1543_5 u1543_6 hw0 (by decide) (by decide) rfl hf) pd_29 rfl at_252 [] rfl 0 (by decide) rfl rfl fun o1553 T1553 L1553 X1553 hQ1553 => ?_
       obtain ⟨rfl, N1553q, e1553⟩ := hQ1553
       have N1553 := Fr.app N1552 N1553q
       refine c_sh 255 [.int (((c1394.toInt8.toInt32) &&& (255 : Int32)).toUInt32.toUInt16.toUInt32.toInt32)] rfl rfl <| c_aload X1553 hx hby at_255 rfl rfl <| c_iload X1553 hx hby at_257 rfl <| c_iconst X1553 hx hby 1 at_259 rfl <| c_iadd X1553 hx hby at_260 <| c_sh 261 [.int 2, .ref b1388, .int (((c1394.toInt8.toInt32) &&& (255 : Int32)).toUInt32.toUInt16.toUInt32.toInt32)] rfl rfl <| c_cal X1553 hx hby hZ e1553 cc1551 (by decide) (.int c1394) rfl at_261 <| c_icmpYes X1553 hx hby 267 at_262 (teq (own_bk u1394_1)).1 (by decide) <| c_iload X1553 hx hby at_267 rfl <| c_iconst X1553 hx hby 1 at_269 rfl <| c_icmpNo X1553 hx hby at_270 (by decide) <| c_aload X1553 hx hby at_273 rfl rfl <| c_iconst X1553 hx hby 1 at_275 rfl <| c_callV X1553 hx hby hZ hown hml (gw hw 148 rfl) (gw hw 149 rfl) (gw hw 151 rfl) (gw hw 150 rfl) (gw hw 152 rfl) (gw hw 4 rfl) u1543_3 e1553 (rm31 hw b1543 (1 : Int32) w0 f0 bb1543 kb1543 (2 : Int32) [(.int (c1394.toInt8.toInt32)), (.int (c1397.toInt8.toInt32))] (c1397.toInt8.toInt32) (T1543.heap) n0 ZN1543 P1 P2 OL1543 u1543_3 u1543_4 u1543_5 u1543_6 hw0 (by decide) (by decide) rfl hf) pd_29 rfl at_276 [] rfl 0 (by decide) rfl rfl fun o1554 T1554 L1554 X1554 hQ1554 => ?_
       obtain ⟨rfl, N1554q, e1554⟩ := hQ1554
       have N1554 := Fr.app N1553 N1554q
       refine c_sh 279 [.int (((c1397.toInt8.toInt32) &&& (255 : Int32)).toUInt32.toUInt16.toUInt32.toInt32)] rfl rfl <| c_aload X1554 hx hby at_279 rfl rfl <| c_iload X1554 hx hby at_281 rfl <| c_iconst X1554 hx hby 2 at_283 rfl <| c_iadd X1554 hx hby at_284 <| c_sh 285 [.int 3, .ref b1388, .int (((c1397.toInt8.toInt32) &&& (255 : Int32)).toUInt32.toUInt16.toUInt32.toInt32)] rfl rfl <| c_cal X1554 hx hby hZ e1554 cc1551 (by decide) (.int c1397) rfl at_285 <| c_icmpYes X1554 hx hby 291 at_286 (teq (own_bk u1397_1)).1 (by decide) <| c_iload X1554 hx hby at_291 rfl <| c_iconst X1554 hx hby 2 at_293 rfl <| c_icmpYes X1554 hx hby 315 at_294 (by decide) (by decide) <| c_iload X1554 hx hby at_315 rfl <| c_iconst X1554 hx hby 3 at_317 rfl <| c_icmpYes X1554 hx hby 339 at_318 (by decide) (by decide) <| c_iconst X1554 hx hby 1 at_339 rfl ?_
       refine goRetH X1554 hZ (own_EW hw) ch1543 hh e1554 hS1493 HK1543 hx Bd.notSynchronized Bd.returns rfl (Or.inl ⟨rfl, Or.inr (Or.inl rfl), _, rfl⟩) (hb hby at_340) (by decide) (by decide) ⟨rfl, N1554⟩
      refine c_aload X1543 hx hby at_152 rfl rfl <| c_iconst X1543 hx hby 0 at_154 rfl ?_
      have cc1555 := ((((cc1404.keep K1401 (ninS (Ne.symm ne1405) nin0)).ext E1493).ext E1494).keep K1495 (ninS ne1498 nin0)).keep K1543 nin0
      refine c_cal X1543 hx hby hZ rfl cc1555 (by decide) (.int c1389) rfl at_155 <| c_bipush X1543 hx hby 46 at_156 rfl ?_
      by_cases hc158_1556 : c1389 = (46 : Int32)
      ·refine c_icmpNo X1543 hx hby at_158 (teq hc158_1556).2 <| c_iconst X1543 hx hby 0 at_161 rfl <| c_istore X1543 hx hby _ at_162 rfl <| c_shL #[iv p1, iv p2, iv p3, iv p4, iv p5, iv p6, iv 4, rv b1388, rv b1400, rv t1493, rv b1494, rv b1543, iv 0, .unset] rfl ?_
       exact J1549 _
      ·refine c_icmpYes X1543 hx hby 164 at_158 (feq hc158_1556).2 (by decide) ?_
       exact J1549 _
     ·by_cases hk0_1557 : c1389 = (46 : Int32)
      ·refine c_aload X1495 hx hby at_137 rfl rfl ?_
       have cc1559 := A1494.keep K1495
       have cc1560 := (((A1400.keep K1401).ext E1493).ext E1494).keep K1495
       have cc1561 := ((u1401_6.ext E1493).ext E1494).keep K1495 (ninS ne1500 nin0)
       have cc1562 := ((u1401_5.ext E1493).ext E1494).keep K1495 (ninS ne1500 nin0)
       have cc1563 := ((u1401_4.ext E1493).ext E1494).keep K1495 (ninS ne1499 nin0)
       refine c_callV X1495 hx hby hZ hown hml (gw hw 40 rfl) (gw hw 41 rfl) (gw hw 43 rfl) (gw hw 42 rfl) (gw hw 44 rfl) (gw hw 26 rfl) cc1559 rfl (rmSN4_0 hw b1494 b1400 w0 f0 b1401 kb1401 (c1389.toInt8.toInt32) (c1391.toInt8.toInt32) (c1394.toInt8.toInt32) (c1397.toInt8.toInt32) (T1495.heap) n0 ZN1495 cc1559 u1495_1 P1 P2 OL1495 cc1560 cc1561 cc1562 cc1563 hw0 hf ((own_46 u1389_1).mpr hk0_1557) (fun qq => hk1_1542 ((own_46 u1391_1).mp qq)) (fun qq => hk2_1524 ((own_46 u1394_1).mp qq)) (fun qq => hk3_1503 ((own_46 u1397_1).mp qq))) pd_27 rfl at_139 [] rfl 0 (by decide) rfl rfl fun o1558 T1558 L1558 X1558 hQ1558 => ?_
       obtain ⟨b1558, bb1558, kb1558, rfl, N1558q, u1558_0, u1558_1, K1558, u1558_3, u1558_4, u1558_5, u1558_6⟩ := hQ1558
       have N1558 := Fr.app N1495 N1558q
       have G_b1558 := Nat.le_trans ZN1495 u1558_0
       have KK1558 := KK1495.trans K1558 all0
       have ZN1558 := Nat.le_trans ZN1495 K1558.1
       have HK1558 : k1493 ≤ T1558.heap.size := Nat.le_trans HK1495 K1558.1
       have sf1558_b1400 := Safe.keep K1558 all0 ch1495.1 sf1495_b1400
       have ch1558 := ch1495.trans (CHr.keep K1558 all0 ch1495.1)
       have OL1558 := OL1495.keep K1558 all0
       refine c_sh 142 [.ref b1558] rfl rfl <| c_astore X1558 hx hby _ at_142 rfl rfl <| c_iconst X1558 hx hby (-1) at_144 rfl <| c_istore X1558 hx hby _ at_145 rfl <| c_iload X1558 hx hby at_147 rfl <| c_ifNo X1558 hx hby at_149 (by decide) <| c_aload X1558 hx hby at_152 rfl rfl <| c_iconst X1558 hx hby 0 at_154 rfl <| c_shL #[iv p1, iv p2, iv p3, iv p4, iv p5, iv p6, iv 4, rv b1388, rv b1400, rv t1493, rv b1494, rv b1558, iv (-1), .unset] rfl ?_
       have cc1564 := ((((cc1404.keep K1401 (ninS (Ne.symm ne1405) nin0)).ext E1493).ext E1494).keep K1495 (ninS ne1498 nin0)).keep K1558 nin0
       refine c_cal X1558 hx hby hZ rfl cc1564 (by decide) (.int c1389) rfl at_155 <| c_bipush X1558 hx hby 46 at_156 rfl <| c_icmpNo X1558 hx hby at_158 (teq hk0_1557).2 <| c_iconst X1558 hx hby 0 at_161 rfl <| c_istore X1558 hx hby _ at_162 rfl <| c_iload X1558 hx hby at_164 rfl <| c_iconst X1558 hx hby 1 at_166 rfl <| c_icmpNo X1558 hx hby at_167 (by decide) <| c_sh 170 _ rfl rfl <| c_aload X1558 hx hby at_170 rfl rfl <| c_iconst X1558 hx hby 1 at_172 rfl <| c_cal X1558 hx hby hZ rfl cc1564 (by decide) (.int c1391) rfl at_173 <| c_bipush X1558 hx hby 46 at_174 rfl <| c_icmpYes X1558 hx hby 182 at_176 (feq hk1_1542).2 (by decide) <| c_iload X1558 hx hby at_182 rfl <| c_iconst X1558 hx hby 2 at_184 rfl <| c_icmpNo X1558 hx hby at_185 (by decide) <| c_aload X1558 hx hby at_188 rfl rfl <| c_iconst X1558 hx hby 2 at_190 rfl <| c_cal X1558 hx hby hZ rfl cc1564 (by decide) (.int c1394) rfl at_191 <| c_bipush X1558 hx hby 46 at_192 rfl <| c_icmpYes X1558 hx hby 200 at_194 (feq hk2_1524).2 (by decide) <| c_iload X1558 hx hby at_200 rfl <| c_iconst X1558 hx hby 3 at_202 rfl <| c_icmpNo X1558 hx hby at_203 (by decide) <| c_aload X1558 hx hby at_206 rfl rfl <| c_iconst X1558 hx hby 3 at_208 rfl <| c_cal X1558 hx hby hZ rfl cc1564 (by decide) (.int c1397) rfl at_209 <| c_bipush X1558 hx hby 46 at_210 rfl <| c_icmpYes X1558 hx hby 218 at_212 (feq hk3_1503).2 (by decide) <| c_iload X1558 hx hby at_218 rfl <| c_iload X1558 hx hby at_220 rfl <| c_isub X1558 hx hby at_222 <| c_sh 223 [.int 4] rfl rfl <| c_iconst X1558 hx hby 1 at_223 rfl <| c_isub X1558 hx hby at_224 <| c_sh 225 [.int 3] rfl rfl <| c_istore X1558 hx hby _ at_225 rfl <| c_aload X1558 hx hby at_227 rfl rfl <| c_ifnullNo X1558 hx hby at_229 <| c_aload X1558 hx hby at_232 rfl rfl <| c_shL #[iv p1, iv p2, iv p3, iv p4, iv p5, iv p6, iv 4, rv b1388, rv b1400, rv t1493, rv b1494, rv b1558, iv 0, iv 3] rfl <| c_callV X1558 hx hby hZ hown hml (gw hw 100 rfl) (gw hw 51 rfl) (gw hw 53 rfl) (gw hw 52 rfl) (gw hw 54 rfl) (gw hw 4 rfl) u1558_3 rfl (rm8 hw b1558 w0 bb1558 kb1558 (3 : Int32) [(.int (c1391.toInt8.toInt32)), (.int (c1394.toInt8.toInt32)), (.int (c1397.toInt8.toInt32))] (T1558.heap) n0 ZN1558 P1 OL1558 u1558_3 u1558_4 u1558_5 u1558_6 hw0) pd_3 rfl at_234 [] rfl 0 (by decide) rfl rfl fun o1565 T1565 L1565 X1565 hQ1565 => ?_
       obtain ⟨rfl, N1565q, e1565⟩ := hQ1565
       have N1565 := Fr.app N1558 N1565q
       refine c_sh 237 [.int 3] rfl rfl <| c_iload X1565 hx hby at_237 rfl <| c_icmpYes X1565 hx hby 244 at_239 (teq (rfl : (3 : Int32) = (3 : Int32))).1 (by decide) <| c_iload X1565 hx hby at_244 rfl <| c_ifNo X1565 hx hby at_246 (by decide) <| c_aload X1565 hx hby at_249 rfl rfl <| c_iconst X1565 hx hby 0 at_251 rfl <| c_callV X1565 hx hby hZ hown hml (gw hw 148 rfl) (gw hw 149 rfl) (gw hw 151 rfl) (gw hw 150 rfl) (gw hw 152 rfl) (gw hw 4 rfl) u1558_3 e1565 (rm31 hw b1558 (0 : Int32) w0 f0 bb1558 kb1558 (3 : Int32) [(.int (c1391.toInt8.toInt32)), (.int (c1394.toInt8.toInt32)), (.int (c1397.toInt8.toInt32))] (c1391.toInt8.toInt32) (T1558.heap) n0 ZN1558 P1 P2 OL1558 u1558_3 u1558_4 u1558_5 u1558_6 hw0 (by decide) (by decide) rfl hf) pd_29 rfl at_252 [] rfl 0 (by decide) rfl rfl fun o1566 T1566 L1566 X1566 hQ1566 => ?_
       obtain ⟨rfl, N1566q, e1566⟩ := hQ1566
       have N1566 := Fr.app N1565 N1566q
       refine c_sh 255 [.int (((c1391.toInt8.toInt32) &&& (255 : Int32)).toUInt32.toUInt16.toUInt32.toInt32)] rfl rfl <| c_aload X1566 hx hby at_255 rfl rfl <| c_iload X1566 hx hby at_257 rfl <| c_iconst X1566 hx hby 1 at_259 rfl <| c_iadd X1566 hx hby at_260 <| c_sh 261 [.int 1, .ref b1388, .int (((c1391.toInt8.toInt32) &&& (255 : Int32)).toUInt32.toUInt16.toUInt32.toInt32)] rfl rfl <| c_cal X1566 hx hby hZ e1566 cc1564 (by decide) (.int c1391) rfl at_261 <| c_icmpYes X1566 hx hby 267 at_262 (teq (own_bk u1391_1)).1 (by decide) <| c_iload X1566 hx hby at_267 rfl <| c_iconst X1566 hx hby 1 at_269 rfl <| c_icmpNo X1566 hx hby at_270 (by decide) <| c_aload X1566 hx hby at_273 rfl rfl <| c_iconst X1566 hx hby 1 at_275 rfl <| c_callV X1566 hx hby hZ hown hml (gw hw 148 rfl) (gw hw 149 rfl) (gw hw 151 rfl) (gw hw 150 rfl) (gw hw 152 rfl) (gw hw 4 rfl) u1558_3 e1566 (rm31 hw b1558 (1 : Int32) w0 f0 bb1558 kb1558 (3 : Int32) [(.int (c1391.toInt8.toInt32)), (.int (c1394.toInt8.toInt32)), (.int (c1397.toInt8.toInt32))] (c1394.toInt8.toInt32) (T1558.heap) n0 ZN1558 P1 P2 OL1558 u1558_3 u1558_4 u1558_5 u1558_6 hw0 (by decide) (by decide) rfl hf) pd_29 rfl at_276 [] rfl 0 (by decide) rfl rfl fun o1567 T1567 L1567 X1567 hQ1567 => ?_
       obtain ⟨rfl, N1567q, e1567⟩ := hQ1567
       have N1567 := Fr.app N1566 N1567q
       refine c_sh 279 [.int (((c1394.toInt8.toInt32) &&& (255 : Int32)).toUInt32.toUInt16.toUInt32.toInt32)] rfl rfl <| c_aload X1567 hx hby at_279 rfl rfl <| c_iload X1567 hx hby at_281 rfl <| c_iconst X1567 hx hby 2 at_283 rfl <| c_iadd X1567 hx hby at_284 <| c_sh 285 [.int 2, .ref b1388, .int (((c1394.toInt8.toInt32) &&& (255 : Int32)).toUInt32.toUInt16.toUInt32.toInt32)] rfl rfl <| c_cal X1567 hx hby hZ e1567 cc1564 (by decide) (.int c1394) rfl at_285 <| c_icmpYes X1567 hx hby 291 at_286 (teq (own_bk u1394_1)).1 (by decide) <| c_iload X1567 hx hby at_291 rfl <| c_iconst X1567 hx hby 2 at_293 rfl <| c_icmpNo X1567 hx hby at_294 (by decide) <| c_aload X1567 hx hby at_297 rfl rfl <| c_iconst X1567 hx hby 2 at_299 rfl <| c_callV X1567 hx hby hZ hown hml (gw hw 148 rfl) (gw hw 149 rfl) (gw hw 151 rfl) (gw hw 150 rfl) (gw hw 152 rfl) (gw hw 4 rfl) u1558_3 e1567 (rm31 hw b1558 (2 : Int32) w0 f0 bb1558 kb1558 (3 : Int32) [(.int (c1391.toInt8.toInt32)), (.int (c1394.toInt8.toInt32)), (.int (c1397.toInt8.toInt32))] (c1397.toInt8.toInt32) (T1558.heap) n0 ZN1558 P1 P2 OL1558 u1558_3 u1558_4 u1558_5 u1558_6 hw0 (by decide) (by decide) rfl hf) pd_29 rfl at_300 [] rfl 0 (by decide) rfl rfl fun o1568 T1568 L1568 X1568 hQ1568 => ?_
       obtain ⟨rfl, N1568q, e1568⟩ := hQ1568
       have N1568 := Fr.app N1567 N1568q
       refine c_sh 303 [.int (((c1397.toInt8.toInt32) &&& (255 : Int32)).toUInt32.toUInt16.toUInt32.toInt32)] rfl rfl <| c_aload X1568 hx hby at_303 rfl rfl <| c_iload X1568 hx hby at_305 rfl <| c_iconst X1568 hx hby 3 at_307 rfl <| c_iadd X1568 hx hby at_308 <| c_sh 309 [.int 3, .ref b1388, .int (((c1397.toInt8.toInt32) &&& (255 : Int32)).toUInt32.toUInt16.toUInt32.toInt32)] rfl rfl <| c_cal X1568 hx hby hZ e1568 cc1564 (by decide) (.int c1397) rfl at_309 <| c_icmpYes X1568 hx hby 315 at_310 (teq (own_bk u1397_1)).1 (by decide) <| c_iload X1568 hx hby at_315 rfl <| c_iconst X1568 hx hby 3 at_317 rfl <| c_icmpYes X1568 hx hby 339 at_318 (by decide) (by decide) <| c_iconst X1568 hx hby 1 at_339 rfl ?_
       refine goRetH X1568 hZ (own_EW hw) ch1558 hh e1568 hS1493 HK1558 hx Bd.notSynchronized Bd.returns rfl (Or.inl ⟨rfl, Or.inr (Or.inl rfl), _, rfl⟩) (hb hby at_340) (by decide) (by decide) ⟨rfl, N1568⟩
      ·refine c_aload X1495 hx hby at_137 rfl rfl ?_
       have cc1570 := A1494.keep K1495
       have cc1571 := (((A1400.keep K1401).ext E1493).ext E1494).keep K1495
       have cc1572 := ((u1401_6.ext E1493).ext E1494).keep K1495 (ninS ne1500 nin0)
       have cc1573 := ((u1401_5.ext E1493).ext E1494).keep K1495 (ninS ne1500 nin0)
       have cc1574 := ((u1401_4.ext E1493).ext E1494).keep K1495 (ninS ne1499 nin0)
       refine c_callV X1495 hx hby hZ hown hml (gw hw 40 rfl) (gw hw 41 rfl) (gw hw 43 rfl) (gw hw 42 rfl) (gw hw 44 rfl) (gw hw 26 rfl) cc1570 rfl (rmSN4_m1 hw b1494 b1400 w0 f0 b1401 kb1401 (c1389.toInt8.toInt32) (c1391.toInt8.toInt32) (c1394.toInt8.toInt32) (c1397.toInt8.toInt32) (T1495.heap) n0 ZN1495 cc1570 u1495_1 P1 P2 OL1495 cc1571 cc1572 cc1573 cc1574 hw0 hf (fun qq => hk0_1557 ((own_46 u1389_1).mp qq)) (fun qq => hk1_1542 ((own_46 u1391_1).mp qq)) (fun qq => hk2_1524 ((own_46 u1394_1).mp qq)) (fun qq => hk3_1503 ((own_46 u1397_1).mp qq))) pd_27 rfl at_139 [] rfl 0 (by decide) rfl rfl fun o1569 T1569 L1569 X1569 hQ1569 => ?_
       obtain ⟨rfl, N1569q, e1569⟩ := hQ1569
       have N1569 := Fr.app N1495 N1569q
       refine c_sh 142 [.ref b1400] rfl rfl <| c_astore X1569 hx hby _ at_142 rfl rfl <| c_iconst X1569 hx hby (-1) at_144 rfl <| c_istore X1569 hx hby _ at_145 rfl <| c_iload X1569 hx hby at_147 rfl <| c_ifNo X1569 hx hby at_149 (by decide) <| c_aload X1569 hx hby at_152 rfl rfl <| c_iconst X1569 hx hby 0 at_154 rfl <| c_shL #[iv p1, iv p2, iv p3, iv p4, iv p5, iv p6, iv 4, rv b1388, rv b1400, rv t1493, rv b1494, rv b1400, iv (-1), .unset] rfl ?_
       have cc1575 := (((cc1404.keep K1401 (ninS (Ne.symm ne1405) nin0)).ext E1493).ext E1494).keep K1495 (ninS ne1498 nin0)
       refine c_cal X1569 hx hby hZ e1569 cc1575 (by decide) (.int c1389) rfl at_155 <| c_bipush X1569 hx hby 46 at_156 rfl <| c_icmpYes X1569 hx hby 164 at_158 (feq hk0_1557).2 (by decide) <| c_iload X1569 hx hby at_164 rfl <| c_iconst X1569 hx hby 1 at_166 rfl <| c_icmpNo X1569 hx hby at_167 (by decide) <| c_aload X1569 hx hby at_170 rfl rfl <| c_iconst X1569 hx hby 1 at_172 rfl <| c_cal X1569 hx hby hZ e1569 cc1575 (by decide) (.int c1391) rfl at_173 <| c_bipush X1569 hx hby 46 at_174 rfl <| c_icmpYes X1569 hx hby 182 at_176 (feq hk1_1542).2 (by decide) <| c_iload X1569 hx hby at_182 rfl <| c_iconst X1569 hx hby 2 at_184 rfl <| c_icmpNo X1569 hx hby at_185 (by decide) <| c_aload X1569 hx hby at_188 rfl rfl <| c_iconst X1569 hx hby 2 at_190 rfl <| c_cal X1569 hx hby hZ e1569 cc1575 (by decide) (.int c1394) rfl at_191 <| c_bipush X1569 hx hby 46 at_192 rfl <| c_icmpYes X1569 hx hby 200 at_194 (feq hk2_1524).2 (by decide) <| c_iload X1569 hx hby at_200 rfl <| c_iconst X1569 hx hby 3 at_202 rfl <| c_icmpNo X1569 hx hby at_203 (by decide) <| c_aload X1569 hx hby at_206 rfl rfl <| c_iconst X1569 hx hby 3 at_208 rfl <| c_cal X1569 hx hby hZ e1569 cc1575 (by decide) (.int c1397) rfl at_209 <| c_bipush X1569 hx hby 46 at_210 rfl <| c_icmpYes X1569 hx hby 218 at_212 (feq hk3_1503).2 (by decide) <| c_iload X1569 hx hby at_218 rfl <| c_iload X1569 hx hby at_220 rfl <| c_isub X1569 hx hby at_222 <| c_sh 223 [.int 5] rfl rfl <| c_iconst X1569 hx hby 1 at_223 rfl <| c_isub X1569 hx hby at_224 <| c_sh 225 [.int 4] rfl rfl <| c_istore X1569 hx hby _ at_225 rfl <| c_aload X1569 hx hby at_227 rfl rfl <| c_ifnullNo X1569 hx hby at_229 <| c_aload X1569 hx hby at_232 rfl rfl <| c_shL #[iv p1, iv p2, iv p3, iv p4, iv p5, iv p6, iv 4, rv b1388, rv b1400, rv t1493, rv b1494, rv b1400, iv (-1), iv 4] rfl <| c_callV X1569 hx hby hZ hown hml (gw hw 100 rfl) (gw hw 51 rfl) (gw hw 53 rfl) (gw hw 52 rfl) (gw hw 54 rfl) (gw hw 4 rfl) cc1571 e1569 (rm8 hw b1400 w0 b1401 kb1401 (4 : Int32) [(.int (c1389.toInt8.toInt32)), (.int (c1391.toInt8.toInt32)), (.int (c1394.toInt8.toInt32)), (.int (c1397.toInt8.toInt32))] (T1495.heap) n0 ZN1495 P1 OL1495 cc1571 cc1572 cc1573 cc1574 hw0) pd_3 rfl at_234 [] rfl 0 (by decide) rfl rfl fun o1576 T1576 L1576 X1576 hQ1576 => ?_
       obtain ⟨rfl, N1576q, e1576⟩ := hQ1576
       have N1576 := Fr.app N1569 N1576q
       refine c_sh 237 [.int 4] rfl rfl <| c_iload X1576 hx hby at_237 rfl <| c_icmpYes X1576 hx hby 244 at_239 (teq (rfl : (4 : Int32) = (4 : Int32))).1 (by decide) <| c_iload X1576 hx hby at_244 rfl <| c_ifNo X1576 hx hby at_246 (by decide) <| c_aload X1576 hx hby at_249 rfl rfl <| c_iconst X1576 hx hby 0 at_251 rfl <| c_callV X1576 hx hby hZ hown hml (gw hw 148 rfl) (gw hw 149 rfl) (gw hw 151 rfl) (gw hw 150 rfl) (gw hw 152 rfl) (gw hw 4 rfl) cc1571 e1576 (rm31 hw b1400 (0 : Int32) w0 f0 b1401 kb1401 (4 : Int32) [(.int (c1389.toInt8.toInt32)), (.int (c1391.toInt8.toInt32)), (.int (c1394.toInt8.toInt32)), (.int (c1397.toInt8.toInt32))] (c1389.toInt8.toInt32) (T1495.heap) n0 ZN1495 P1 P2 OL1495 cc1571 cc1572 cc1573 cc1574 hw0 (by decide) (by decide) rfl hf) pd_29 rfl at_252 [] rfl 0 (by decide) rfl rfl fun o1577 T1577 L1577 X1577 hQ1577 => ?_
       obtain ⟨rfl, N1577q, e1577⟩ := hQ1577
       have N1577 := Fr.app N1576 N1577q
       refine c_sh 255 [.int (((c1389.toInt8.toInt32) &&& (255 : Int32)).toUInt32.toUInt16.toUInt32.toInt32)] rfl rfl <| c_aload X1577 hx hby at_255 rfl rfl <| c_iload X1577 hx hby at_257 rfl <| c_iconst X1577 hx hby 1 at_259 rfl <| c_iadd X1577 hx hby at_260 <| c_sh 261 [.int 0, .ref b1388, .int (((c1389.toInt8.toInt32) &&& (255 : Int32)).toUInt32.toUInt16.toUInt32.toInt32)] rfl rfl <| c_cal X1577 hx hby hZ e1577 cc1575 (by decide) (.int c1389) rfl at_261 <| c_icmpYes X1577 hx hby 267 at_262 (teq (own_bk u1389_1)).1 (by decide) <| c_iload X1577 hx hby at_267 rfl <| c_iconst X1577 hx hby 1 at_269 rfl <| c_icmpNo X1577 hx hby at_270 (by decide) <| c_aload X1577 hx hby at_273 rfl rfl <| c_iconst X1577 hx hby 1 at_275 rfl <| c_callV X1577 hx hby hZ hown hml (gw hw 148 rfl) (gw hw 149 rfl) (gw hw 151 rfl) (gw hw 150 rfl) (gw hw 152 rfl) (gw hw 4 rfl) cc1571 e1577 (rm31 hw b1400 (1 : Int32) w0 f0 b1401 kb1401 (4 : Int32) [(.int (c1389.toInt8.toInt32)), (.int (c1391.toInt8.toInt32)), (.int (c1394.toInt8.toInt32)), (.int (c1397.toInt8.toInt32))] (c1391.toInt8.toInt32) (T1495.heap) n0 ZN1495 P1 P2 OL1495 cc1571 cc1572 cc1573 cc1574 hw0 (by decide) (by decide) rfl hf) pd_29 rfl at_276 [] rfl 0 (by decide) rfl rfl fun o1578 T1578 L1578 X1578 hQ1578 => ?_
       obtain ⟨rfl, N1578q, e1578⟩ := hQ1578
       have N1578 := Fr.app N1577 N1578q
       refine c_sh 279 [.int (((c1391.toInt8.toInt32) &&& (255 : Int32)).toUInt32.toUInt16.toUInt32.toInt32)] rfl rfl <| c_aload X1578 hx hby at_279 rfl rfl <| c_iload X1578 hx hby at_281 rfl <| c_iconst X1578 hx hby 2 at_283 rfl <| c_iadd X1578 hx hby at_284 <| c_sh 285 [.int 1, .ref b1388, .int (((c1391.toInt8.toInt32) &&& (255 : Int32)).toUInt32.toUInt16.toUInt32.toInt32)] rfl rfl <| c_cal X1578 hx hby hZ e1578 cc1575 (by decide) (.int c1391) rfl at_285 <| c_icmpYes X1578 hx hby 291 at_286 (teq (own_bk u1391_1)).1 (by decide) <| c_iload X1578 hx hby at_291 rfl <| c_iconst X1578 hx hby 2 at_293 rfl <| c_icmpNo X1578 hx hby at_294 (by decide) <| c_aload X1578 hx hby at_297 rfl rfl <| c_iconst X1578 hx hby 2 at_299 rfl <| c_callV X1578 hx hby hZ hown hml (gw hw 148 rfl) (gw hw 149 rfl) (gw hw 151 rfl) (gw hw 150 rfl) (gw hw 152 rfl) (gw hw 4 rfl) cc1571 e1578 (rm31 hw b1400 (2 : Int32) w0 f0 b1401 kb1401 (4 : Int32) [(.int (c1389.toInt8.toInt32)), (.int (c1391.toInt8.toInt32)), (.int (c1394.toInt8.toInt32)), (.int (c1397.toInt8.toInt32))] (c1394.toInt8.toInt32) (T1495.heap) n0 ZN1495 P1 P2 OL1495 cc1571 cc1572 cc1573 cc1574 hw0 (by decide) (by decide) rfl hf) pd_29 rfl at_300 [] rfl 0 (by decide) rfl rfl fun o1579 T1579 L1579 X1579 hQ1579 => ?_
       obtain ⟨rfl, N1579q, e1579⟩ := hQ1579
       have N1579 := Fr.app N1578 N1579q
       refine c_sh 303 [.int (((c1394.toInt8.toInt32) &&& (255 : Int32)).toUInt32.toUInt16.toUInt32.toInt32)] rfl rfl <| c_aload X1579 hx hby at_303 rfl rfl <| c_iload X1579 hx hby at_305 rfl <| c_iconst X1579 hx hby 3 at_307 rfl <| c_iadd X1579 hx hby at_308 <| c_sh 309 [.int 2, .ref b1388, .int (((c1394.toInt8.toInt32) &&& (255 : Int32)).toUInt32.toUInt16.toUInt32.toInt32)] rfl rfl <| c_cal X1579 hx hby hZ e1579 cc1575 (by decide) (.int c1394) rfl at_309 <| c_icmpYes X1579 hx hby 315 at_310 (teq (own_bk u1394_1)).1 (by decide) <| c_iload X1579 hx hby at_315 rfl <| c_iconst X1579 hx hby 3 at_317 rfl <| c_icmpNo X1579 hx hby at_318 (by decide) <| c_aload X1579 hx hby at_321 rfl rfl <| c_iconst X1579 hx hby 3 at_323 rfl <| c_callV X1579 hx hby hZ hown hml (gw hw 148 rfl) (gw hw 149 rfl) (gw hw 151 rfl) (gw hw 150 rfl) (gw hw 152 rfl) (gw hw 4 rfl) cc1571 e1579 (rm31 hw b1400 (3 : Int32) w0 f0 b1401 kb1401 (4 : Int32) [(.int (c1389.toInt8.toInt32)), (.int (c1391.toInt8.toInt32)), (.int (c1394.toInt8.toInt32)), (.int (c1397.toInt8.toInt32))] (c1397.toInt8.toInt32) (T1495.heap) n0 ZN1495 P1 P2 OL1495 cc1571 cc1572 cc1573 cc1574 hw0 (by decide) (by decide) rfl hf) pd_29 rfl at_324 [] rfl 0 (by decide) rfl rfl fun o1580 T1580 L1580 X1580 hQ1580 => ?_
       obtain ⟨rfl, N1580q, e1580⟩ := hQ1580
       have N1580 := Fr.app N1579 N1580q
       refine c_sh 327 [.int (((c1397.toInt8.toInt32) &&& (255 : Int32)).toUInt32.toUInt16.toUInt32.toInt32)] rfl rfl <| c_aload X1580 hx hby at_327 rfl rfl <| c_iload X1580 hx hby at_329 rfl <| c_iconst X1580 hx hby 4 at_331 rfl <| c_iadd X1580 hx hby at_332 <| c_sh 333 [.int 3, .ref b1388, .int (((c1397.toInt8.toInt32) &&& (255 : Int32)).toUInt32.toUInt16.toUInt32.toInt32)] rfl rfl <| c_cal X1580 hx hby hZ e1580 cc1575 (by decide) (.int c1397) rfl at_333 <| c_icmpYes X1580 hx hby 339 at_334 (teq (own_bk u1397_1)).1 (by decide) <| c_iconst X1580 hx hby 1 at_339 rfl ?_
       refine goRetH X1580 hZ (own_EW hw) ch1495 hh e1580 hS1493 HK1495 hx Bd.notSynchronized Bd.returns rfl (Or.inl ⟨rfl, Or.inr (Or.inl rfl), _, rfl⟩) (hb hby at_340) (by decide) (by decide) ⟨rfl, N1580⟩
set_option maxRecDepth 65536 in
set_option maxHeartbeats 40000000 in
theorem comes_1 {Post : Tables → Env → Array Value → State → Outcome → State → Prop} (hpost : ∀ tb e args s v u, (limb_1_1.after args s (.returned v) u = true ∧ limb_1_2.after args s (.returned v) u = true ∧ True) → ReturnedEndW s (.returned v) u (Jvm.fieldLocs frame_1_writes args s ++ Jvm.arrayLocs frame_1_arrays args s ++ Jvm.staticLocs frame_1_statics s) 32 3200 → Post tb e args s (.returned v) u) :
    ArmFor flags0 classFile x code maxLocals ret World_1 tables_1 room_1 Calls_1 rest_1 Pre_1 Post := by
  intro l hfl _ _ p e ha hc hk s m args below hf hA hF happ hP
  obtain ⟨hcalls, hrest, hpre⟩ := hP
  obtain ⟨-, -, -, hnamed, -, -, -, hat⟩ := (Spec.applies_iff hf).mp happ
  obtain ⟨hg, hn⟩ := and_e (Cond.before_iff.mp (show (Jvm.Cond.and given_1 narrow_1).before args s = true from hpre))
  obtain ⟨q0, r0⟩ := and_e hg
  obtain ⟨q1, r1⟩ := and_e r0
  obtain ⟨q2, r2⟩ := and_e r1
  obtain ⟨q3, r3⟩ := and_e r2
  obtain ⟨q4, r4⟩ := and_e r3
  obtain ⟨q5, r5⟩ := and_e r4
  obtain ⟨w0, w1, w2, w3, w4, w5, rfl⟩ : ∃ w0 w1 w2 w3 w4 w5 : Value, args = #[w0, w1, w2, w3, w4, w5] := by
    have hs : args.size = 6 := by simpa [Cond.value, given_1] using q0
    obtain ⟨L⟩ := args
    match L, hs with
    | [w0, w1, w2, w3, w4, w5], _ => exact ⟨w0, w1, w2, w3, w4, w5, rfl⟩
  have hw := fun d (hd : d ∈ tables_1) => atoms_spec (ws := Jvm.Cond.code x code maxLocals ret :: tables_1) hat d (List.mem_cons_of_mem _ hd)
  have hfit : Fit s := fun {y c} hc i hi => by
    obtain ⟨ha, rfl⟩ := Array.getElem?_eq_some_iff.mp hc
    have q := List.all_eq_true.mp ((Array.all_eq_true_iff_forall_mem.mp hF) _ (Array.getElem_mem ha)) i (List.mem_range.mpr hi)
    simpa [Array.getElem?_eq_getElem hi] using q
  obtain ⟨hsets, hown0⟩ := atoms_of _ (rest_1_c_eq ▸ (show rest_1_c.before _ s = true from hrest))
  obtain ⟨i0, ei0⟩ := is_v q1
  obtain rfl : w0 = (.int i0) := Option.some.inj ei0
  obtain ⟨i1, ei1⟩ := is_v q2
  obtain rfl : w1 = (.int i1) := Option.some.inj ei1
  obtain ⟨i2, ei2⟩ := is_v q3
  obtain rfl : w2 = (.int i2) := Option.some.inj ei2
  obtain ⟨i3, ei3⟩ := is_v q4
  obtain rfl : w3 = (.int i3) := Option.some.inj ei3
  obtain ⟨i4, ei4⟩ := is_v q5
  obtain rfl : w4 = (.int i4) := Option.some.inj ei4
  obtain ⟨i5, ei5⟩ := is_v r5
  obtain rfl : w5 = (.int i5) := Option.some.inj ei5
  obtain ⟨w0_, ew0⟩ := is_v (Cond.before_iff.mp (hsets _ (List.mem_of_getElem? (i := 1) rfl)))
  have hw0 : ¬ w0_ = 0 := own_neI (Cond.before_iff.mp (hsets _ (List.mem_of_getElem? (i := 2) rfl))) ew0
  have S0 : Sta s s.heap "java/lang/String" "COMPACT_STRINGS" "Z" (.int w0_) := Sta.start ew0 (Or.inl (hsets _ (List.mem_of_getElem? (i := 0) rfl)))
  obtain ⟨f0_, ef0, hf0⟩ := isR_v (Cond.before_iff.mp (hsets _ (List.mem_of_getElem? (i := 8) rfl)))
  have S1 : Sta s s.heap "jdk/internal/util/Preconditions" "SIOOBE_FORMATTER" "Ljava/util/function/BiFunction;" f0_ := Sta.start ef0 (Or.inl (hsets _ (List.mem_of_getElem? (i := 7) rfl)))
  have hCH : CHv s own_EL s.vm s.heap := CHv.start (own_EW hw) hcalls.1 (hsets _ (List.mem_of_getElem? (i := 2) rfl)) (hw _ (List.mem_of_getElem? (i := 16) rfl)) (hw _ (List.mem_of_getElem? (i := 3) rfl))
  obtain ⟨n, o, h1, h2, h3, _, L, rfl, ⟨rfl, N⟩, _, hq⟩ := rm0 l s _ hw tables_1 i0 i1 i2 i3 i4 i5 w0_ f0_ s.heap s.heap.size (Nat.le_refl _) (Old.start s) S0 S1 hw0 hf0 p e ha hc hk s m _ below hf ((Spec.applies_iff_loose hf).mp happ).1 ⟨rfl, State.Warmed39.refl s, rfl, hCH⟩ trivial
  refine ⟨n, _, h1, h2, h3, hpost _ _ _ _ _ _ ⟨Cond.after_iff.mpr rfl, Cond.after_iff.mpr (eq_i res_at (Term.int_eval (1)) rfl), trivial⟩ ⟨hq.1, hq.2.1, hq.2.2.1, (hq.2.2.2.sift fun y hy => Or.inr (N y hy)).mono (by decide) (by decide)⟩⟩
theorem main_1_1 : Claimed_1_1 := comes_1 fun _ _ _ _ _ _ h hF => ⟨h.1, hF⟩
theorem main_1_2 : Claimed_1_2 := comes_1 fun _ _ _ _ _ _ h hF => ⟨h.2.1, hF⟩
end Jvm.Pilot.@@N@@
namespace Jvm.Pilot.@@N@@
open Jvm Jvm.ClassFile Sem Op Lib Jvm.Free Jvm.Stand Jvm.Pilot.@@N@@.Jvm.D
/-! MADE BY PROGRAM (witnessworld.py) out of the Statement's table words and the real class files: 24 classes; the members and pool entries that the words name. The judged class is class 1, her method 2. -/
namespace start1
open Jvm.ClassFile
def u (s : String) : CpInfo := .utf8 (stringToUtf16 s)
/-- a pool by its gaps: so many unusable entries, then the entry; so many at the end -/
def gap : Nat → List CpInfo → List CpInfo
  | 0, r => r
  | n + 1, r => .unusable :: gap n r
def poolList (es : List (Nat × CpInfo)) (last : Nat) : List CpInfo := es.foldr (fun e r => gap e.1 (e.2 :: r)) (gap last [])
def pool (es : List (Nat × CpInfo)) (last : Nat) : Array CpInfo := ⟨poolList es last⟩
def fileOf (pool : Array CpInfo) (this : Nat) (attrs : Array Attribute := #[]) (ms : Array MethodInfo := #[]) (fl : Nat := 33) (sup : Nat := 0) (ifs : Array Nat := #[]) (fds : Array FieldInfo := #[]) : ClassFile where
  minorVersion := 0
  majorVersion := 65
  constantPool := pool
  accessFlags := fl
  thisClass := this
  superClass := sup
  interfaces := ifs
  fields := fds
  methods := ms
  attributes := attrs
def plain (name : String) (sup : Option ClassId) : Class where
  name := name
  kind := .ordinary
  loader := none
  accessFlags := 33
  super := sup
  interfaces := #[]
  cf := none
  fields := #[]
  methods := #[]
  instanceTypes := #[]
  staticTypes := #[]
  resolved := #[]
  callSites := []
  init := .initialized
  statics := none
  mirror := none

def pool0 : Array CpInfo := pool [(5, u "<init>"), (0, u "()V"), (1, .class_ 10), (1, u "java/lang/Object")] 113

def k0c0 : Code := { maxStack := 0, maxLocals := 1, code := object_method_1_code, exceptionTable := #[], attributes := #[] }
def k0m0 : Method := { name := "<init>", desc := "()V", sig := { parameters := [], returnType := none }, accessFlags := 1, code := some k0c0 }
/-- java/lang/Object -/
def k0 : Class := { plain "java/lang/Object" none with
  accessFlags := 33
  interfaces := #[]
  cf := some (fileOf pool0 8 #[] #[{ accessFlags := 1, nameIndex := 5, descriptorIndex := 6, attributes := #[] }] 33 0 #[] #[])
  fields := #[]
  methods := #[k0m0]
  instanceTypes := #[]
  staticTypes := #[]
  resolved := Array.replicate 124 none
  statics := none }

def pool1 : Array CpInfo := pool [(2, .class_ 4), (1, u "java/lang/Object"), (0, u "<init>"), (0, u "()V"), (0, .integer 2147483647), (0, .methodref 9 10), (0, .class_ 11), (0, .nameAndType 12 13), (0, u "com/example/fuller_query/fullerquery/knowledge/ApiTypeSimpleNamePinLaw"), (0, u "pick"), (0, u "(II)C"), (0, .class_ 15), (0, u "java/lang/String"), (0, .methodref 14 17), (0, .nameAndType 5 18), (0, u "([C)V"), (0, .string 20), (0, u ""), (0, .methodref 14 22), (0, .nameAndType 23 24), (0, u "valueOf"), (0, u "(C)Ljava/lang/String;"), (0, .class_ 26), (0, u "com/example/fuller_query/fullerquery/knowledge/ApiTypes$ApiType"), (0, .methodref 25 28), (0, .nameAndType 5 29), (0, u "(Ljava/lang/String;Ljava/lang/String;)V"), (0, .methodref 25 31), (0, .nameAndType 32 33), (0, u "simpleName"), (0, u "()Ljava/lang/String;"), (0, .methodref 14 35), (0, .nameAndType 36 37), (0, u "length"), (0, u "()I"), (0, .methodref 14 39), (0, .nameAndType 40 41), (0, u "charAt"), (0, u "(I)C"), (3, u "law"), (0, u "(IIIIII)Z")] 8

def k1m0 : Method := { name := "<init>", desc := "()V", sig := { parameters := [], returnType := none }, accessFlags := 2, code := none }
def k1c1 : Code := { maxStack := 2, maxLocals := 2, code := method_2_code, exceptionTable := #[], attributes := #[] }
def k1m1 : Method := { name := "pick", desc := "(II)C", sig := { parameters := [.int, .int], returnType := some .char }, accessFlags := 10, code := some k1c1 }
def k1c2 : Code := { maxStack := 5, maxLocals := 14, code := code, exceptionTable := #[], attributes := #[] }
def k1m2 : Method := { name := "law", desc := "(IIIIII)Z", sig := { parameters := [.int, .int, .int, .int, .int, .int], returnType := some .boolean }, accessFlags := 9, code := some k1c2 }
/-- com/example/fuller_query/fullerquery/knowledge/ApiTypeSimpleNamePinLaw -/
def k1 : Class := { plain "com/example/fuller_query/fullerquery/knowledge/ApiTypeSimpleNamePinLaw" (some 0) with
  accessFlags := 49
  interfaces := #[]
  cf := some (fileOf pool1 9 #[] #[{ accessFlags := 2, nameIndex := 5, descriptorIndex := 6, attributes := #[] }, { accessFlags := 10, nameIndex := 12, descriptorIndex := 13, attributes := #[] }, { accessFlags := 9, nameIndex := 45, descriptorIndex := 46, attributes := #[] }] 49 2 #[] #[])
  fields := #[]
  methods := #[k1m0, k1m1, k1m2]
  instanceTypes := #[]
  staticTypes := #[]
  resolved := Array.replicate 55 none
  statics := none }

def pool2 : Array CpInfo := pool [(1, .class_ 2), (0, u "java/io/Serializable"), (0, .class_ 4), (0, u "java/lang/Object")] 2

/-- java/io/Serializable -/
def k2 : Class := { plain "java/io/Serializable" (some 0) with
  accessFlags := 1537
  interfaces := #[]
  cf := some (fileOf pool2 1 #[] #[] 1537 3 #[] #[])
  fields := #[]
  methods := #[]
  instanceTypes := #[]
  staticTypes := #[]
  resolved := Array.replicate 7 none
  statics := none }

def pool3 : Array CpInfo := pool [(1, .class_ 2), (0, u "java/lang/Comparable"), (0, .class_ 4), (0, u "java/lang/Object")] 7

/-- java/lang/Comparable -/
def k3 : Class := { plain "java/lang/Comparable" (some 0) with
  accessFlags := 1537
  interfaces := #[]
  cf := some (fileOf pool3 1 #[] #[] 1537 3 #[] #[])
  fields := #[]
  methods := #[]
  instanceTypes := #[]
  staticTypes := #[]
  resolved := Array.replicate 12 none
  statics := none }

def pool4 : Array CpInfo := pool [(2, .class_ 4), (1, u "java/lang/CharSequence"), (42, .class_ 48), (0, u "java/lang/CharSequence$1CodePointIterator"), (10, .class_ 60), (0, u "java/lang/CharSequence$1CharIterator"), (5, .class_ 67), (0, u "java/lang/Object")] 63

/-- java/lang/CharSequence -/
def k4 : Class := { plain "java/lang/CharSequence" (some 0) with
  accessFlags := 1537
  interfaces := #[]
  cf := some (fileOf pool4 2 #[.nestMembers #[47, 59]] #[] 1537 66 #[] #[])
  fields := #[]
  methods := #[]
  instanceTypes := #[]
  staticTypes := #[]
  resolved := Array.replicate 131 none
  statics := none }

def pool5 : Array CpInfo := pool [(1, .class_ 2), (0, u "java/lang/constant/Constable"), (0, .class_ 4), (0, u "java/lang/Object")] 6

/-- java/lang/constant/Constable -/
def k5 : Class := { plain "java/lang/constant/Constable" (some 0) with
  accessFlags := 1537
  interfaces := #[]
  cf := some (fileOf pool5 1 #[] #[] 1537 3 #[] #[])
  fields := #[]
  methods := #[]
  instanceTypes := #[]
  staticTypes := #[]
  resolved := Array.replicate 11 none
  statics := none }

def pool6 : Array CpInfo := pool [(1, .class_ 2), (0, u "java/lang/constant/ConstantDesc"), (0, .class_ 4), (0, u "java/lang/Object")] 32

/-- java/lang/constant/ConstantDesc -/
def k6 : Class := { plain "java/lang/constant/ConstantDesc" (some 0) with
  accessFlags := 1537
  interfaces := #[]
  cf := some (fileOf pool6 1 #[] #[] 1537 3 #[] #[])
  fields := #[]
  methods := #[]
  instanceTypes := #[]
  staticTypes := #[]
  resolved := Array.replicate 37 none
  statics := none }

def pool7 : Array CpInfo := pool [(1, .methodref 2 3), (0, .class_ 4), (0, .nameAndType 5 6), (0, u "java/lang/Object"), (0, u "<init>"), (0, u "()V"), (0, .string 8), (0, u ""), (0, .fieldref 10 11), (0, .class_ 12), (0, .nameAndType 13 14), (0, u "java/lang/String"), (0, u "value"), (0, u "[B"), (0, .fieldref 10 16), (0, .nameAndType 17 18), (0, u "coder"), (0, u "B"), (2, u "hash"), (0, u "I"), (2, u "hashIsZero"), (0, u "Z"), (0, .methodref 10 28), (0, .nameAndType 5 29), (0, u "([CIILjava/lang/Void;)V"), (8, .fieldref 10 39), (0, .nameAndType 40 26), (0, u "COMPACT_STRINGS"), (1, .class_ 44), (1, u "java/lang/StringUTF16"), (0, u "compress"), (1, .methodref 42 48), (0, .nameAndType 49 50), (0, u "coderFromArrayLen"), (0, u "([BI)B"), (2, u "toBytes"), (43, u "([BII)I"), (9, .class_ 109), (1, u "java/lang/StringLatin1"), (32, u "()Z"), (34, .methodref 42 178), (0, .nameAndType 45 179), (0, u "([CII)[B"), (29, .methodref 10 210), (0, .nameAndType 5 211), (0, u "([BB)V"), (122, u "()I"), (0, .methodref 10 336), (0, .nameAndType 17 337), (0, u "()B"), (25, u "([BI)C"), (5, u "(C)Z"), (21, u "(II)V"), (35, u "(I)C"), (64, .methodref 10 493), (0, .nameAndType 494 142), (0, u "isLatin1"), (0, .methodref 107 496), (0, .nameAndType 497 363), (0, u "charAt"), (3, u "checkIndex"), (3, .methodref 10 506), (0, .nameAndType 507 334), (0, u "length"), (5, u "checkFromToIndex"), (7, .methodref 10 522), (0, .nameAndType 523 524), (0, u "checkBoundsBeginEnd"), (0, u "(III)V"), (50, .class_ 576), (0, u "java/lang/CharSequence"), (22, u "CASE_INSENSITIVE_ORDER"), (0, u "Ljava/util/Comparator;"), (35, u "(II)I"), (4, .methodref 10 642), (0, .nameAndType 643 636), (0, u "lastIndexOf"), (0, .methodref 107 645), (0, .nameAndType 643 97), (35, .methodref 10 682), (0, .nameAndType 683 684), (0, u "substring"), (0, u "(II)Ljava/lang/String;"), (0, .methodref 107 686), (0, .nameAndType 687 688), (0, u "newString"), (0, u "([BII)Ljava/lang/String;"), (76, u "(I)I"), (16, u "valueOf"), (0, u "(C)Ljava/lang/String;"), (108, u "(I)Ljava/lang/String;"), (117, u "([C)V"), (4, .methodref 107 1016), (0, .nameAndType 1017 369), (0, u "canEncode"), (0, .methodref 107 1019), (0, .nameAndType 53 1020), (0, u "(C)[B"), (32, .fieldref 1054 1055), (0, .class_ 1056), (0, .nameAndType 1057 1058), (0, u "jdk/internal/util/Preconditions"), (0, u "SIOOBE_FORMATTER"), (0, u "Ljava/util/function/BiFunction;"), (0, .methodref 1054 1060), (0, .nameAndType 501 1061), (0, u "(IILjava/util/function/BiFunction;)I"), (0, .methodref 1054 1063), (0, .nameAndType 513 1064), (0, u "(IIILjava/util/function/BiFunction;)I"), (36, u "serialPersistentFields"), (0, u "[Ljava/io/ObjectStreamField;"), (0, .class_ 1104), (0, u "java/lang/String$CaseInsensitiveComparator"), (1, .class_ 1107), (0, u "java/io/Serializable"), (0, .class_ 1109), (0, u "java/lang/Comparable"), (0, .class_ 1111), (0, u "java/lang/constant/Constable"), (0, .class_ 1113), (0, u "java/lang/constant/ConstantDesc"), (2, u "serialVersionUID"), (0, u "J"), (3, u "REPL"), (0, u "C"), (2, u "LATIN1"), (1, u "UTF16")] 323

def k7m0 : Method := { name := "<init>", desc := "()V", sig := { parameters := [], returnType := none }, accessFlags := 1, code := none }
def k7c1 : Code := { maxStack := 5, maxLocals := 2, code := jdk_42_method_3_code, exceptionTable := #[], attributes := #[] }
def k7m1 : Method := { name := "<init>", desc := "([C)V", sig := { parameters := [(.array .char)], returnType := none }, accessFlags := 1, code := some k7c1 }
def k7c2 : Code := { maxStack := 2, maxLocals := 1, code := jdk_42_method_54_code, exceptionTable := #[], attributes := #[] }
def k7m2 : Method := { name := "length", desc := "()I", sig := { parameters := [], returnType := some .int }, accessFlags := 1, code := some k7c2 }
def k7c3 : Code := { maxStack := 2, maxLocals := 2, code := jdk_42_method_56_code, exceptionTable := #[], attributes := #[] }
def k7m3 : Method := { name := "charAt", desc := "(I)C", sig := { parameters := [.int], returnType := some .char }, accessFlags := 1, code := some k7c3 }
def k7c4 : Code := { maxStack := 4, maxLocals := 2, code := jdk_42_method_82_code, exceptionTable := #[], attributes := #[] }
def k7m4 : Method := { name := "lastIndexOf", desc := "(I)I", sig := { parameters := [.int], returnType := some .int }, accessFlags := 1, code := some k7c4 }
def k7c5 : Code := { maxStack := 3, maxLocals := 3, code := jdk_42_method_83_code, exceptionTable := #[], attributes := #[] }
def k7m5 : Method := { name := "lastIndexOf", desc := "(II)I", sig := { parameters := [.int, .int], returnType := some .int }, accessFlags := 1, code := some k7c5 }
def k7c6 : Code := { maxStack := 3, maxLocals := 2, code := jdk_42_method_91_code, exceptionTable := #[], attributes := #[] }
def k7m6 : Method := { name := "substring", desc := "(I)Ljava/lang/String;", sig := { parameters := [.int], returnType := some (.object "java/lang/String") }, accessFlags := 1, code := some k7c6 }
def k7c7 : Code := { maxStack := 3, maxLocals := 5, code := jdk_42_method_92_code, exceptionTable := #[], attributes := #[] }
def k7m7 : Method := { name := "substring", desc := "(II)Ljava/lang/String;", sig := { parameters := [.int, .int], returnType := some (.object "java/lang/String") }, accessFlags := 1, code := some k7c7 }
def k7c8 : Code := { maxStack := 4, maxLocals := 1, code := jdk_42_method_139_code, exceptionTable := #[], attributes := #[] }
def k7m8 : Method := { name := "valueOf", desc := "(C)Ljava/lang/String;", sig := { parameters := [.char], returnType := some (.object "java/lang/String") }, accessFlags := 9, code := some k7c8 }
def k7c9 : Code := { maxStack := 4, maxLocals := 6, code := jdk_42_method_149_code, exceptionTable := #[], attributes := #[] }
def k7m9 : Method := { name := "<init>", desc := "([CIILjava/lang/Void;)V", sig := { parameters := [(.array .char), .int, .int, (.object "java/lang/Void")], returnType := none }, accessFlags := 2, code := some k7c9 }
def k7c10 : Code := { maxStack := 2, maxLocals := 3, code := jdk_42_method_151_code, exceptionTable := #[], attributes := #[] }
def k7m10 : Method := { name := "<init>", desc := "([BB)V", sig := { parameters := [(.array .byte), .byte], returnType := none }, accessFlags := 0, code := some k7c10 }
def k7c11 : Code := { maxStack := 1, maxLocals := 1, code := jdk_42_method_152_code, exceptionTable := #[], attributes := #[] }
def k7m11 : Method := { name := "coder", desc := "()B", sig := { parameters := [], returnType := some .byte }, accessFlags := 0, code := some k7c11 }
def k7c12 : Code := { maxStack := 1, maxLocals := 1, code := jdk_42_method_154_code, exceptionTable := #[], attributes := #[] }
def k7m12 : Method := { name := "isLatin1", desc := "()Z", sig := { parameters := [], returnType := some .boolean }, accessFlags := 0, code := some k7c12 }
def k7c13 : Code := { maxStack := 3, maxLocals := 2, code := jdk_42_method_155_code, exceptionTable := #[], attributes := #[] }
def k7m13 : Method := { name := "checkIndex", desc := "(II)V", sig := { parameters := [.int, .int], returnType := none }, accessFlags := 8, code := some k7c13 }
def k7c14 : Code := { maxStack := 4, maxLocals := 3, code := jdk_42_method_158_code, exceptionTable := #[], attributes := #[] }
def k7m14 : Method := { name := "checkBoundsBeginEnd", desc := "(III)V", sig := { parameters := [.int, .int, .int], returnType := none }, accessFlags := 8, code := some k7c14 }
/-- java/lang/String -/
def k7 : Class := { plain "java/lang/String" (some 0) with
  accessFlags := 49
  interfaces := #[2, 3, 4, 5, 6]
  cf := some (fileOf pool7 10 #[.nestMembers #[1103]] #[{ accessFlags := 1, nameIndex := 5, descriptorIndex := 6, attributes := #[] }, { accessFlags := 1, nameIndex := 5, descriptorIndex := 1010, attributes := #[] }, { accessFlags := 1, nameIndex := 507, descriptorIndex := 334, attributes := #[] }, { accessFlags := 1, nameIndex := 497, descriptorIndex := 427, attributes := #[] }, { accessFlags := 1, nameIndex := 643, descriptorIndex := 765, attributes := #[] }, { accessFlags := 1, nameIndex := 643, descriptorIndex := 636, attributes := #[] }, { accessFlags := 1, nameIndex := 683, descriptorIndex := 892, attributes := #[] }, { accessFlags := 1, nameIndex := 683, descriptorIndex := 684, attributes := #[] }, { accessFlags := 9, nameIndex := 782, descriptorIndex := 783, attributes := #[] }, { accessFlags := 2, nameIndex := 5, descriptorIndex := 29, attributes := #[] }, { accessFlags := 0, nameIndex := 5, descriptorIndex := 211, attributes := #[] }, { accessFlags := 0, nameIndex := 17, descriptorIndex := 337, attributes := #[] }, { accessFlags := 0, nameIndex := 494, descriptorIndex := 142, attributes := #[] }, { accessFlags := 8, nameIndex := 501, descriptorIndex := 391, attributes := #[] }, { accessFlags := 8, nameIndex := 523, descriptorIndex := 524, attributes := #[] }] 49 2 #[1106, 1108, 575, 1110, 1112] #[{ accessFlags := 18, nameIndex := 13, descriptorIndex := 14, attributes := #[] }, { accessFlags := 18, nameIndex := 17, descriptorIndex := 18, attributes := #[] }, { accessFlags := 2, nameIndex := 21, descriptorIndex := 22, attributes := #[] }, { accessFlags := 2, nameIndex := 25, descriptorIndex := 26, attributes := #[] }, { accessFlags := 26, nameIndex := 1116, descriptorIndex := 1117, attributes := #[] }, { accessFlags := 24, nameIndex := 40, descriptorIndex := 26, attributes := #[] }, { accessFlags := 26, nameIndex := 1101, descriptorIndex := 1102, attributes := #[] }, { accessFlags := 26, nameIndex := 1121, descriptorIndex := 1122, attributes := #[] }, { accessFlags := 25, nameIndex := 599, descriptorIndex := 600, attributes := #[] }, { accessFlags := 24, nameIndex := 1125, descriptorIndex := 18, attributes := #[] }, { accessFlags := 24, nameIndex := 1127, descriptorIndex := 18, attributes := #[] }])
  fields := #[{ name := "value", type := (.array .byte), accessFlags := 18, slot := 0, constantValue := 0 }, { name := "coder", type := .byte, accessFlags := 18, slot := 1, constantValue := 0 }, { name := "hash", type := .int, accessFlags := 2, slot := 2, constantValue := 0 }, { name := "hashIsZero", type := .boolean, accessFlags := 2, slot := 3, constantValue := 0 }, { name := "serialVersionUID", type := .long, accessFlags := 26, slot := 0, constantValue := 0 }, { name := "COMPACT_STRINGS", type := .boolean, accessFlags := 24, slot := 1, constantValue := 0 }, { name := "serialPersistentFields", type := (.array (.object "java/io/ObjectStreamField")), accessFlags := 26, slot := 2, constantValue := 0 }, { name := "REPL", type := .char, accessFlags := 26, slot := 3, constantValue := 0 }, { name := "CASE_INSENSITIVE_ORDER", type := (.object "java/util/Comparator"), accessFlags := 25, slot := 4, constantValue := 0 }, { name := "LATIN1", type := .byte, accessFlags := 24, slot := 5, constantValue := 0 }, { name := "UTF16", type := .byte, accessFlags := 24, slot := 6, constantValue := 0 }]
  methods := #[k7m0, k7m1, k7m2, k7m3, k7m4, k7m5, k7m6, k7m7, k7m8, k7m9, k7m10, k7m11, k7m12, k7m13, k7m14]
  instanceTypes := #[(.array .byte), .byte, .int, .boolean]
  staticTypes := #[.long, .boolean, (.array (.object "java/io/ObjectStreamField")), .char, (.object "java/util/Comparator"), .byte, .byte]
  resolved := Array.replicate 1451 none
  statics := some 0 }

def pool8 : Array CpInfo := pool [(1, .methodref 2 3), (0, .class_ 4), (0, .nameAndType 5 6), (0, u "java/lang/Object"), (0, u "<init>"), (0, u "()V"), (0, .class_ 8), (0, u "java/lang/Record")] 13

def k8c0 : Code := { maxStack := 1, maxLocals := 1, code := jdk_30_method_1_code, exceptionTable := #[], attributes := #[] }
def k8m0 : Method := { name := "<init>", desc := "()V", sig := { parameters := [], returnType := none }, accessFlags := 4, code := some k8c0 }
/-- java/lang/Record -/
def k8 : Class := { plain "java/lang/Record" (some 0) with
  accessFlags := 1057
  interfaces := #[]
  cf := some (fileOf pool8 7 #[] #[{ accessFlags := 4, nameIndex := 5, descriptorIndex := 6, attributes := #[] }] 1057 2 #[] #[])
  fields := #[]
  methods := #[k8m0]
  instanceTypes := #[]
  staticTypes := #[]
  resolved := Array.replicate 22 none
  statics := none }

def pool9 : Array CpInfo := pool [(1, .methodref 2 3), (0, .class_ 4), (0, .nameAndType 5 6), (0, u "java/lang/Record"), (0, u "<init>"), (0, u "()V"), (0, .fieldref 8 9), (0, .class_ 10), (0, .nameAndType 11 12), (0, u "com/example/fuller_query/fullerquery/knowledge/ApiTypes$ApiType"), (0, u "packageName"), (0, u "Ljava/lang/String;"), (0, .fieldref 8 14), (0, .nameAndType 15 12), (0, u "name"), (1, .class_ 19), (1, u "java/lang/String"), (6, .methodref 17 27), (0, .nameAndType 28 29), (0, u "lastIndexOf"), (0, u "(I)I"), (0, .methodref 17 31), (0, .nameAndType 32 33), (0, u "substring"), (0, u "(I)Ljava/lang/String;"), (12, u "(Ljava/lang/String;Ljava/lang/String;)V"), (4, u "()Ljava/lang/String;"), (1, u "simpleName"), (5, .class_ 60), (0, u "com/example/fuller_query/fullerquery/knowledge/ApiTypes")] 28

def k9c0 : Code := { maxStack := 2, maxLocals := 3, code := prog_24_method_1_code, exceptionTable := #[], attributes := #[] }
def k9m0 : Method := { name := "<init>", desc := "(Ljava/lang/String;Ljava/lang/String;)V", sig := { parameters := [(.object "java/lang/String"), (.object "java/lang/String")], returnType := none }, accessFlags := 0, code := some k9c0 }
def k9c1 : Code := { maxStack := 3, maxLocals := 1, code := prog_24_method_3_code, exceptionTable := #[], attributes := #[] }
def k9m1 : Method := { name := "simpleName", desc := "()Ljava/lang/String;", sig := { parameters := [], returnType := some (.object "java/lang/String") }, accessFlags := 0, code := some k9c1 }
/-- com/example/fuller_query/fullerquery/knowledge/ApiTypes$ApiType -/
def k9 : Class := { plain "com/example/fuller_query/fullerquery/knowledge/ApiTypes$ApiType" (some 8) with
  accessFlags := 48
  interfaces := #[]
  cf := some (fileOf pool9 8 #[.nestHost 59] #[{ accessFlags := 0, nameIndex := 5, descriptorIndex := 46, attributes := #[] }, { accessFlags := 0, nameIndex := 53, descriptorIndex := 51, attributes := #[] }] 48 2 #[] #[{ accessFlags := 18, nameIndex := 11, descriptorIndex := 12, attributes := #[] }, { accessFlags := 18, nameIndex := 15, descriptorIndex := 12, attributes := #[] }])
  fields := #[{ name := "packageName", type := (.object "java/lang/String"), accessFlags := 18, slot := 0, constantValue := 0 }, { name := "name", type := (.object "java/lang/String"), accessFlags := 18, slot := 1, constantValue := 0 }]
  methods := #[k9m0, k9m1]
  instanceTypes := #[(.object "java/lang/String"), (.object "java/lang/String")]
  staticTypes := #[]
  resolved := Array.replicate 89 none
  statics := none }

def pool10 : Array CpInfo := pool [(1, .class_ 2), (0, u "java/lang/String"), (1, .class_ 6), (1, u "java/lang/Object"), (0, u "<init>"), (0, u "()V"), (0, .methodref 1 10), (0, .nameAndType 11 12), (0, u "checkIndex"), (0, u "(II)V"), (1, .class_ 16), (1, u "java/lang/StringLatin1"), (21, .methodref 39 40), (0, .class_ 41), (0, .nameAndType 42 43), (0, u "java/lang/Math"), (0, u "min"), (0, u "(II)I"), (9, u "([BI)C"), (34, .methodref 14 89), (0, .nameAndType 90 91), (0, u "canEncode"), (0, u "(I)Z"), (13, u "(C)Z"), (6, .methodref 1 113), (0, .nameAndType 7 114), (0, u "([BB)V"), (6, u "$assertionsDisabled"), (0, u "Z"), (8, .class_ 133), (1, u "java/util/Arrays"), (17, .string 152), (0, u ""), (43, u "newString"), (0, u "([BII)Ljava/lang/String;"), (23, .class_ 223), (1, u "java/lang/StringLatin1$LinesSpliterator"), (8, .methodref 131 233), (0, .nameAndType 234 235), (0, u "copyOfRange"), (0, u "([BII)[B"), (16, u "charAt"), (8, u "([BII)I"), (47, u "lastIndexOf"), (70, u "toBytes"), (1, u "(C)[B"), (7, .class_ 391), (0, u "java/lang/StringLatin1$CharsSpliterator")] 3

def k10m0 : Method := { name := "<init>", desc := "()V", sig := { parameters := [], returnType := none }, accessFlags := 0, code := none }
def k10c1 : Code := { maxStack := 2, maxLocals := 2, code := jdk_43_method_2_code, exceptionTable := #[], attributes := #[] }
def k10m1 : Method := { name := "charAt", desc := "([BI)C", sig := { parameters := [(.array .byte), .int], returnType := some .char }, accessFlags := 9, code := some k10c1 }
def k10c2 : Code := { maxStack := 2, maxLocals := 1, code := jdk_43_method_3_code, exceptionTable := #[], attributes := #[] }
def k10m2 : Method := { name := "canEncode", desc := "(C)Z", sig := { parameters := [.char], returnType := some .boolean }, accessFlags := 9, code := some k10c2 }
def k10c3 : Code := { maxStack := 2, maxLocals := 1, code := jdk_43_method_4_code, exceptionTable := #[], attributes := #[] }
def k10m3 : Method := { name := "canEncode", desc := "(I)Z", sig := { parameters := [.int], returnType := some .boolean }, accessFlags := 9, code := some k10c3 }
def k10c4 : Code := { maxStack := 3, maxLocals := 4, code := jdk_43_method_27_code, exceptionTable := #[], attributes := #[] }
def k10m4 : Method := { name := "lastIndexOf", desc := "([BII)I", sig := { parameters := [(.array .byte), .int, .int], returnType := some .int }, accessFlags := 9, code := some k10c4 }
def k10c5 : Code := { maxStack := 4, maxLocals := 1, code := jdk_43_method_46_code, exceptionTable := #[], attributes := #[] }
def k10m5 : Method := { name := "toBytes", desc := "(C)[B", sig := { parameters := [.char], returnType := some (.array .byte) }, accessFlags := 9, code := some k10c5 }
def k10c6 : Code := { maxStack := 6, maxLocals := 3, code := jdk_43_method_47_code, exceptionTable := #[], attributes := #[] }
def k10m6 : Method := { name := "newString", desc := "([BII)Ljava/lang/String;", sig := { parameters := [(.array .byte), .int, .int], returnType := some (.object "java/lang/String") }, accessFlags := 9, code := some k10c6 }
/-- java/lang/StringLatin1 -/
def k10 : Class := { plain "java/lang/StringLatin1" (some 0) with
  accessFlags := 48
  interfaces := #[]
  cf := some (fileOf pool10 14 #[.nestMembers #[390, 221]] #[{ accessFlags := 0, nameIndex := 7, descriptorIndex := 8, attributes := #[] }, { accessFlags := 9, nameIndex := 252, descriptorIndex := 53, attributes := #[] }, { accessFlags := 9, nameIndex := 90, descriptorIndex := 105, attributes := #[] }, { accessFlags := 9, nameIndex := 90, descriptorIndex := 91, attributes := #[] }, { accessFlags := 9, nameIndex := 309, descriptorIndex := 261, attributes := #[] }, { accessFlags := 9, nameIndex := 380, descriptorIndex := 382, attributes := #[] }, { accessFlags := 9, nameIndex := 196, descriptorIndex := 197, attributes := #[] }] 48 4 #[] #[{ accessFlags := 4120, nameIndex := 121, descriptorIndex := 122, attributes := #[] }])
  fields := #[{ name := "$assertionsDisabled", type := .boolean, accessFlags := 4120, slot := 0, constantValue := 0 }]
  methods := #[k10m0, k10m1, k10m2, k10m3, k10m4, k10m5, k10m6]
  instanceTypes := #[]
  staticTypes := #[.boolean]
  resolved := Array.replicate 395 none
  statics := none }

def pool11 : Array CpInfo := pool [(1, .class_ 2), (0, u "java/lang/Math"), (1, .class_ 6), (1, u "java/lang/Object"), (0, u "<init>"), (0, u "()V"), (89, .class_ 100), (1, u "java/lang/Math$RandomNumberGeneratorHolder"), (71, u "negativeZeroFloatBits"), (0, u "J"), (2, u "negativeZeroDoubleBits"), (24, u "min"), (43, u "$assertionsDisabled"), (0, u "Z"), (88, u "(II)I"), (2, u "twoToTheDoubleScaleDown"), (0, u "D"), (4, u "twoToTheDoubleScaleUp"), (9, u "E"), (3, u "PI"), (2, u "TAU"), (2, u "DEGREES_TO_RADIANS"), (0, u "RADIANS_TO_DEGREES")] 94

def k11m0 : Method := { name := "<init>", desc := "()V", sig := { parameters := [], returnType := none }, accessFlags := 2, code := none }
def k11c1 : Code := { maxStack := 2, maxLocals := 2, code := jdk_29_method_69_code, exceptionTable := #[], attributes := #[] }
def k11m1 : Method := { name := "min", desc := "(II)I", sig := { parameters := [.int, .int], returnType := some .int }, accessFlags := 9, code := some k11c1 }
/-- java/lang/Math -/
def k11 : Class := { plain "java/lang/Math" (some 0) with
  accessFlags := 49
  interfaces := #[]
  cf := some (fileOf pool11 1 #[.nestMembers #[98]] #[{ accessFlags := 2, nameIndex := 7, descriptorIndex := 8, attributes := #[] }, { accessFlags := 9, nameIndex := 201, descriptorIndex := 335, attributes := #[] }] 49 4 #[] #[{ accessFlags := 25, nameIndex := 354, descriptorIndex := 339, attributes := #[] }, { accessFlags := 25, nameIndex := 358, descriptorIndex := 339, attributes := #[] }, { accessFlags := 25, nameIndex := 361, descriptorIndex := 339, attributes := #[] }, { accessFlags := 26, nameIndex := 364, descriptorIndex := 339, attributes := #[] }, { accessFlags := 26, nameIndex := 365, descriptorIndex := 339, attributes := #[] }, { accessFlags := 26, nameIndex := 172, descriptorIndex := 173, attributes := #[] }, { accessFlags := 26, nameIndex := 176, descriptorIndex := 173, attributes := #[] }, { accessFlags := 8, nameIndex := 344, descriptorIndex := 339, attributes := #[] }, { accessFlags := 8, nameIndex := 338, descriptorIndex := 339, attributes := #[] }, { accessFlags := 4120, nameIndex := 245, descriptorIndex := 246, attributes := #[] }])
  fields := #[{ name := "E", type := .double, accessFlags := 25, slot := 0, constantValue := 0 }, { name := "PI", type := .double, accessFlags := 25, slot := 1, constantValue := 0 }, { name := "TAU", type := .double, accessFlags := 25, slot := 2, constantValue := 0 }, { name := "DEGREES_TO_RADIANS", type := .double, accessFlags := 26, slot := 3, constantValue := 0 }, { name := "RADIANS_TO_DEGREES", type := .double, accessFlags := 26, slot := 4, constantValue := 0 }, { name := "negativeZeroFloatBits", type := .long, accessFlags := 26, slot := 5, constantValue := 0 }, { name := "negativeZeroDoubleBits", type := .long, accessFlags := 26, slot := 6, constantValue := 0 }, { name := "twoToTheDoubleScaleUp", type := .double, accessFlags := 8, slot := 7, constantValue := 0 }, { name := "twoToTheDoubleScaleDown", type := .double, accessFlags := 8, slot := 8, constantValue := 0 }, { name := "$assertionsDisabled", type := .boolean, accessFlags := 4120, slot := 9, constantValue := 0 }]
  methods := #[k11m0, k11m1]
  instanceTypes := #[]
  staticTypes := #[.double, .double, .double, .double, .double, .long, .long, .double, .double, .boolean]
  resolved := Array.replicate 460 none
  statics := none }

def pool12 : Array CpInfo := pool [(2, .class_ 4), (1, u "java/lang/Object"), (0, u "<init>"), (0, u "()V"), (17, .class_ 26), (1, u "jdk/internal/util/Preconditions"), (6, u "checkIndex"), (13, u "checkFromToIndex"), (7, .class_ 56), (0, u "jdk/internal/util/Preconditions$4"), (57, .class_ 115), (0, u "jdk/internal/util/Preconditions$1"), (7, u "SIOOBE_FORMATTER"), (0, u "Ljava/util/function/BiFunction;"), (0, .class_ 126), (0, u "jdk/internal/util/Preconditions$2"), (3, u "AIOOBE_FORMATTER"), (0, .class_ 132), (0, u "jdk/internal/util/Preconditions$3"), (3, u "IOOBE_FORMATTER"), (41, u "(IILjava/util/function/BiFunction;)I"), (4, u "(IIILjava/util/function/BiFunction;)I")] 10

def k12m0 : Method := { name := "<init>", desc := "()V", sig := { parameters := [], returnType := none }, accessFlags := 1, code := none }
def k12c1 : Code := { maxStack := 3, maxLocals := 3, code := jdk_41_method_11_code, exceptionTable := #[], attributes := #[] }
def k12m1 : Method := { name := "checkIndex", desc := "(IILjava/util/function/BiFunction;)I", sig := { parameters := [.int, .int, (.object "java/util/function/BiFunction")], returnType := some .int }, accessFlags := 9, code := some k12c1 }
def k12c2 : Code := { maxStack := 4, maxLocals := 4, code := jdk_41_method_12_code, exceptionTable := #[], attributes := #[] }
def k12m2 : Method := { name := "checkFromToIndex", desc := "(IIILjava/util/function/BiFunction;)I", sig := { parameters := [.int, .int, .int, (.object "java/util/function/BiFunction")], returnType := some .int }, accessFlags := 9, code := some k12c2 }
/-- jdk/internal/util/Preconditions -/
def k12 : Class := { plain "jdk/internal/util/Preconditions" (some 0) with
  accessFlags := 33
  interfaces := #[]
  cf := some (fileOf pool12 24 #[.nestMembers #[55, 131, 125, 114]] #[{ accessFlags := 1, nameIndex := 5, descriptorIndex := 6, attributes := #[] }, { accessFlags := 9, nameIndex := 33, descriptorIndex := 178, attributes := #[] }, { accessFlags := 9, nameIndex := 47, descriptorIndex := 183, attributes := #[] }] 33 2 #[] #[{ accessFlags := 25, nameIndex := 123, descriptorIndex := 124, attributes := #[] }, { accessFlags := 25, nameIndex := 130, descriptorIndex := 124, attributes := #[] }, { accessFlags := 25, nameIndex := 136, descriptorIndex := 124, attributes := #[] }])
  fields := #[{ name := "SIOOBE_FORMATTER", type := (.object "java/util/function/BiFunction"), accessFlags := 25, slot := 0, constantValue := 0 }, { name := "AIOOBE_FORMATTER", type := (.object "java/util/function/BiFunction"), accessFlags := 25, slot := 1, constantValue := 0 }, { name := "IOOBE_FORMATTER", type := (.object "java/util/function/BiFunction"), accessFlags := 25, slot := 2, constantValue := 0 }]
  methods := #[k12m0, k12m1, k12m2]
  instanceTypes := #[]
  staticTypes := #[(.object "java/util/function/BiFunction"), (.object "java/util/function/BiFunction"), (.object "java/util/function/BiFunction")]
  resolved := Array.replicate 194 none
  statics := some 1 }

def pool13 : Array CpInfo := pool [(6, .class_ 8), (1, u "java/lang/Object"), (0, u "<init>"), (0, u "()V"), (1, .class_ 14), (1, u "java/lang/StringUTF16"), (31, u "$assertionsDisabled"), (0, u "Z"), (13, u "HI_BYTE_SHIFT"), (0, u "I"), (2, u "LO_BYTE_SHIFT"), (49, .methodref 12 116), (0, .nameAndType 117 118), (0, u "compress"), (0, u "([CI[BII)I"), (3, u "([CII)[B"), (138, u "coderFromArrayLen"), (0, u "([BI)B"), (106, .class_ 371), (1, u "java/lang/StringUTF16$LinesSpliterator"), (58, u "MAX_LENGTH"), (196, .class_ 628), (0, u "java/lang/StringUTF16$CodePointsSpliterator"), (0, .class_ 630), (0, u "java/lang/StringUTF16$CharsSpliterator")] 4

def k13m0 : Method := { name := "<init>", desc := "()V", sig := { parameters := [], returnType := none }, accessFlags := 0, code := none }
def k13c1 : Code := { maxStack := 2, maxLocals := 2, code := jdk_52_method_15_code, exceptionTable := #[], attributes := #[] }
def k13m1 : Method := { name := "coderFromArrayLen", desc := "([BI)B", sig := { parameters := [(.array .byte), .int], returnType := some .byte }, accessFlags := 8, code := some k13c1 }
def k13c2 : Code := { maxStack := 5, maxLocals := 6, code := jdk_52_method_16_code, exceptionTable := #[], attributes := #[] }
def k13m2 : Method := { name := "compress", desc := "([CII)[B", sig := { parameters := [(.array .char), .int, .int], returnType := some (.array .byte) }, accessFlags := 9, code := some k13c2 }
def k13c3 : Code := { maxStack := 3, maxLocals := 7, code := jdk_52_method_21_code, exceptionTable := #[], attributes := #[] }
def k13m3 : Method := { name := "compress", desc := "([CI[BII)I", sig := { parameters := [(.array .char), .int, (.array .byte), .int, .int], returnType := some .int }, accessFlags := 9, code := some k13c3 }
/-- java/lang/StringUTF16 -/
def k13 : Class := { plain "java/lang/StringUTF16" (some 0) with
  accessFlags := 48
  interfaces := #[]
  cf := some (fileOf pool13 12 #[.nestMembers #[627, 629, 369]] #[{ accessFlags := 0, nameIndex := 9, descriptorIndex := 10, attributes := #[] }, { accessFlags := 8, nameIndex := 261, descriptorIndex := 262, attributes := #[] }, { accessFlags := 9, nameIndex := 117, descriptorIndex := 122, attributes := #[] }, { accessFlags := 9, nameIndex := 117, descriptorIndex := 118, attributes := #[] }] 48 6 #[] #[{ accessFlags := 26, nameIndex := 61, descriptorIndex := 62, attributes := #[] }, { accessFlags := 26, nameIndex := 65, descriptorIndex := 62, attributes := #[] }, { accessFlags := 24, nameIndex := 430, descriptorIndex := 62, attributes := #[] }, { accessFlags := 4120, nameIndex := 46, descriptorIndex := 47, attributes := #[] }])
  fields := #[{ name := "HI_BYTE_SHIFT", type := .int, accessFlags := 26, slot := 0, constantValue := 0 }, { name := "LO_BYTE_SHIFT", type := .int, accessFlags := 26, slot := 1, constantValue := 0 }, { name := "MAX_LENGTH", type := .int, accessFlags := 24, slot := 2, constantValue := 0 }, { name := "$assertionsDisabled", type := .boolean, accessFlags := 4120, slot := 3, constantValue := 0 }]
  methods := #[k13m0, k13m1, k13m2, k13m3]
  instanceTypes := #[]
  staticTypes := #[.int, .int, .int, .boolean]
  resolved := Array.replicate 635 none
  statics := none }

def pool14 : Array CpInfo := pool [(2, .class_ 4), (1, u "java/lang/Object"), (0, u "<init>"), (0, u "()V"), (7, .class_ 16), (1, u "java/util/Arrays"), (57, .class_ 76), (1, u "java/util/Arrays$NaturalOrder"), (36, .class_ 115), (1, u "java/util/Arrays$LegacyMergeSort"), (1, u "Z"), (21, u "copyOfRange"), (10, .methodref 151 152), (0, .class_ 153), (0, .nameAndType 154 155), (0, u "java/lang/System"), (0, u "arraycopy"), (0, u "(Ljava/lang/Object;ILjava/lang/Object;II)V"), (148, .methodref 305 306), (0, .class_ 307), (0, .nameAndType 308 309), (0, u "java/lang/Math"), (0, u "min"), (0, u "(II)I"), (29, .methodref 14 340), (0, .nameAndType 341 342), (0, u "copyOfRangeByte"), (0, u "([BII)[B"), (0, .methodref 14 344), (0, .nameAndType 345 346), (0, u "checkLength"), (0, u "(II)V"), (28, .class_ 376), (0, u "java/util/Arrays$ArrayList"), (68, u "$assertionsDisabled"), (269, u "MIN_ARRAY_SORT_GRAN"), (0, u "I"), (2, u "INSERTIONSORT_THRESHOLD"), (255, .class_ 976), (0, u "java/util/Arrays$ArrayItr")] 52

def k14m0 : Method := { name := "<init>", desc := "()V", sig := { parameters := [], returnType := none }, accessFlags := 2, code := none }
def k14c1 : Code := { maxStack := 4, maxLocals := 2, code := jdk_65_method_131_code, exceptionTable := #[], attributes := #[] }
def k14m1 : Method := { name := "checkLength", desc := "(II)V", sig := { parameters := [.int, .int], returnType := none }, accessFlags := 10, code := some k14c1 }
def k14c2 : Code := { maxStack := 3, maxLocals := 3, code := jdk_65_method_132_code, exceptionTable := #[], attributes := #[] }
def k14m2 : Method := { name := "copyOfRange", desc := "([BII)[B", sig := { parameters := [(.array .byte), .int, .int], returnType := some (.array .byte) }, accessFlags := 9, code := some k14c2 }
def k14c3 : Code := { maxStack := 6, maxLocals := 5, code := jdk_65_method_133_code, exceptionTable := #[], attributes := #[] }
def k14m3 : Method := { name := "copyOfRangeByte", desc := "([BII)[B", sig := { parameters := [(.array .byte), .int, .int], returnType := some (.array .byte) }, accessFlags := 10, code := some k14c3 }
/-- java/util/Arrays -/
def k14 : Class := { plain "java/util/Arrays" (some 0) with
  accessFlags := 49
  interfaces := #[]
  cf := some (fileOf pool14 14 #[.nestMembers #[975, 375, 113, 74]] #[{ accessFlags := 2, nameIndex := 5, descriptorIndex := 6, attributes := #[] }, { accessFlags := 10, nameIndex := 345, descriptorIndex := 346, attributes := #[] }, { accessFlags := 9, nameIndex := 139, descriptorIndex := 342, attributes := #[] }, { accessFlags := 10, nameIndex := 341, descriptorIndex := 342, attributes := #[] }] 49 2 #[] #[{ accessFlags := 26, nameIndex := 715, descriptorIndex := 716, attributes := #[] }, { accessFlags := 26, nameIndex := 719, descriptorIndex := 716, attributes := #[] }, { accessFlags := 4120, nameIndex := 445, descriptorIndex := 117, attributes := #[] }])
  fields := #[{ name := "MIN_ARRAY_SORT_GRAN", type := .int, accessFlags := 26, slot := 0, constantValue := 0 }, { name := "INSERTIONSORT_THRESHOLD", type := .int, accessFlags := 26, slot := 1, constantValue := 0 }, { name := "$assertionsDisabled", type := .boolean, accessFlags := 4120, slot := 2, constantValue := 0 }]
  methods := #[k14m0, k14m1, k14m2, k14m3]
  instanceTypes := #[]
  staticTypes := #[.int, .int, .boolean]
  resolved := Array.replicate 1029 none
  statics := none }

def pool15 : Array CpInfo := pool [(2, .class_ 4), (1, u "java/lang/Object"), (0, u "<init>"), (0, u "()V"), (1, .class_ 10), (1, u "java/lang/System"), (0, u "allowSecurityManager"), (0, u "I"), (16, u "cons"), (0, u "Ljava/io/Console;"), (77, .class_ 110), (1, u "java/lang/System$CallersHolder"), (43, u "initialErrStream"), (0, u "Ljava/io/PrintStream;"), (19, u "security"), (0, u "Ljava/lang/SecurityManager;"), (31, .class_ 209), (0, u "java/lang/System$1"), (7, u "props"), (0, u "Ljava/util/Properties;"), (2, u "lineSeparator"), (0, u "Ljava/lang/String;"), (96, .class_ 321), (1, u "java/lang/System$LoggerFinder"), (5, .class_ 328), (0, u "java/lang/System$Logger"), (67, u "err"), (2, u "out"), (91, u "notSupportedJnuEncoding"), (15, u "in"), (17, u "initialIn"), (0, u "Ljava/io/InputStream;"), (35, u "bootLayer"), (0, u "Ljava/lang/ModuleLayer;"), (99, .class_ 664), (0, u "java/lang/System$2"), (9, u "NEVER"), (2, u "MAYBE"), (49, u "arraycopy"), (0, u "(Ljava/lang/Object;ILjava/lang/Object;II)V"), (72, .class_ 802), (0, u "java/lang/System$Logger$Level")] 31

def k15m0 : Method := { name := "<init>", desc := "()V", sig := { parameters := [], returnType := none }, accessFlags := 2, code := none }
def k15m1 : Method := { name := "arraycopy", desc := "(Ljava/lang/Object;ILjava/lang/Object;II)V", sig := { parameters := [(.object "java/lang/Object"), .int, (.object "java/lang/Object"), .int, .int], returnType := none }, accessFlags := 265, code := none }
/-- java/lang/System -/
def k15 : Class := { plain "java/lang/System" (some 0) with
  accessFlags := 49
  interfaces := #[]
  cf := some (fileOf pool15 8 #[.nestMembers #[319, 327, 801, 108, 663, 208]] #[{ accessFlags := 2, nameIndex := 5, descriptorIndex := 6, attributes := #[] }, { accessFlags := 265, nameIndex := 727, descriptorIndex := 728, attributes := #[] }] 49 2 #[] #[{ accessFlags := 25, nameIndex := 507, descriptorIndex := 526, attributes := #[] }, { accessFlags := 25, nameIndex := 399, descriptorIndex := 155, attributes := #[] }, { accessFlags := 25, nameIndex := 396, descriptorIndex := 155, attributes := #[] }, { accessFlags := 10, nameIndex := 525, descriptorIndex := 526, attributes := #[] }, { accessFlags := 26, nameIndex := 674, descriptorIndex := 12, attributes := #[] }, { accessFlags := 26, nameIndex := 677, descriptorIndex := 12, attributes := #[] }, { accessFlags := 10, nameIndex := 11, descriptorIndex := 12, attributes := #[] }, { accessFlags := 74, nameIndex := 175, descriptorIndex := 176, attributes := #[] }, { accessFlags := 10, nameIndex := 491, descriptorIndex := 222, attributes := #[] }, { accessFlags := 74, nameIndex := 29, descriptorIndex := 30, attributes := #[] }, { accessFlags := 74, nameIndex := 154, descriptorIndex := 155, attributes := #[] }, { accessFlags := 10, nameIndex := 217, descriptorIndex := 218, attributes := #[] }, { accessFlags := 10, nameIndex := 221, descriptorIndex := 222, attributes := #[] }, { accessFlags := 8, nameIndex := 562, descriptorIndex := 563, attributes := #[] }])
  fields := #[{ name := "in", type := (.object "java/io/InputStream"), accessFlags := 25, slot := 0, constantValue := 0 }, { name := "out", type := (.object "java/io/PrintStream"), accessFlags := 25, slot := 1, constantValue := 0 }, { name := "err", type := (.object "java/io/PrintStream"), accessFlags := 25, slot := 2, constantValue := 0 }, { name := "initialIn", type := (.object "java/io/InputStream"), accessFlags := 10, slot := 3, constantValue := 0 }, { name := "NEVER", type := .int, accessFlags := 26, slot := 4, constantValue := 0 }, { name := "MAYBE", type := .int, accessFlags := 26, slot := 5, constantValue := 0 }, { name := "allowSecurityManager", type := .int, accessFlags := 10, slot := 6, constantValue := 0 }, { name := "security", type := (.object "java/lang/SecurityManager"), accessFlags := 74, slot := 7, constantValue := 0 }, { name := "notSupportedJnuEncoding", type := (.object "java/lang/String"), accessFlags := 10, slot := 8, constantValue := 0 }, { name := "cons", type := (.object "java/io/Console"), accessFlags := 74, slot := 9, constantValue := 0 }, { name := "initialErrStream", type := (.object "java/io/PrintStream"), accessFlags := 74, slot := 10, constantValue := 0 }, { name := "props", type := (.object "java/util/Properties"), accessFlags := 10, slot := 11, constantValue := 0 }, { name := "lineSeparator", type := (.object "java/lang/String"), accessFlags := 10, slot := 12, constantValue := 0 }, { name := "bootLayer", type := (.object "java/lang/ModuleLayer"), accessFlags := 8, slot := 13, constantValue := 0 }]
  methods := #[k15m0, k15m1]
  instanceTypes := #[]
  staticTypes := #[(.object "java/io/InputStream"), (.object "java/io/PrintStream"), (.object "java/io/PrintStream"), (.object "java/io/InputStream"), .int, .int, .int, (.object "java/lang/SecurityManager"), (.object "java/lang/String"), (.object "java/io/Console"), (.object "java/io/PrintStream"), (.object "java/util/Properties"), (.object "java/lang/String"), (.object "java/lang/ModuleLayer")]
  resolved := Array.replicate 834 none
  statics := none }

def pool16 : Array CpInfo := pool [(9, u "<init>"), (6, .class_ 18), (1, u "java/lang/Object"), (0, u "()V"), (1, .class_ 23), (1, u "jdk/internal/util/ArraysSupport"), (0, u "LOG2_ARRAY_LONG_INDEX_SCALE"), (0, u "I"), (2, u "U"), (0, u "Ljdk/internal/misc/Unsafe;"), (8, u "BIG_ENDIAN"), (0, u "Z"), (8, u "LOG2_BYTE_BIT_SIZE"), (4, u "LOG2_ARRAY_INT_INDEX_SCALE"), (54, u "JLA"), (0, u "Ljdk/internal/access/JavaLangAccess;"), (11, u "LOG2_ARRAY_BOOLEAN_INDEX_SCALE"), (9, u "LOG2_ARRAY_BYTE_INDEX_SCALE"), (5, u "LOG2_ARRAY_CHAR_INDEX_SCALE"), (5, u "LOG2_ARRAY_SHORT_INDEX_SCALE"), (18, u "LOG2_ARRAY_FLOAT_INDEX_SCALE"), (24, u "LOG2_ARRAY_DOUBLE_INDEX_SCALE"), (89, u "T_BOOLEAN"), (2, u "T_CHAR"), (1, u "T_FLOAT"), (1, u "T_DOUBLE"), (1, u "T_BYTE"), (1, u "T_SHORT"), (1, u "T_INT"), (1, u "T_LONG"), (1, u "SOFT_MAX_ARRAY_LENGTH")] 83

def k16m0 : Method := { name := "<init>", desc := "()V", sig := { parameters := [], returnType := none }, accessFlags := 2, code := none }
/-- jdk/internal/util/ArraysSupport -/
def k16 : Class := { plain "jdk/internal/util/ArraysSupport" (some 0) with
  accessFlags := 33
  interfaces := #[]
  cf := some (fileOf pool16 21 #[] #[{ accessFlags := 2, nameIndex := 9, descriptorIndex := 19, attributes := #[] }] 33 16 #[] #[{ accessFlags := 24, nameIndex := 28, descriptorIndex := 29, attributes := #[] }, { accessFlags := 26, nameIndex := 38, descriptorIndex := 39, attributes := #[] }, { accessFlags := 25, nameIndex := 121, descriptorIndex := 25, attributes := #[] }, { accessFlags := 25, nameIndex := 131, descriptorIndex := 25, attributes := #[] }, { accessFlags := 25, nameIndex := 137, descriptorIndex := 25, attributes := #[] }, { accessFlags := 25, nameIndex := 143, descriptorIndex := 25, attributes := #[] }, { accessFlags := 25, nameIndex := 53, descriptorIndex := 25, attributes := #[] }, { accessFlags := 25, nameIndex := 24, descriptorIndex := 25, attributes := #[] }, { accessFlags := 25, nameIndex := 162, descriptorIndex := 25, attributes := #[] }, { accessFlags := 25, nameIndex := 187, descriptorIndex := 25, attributes := #[] }, { accessFlags := 26, nameIndex := 48, descriptorIndex := 25, attributes := #[] }, { accessFlags := 25, nameIndex := 277, descriptorIndex := 25, attributes := #[] }, { accessFlags := 25, nameIndex := 280, descriptorIndex := 25, attributes := #[] }, { accessFlags := 25, nameIndex := 282, descriptorIndex := 25, attributes := #[] }, { accessFlags := 25, nameIndex := 284, descriptorIndex := 25, attributes := #[] }, { accessFlags := 25, nameIndex := 286, descriptorIndex := 25, attributes := #[] }, { accessFlags := 25, nameIndex := 288, descriptorIndex := 25, attributes := #[] }, { accessFlags := 25, nameIndex := 290, descriptorIndex := 25, attributes := #[] }, { accessFlags := 25, nameIndex := 292, descriptorIndex := 25, attributes := #[] }, { accessFlags := 26, nameIndex := 108, descriptorIndex := 109, attributes := #[] }, { accessFlags := 25, nameIndex := 294, descriptorIndex := 25, attributes := #[] }])
  fields := #[{ name := "U", type := (.object "jdk/internal/misc/Unsafe"), accessFlags := 24, slot := 0, constantValue := 0 }, { name := "BIG_ENDIAN", type := .boolean, accessFlags := 26, slot := 1, constantValue := 0 }, { name := "LOG2_ARRAY_BOOLEAN_INDEX_SCALE", type := .int, accessFlags := 25, slot := 2, constantValue := 0 }, { name := "LOG2_ARRAY_BYTE_INDEX_SCALE", type := .int, accessFlags := 25, slot := 3, constantValue := 0 }, { name := "LOG2_ARRAY_CHAR_INDEX_SCALE", type := .int, accessFlags := 25, slot := 4, constantValue := 0 }, { name := "LOG2_ARRAY_SHORT_INDEX_SCALE", type := .int, accessFlags := 25, slot := 5, constantValue := 0 }, { name := "LOG2_ARRAY_INT_INDEX_SCALE", type := .int, accessFlags := 25, slot := 6, constantValue := 0 }, { name := "LOG2_ARRAY_LONG_INDEX_SCALE", type := .int, accessFlags := 25, slot := 7, constantValue := 0 }, { name := "LOG2_ARRAY_FLOAT_INDEX_SCALE", type := .int, accessFlags := 25, slot := 8, constantValue := 0 }, { name := "LOG2_ARRAY_DOUBLE_INDEX_SCALE", type := .int, accessFlags := 25, slot := 9, constantValue := 0 }, { name := "LOG2_BYTE_BIT_SIZE", type := .int, accessFlags := 26, slot := 10, constantValue := 0 }, { name := "T_BOOLEAN", type := .int, accessFlags := 25, slot := 11, constantValue := 0 }, { name := "T_CHAR", type := .int, accessFlags := 25, slot := 12, constantValue := 0 }, { name := "T_FLOAT", type := .int, accessFlags := 25, slot := 13, constantValue := 0 }, { name := "T_DOUBLE", type := .int, accessFlags := 25, slot := 14, constantValue := 0 }, { name := "T_BYTE", type := .int, accessFlags := 25, slot := 15, constantValue := 0 }, { name := "T_SHORT", type := .int, accessFlags := 25, slot := 16, constantValue := 0 }, { name := "T_INT", type := .int, accessFlags := 25, slot := 17, constantValue := 0 }, { name := "T_LONG", type := .int, accessFlags := 25, slot := 18, constantValue := 0 }, { name := "JLA", type := (.object "jdk/internal/access/JavaLangAccess"), accessFlags := 26, slot := 19, constantValue := 0 }, { name := "SOFT_MAX_ARRAY_LENGTH", type := .int, accessFlags := 25, slot := 20, constantValue := 0 }]
  methods := #[k16m0]
  instanceTypes := #[]
  staticTypes := #[(.object "jdk/internal/misc/Unsafe"), .boolean, .int, .int, .int, .int, .int, .int, .int, .int, .int, .int, .int, .int, .int, .int, .int, .int, .int, (.object "jdk/internal/access/JavaLangAccess"), .int]
  resolved := Array.replicate 378 none
  statics := none }

def pool17 : Array CpInfo := pool [(1, u "java/lang/Cloneable"), (0, .class_ 1), (0, u "java/lang/Object"), (0, .class_ 3)] 3

/-- java/lang/Cloneable -/
def k17 : Class := { plain "java/lang/Cloneable" (some 0) with
  accessFlags := 1537
  interfaces := #[]
  cf := some (fileOf pool17 2 #[] #[] 1537 4 #[] #[])
  fields := #[]
  methods := #[]
  instanceTypes := #[]
  staticTypes := #[]
  resolved := Array.replicate 8 none
  statics := none }

/-- the primitive byte -/
def k18 : Class := { plain "byte" none with kind := .primitive 'B', accessFlags := 0x411 }
/-- [B -/
def k19 : Class := { plain "[B" (some 0) with kind := .array 18 .byte, interfaces := #[17, 2], accessFlags := 1041 }

/-- the primitive char -/
def k20 : Class := { plain "char" none with kind := .primitive 'C', accessFlags := 0x411 }
/-- [C -/
def k21 : Class := { plain "[C" (some 0) with kind := .array 20 .char, interfaces := #[17, 2], accessFlags := 1041 }

/-- the primitive int -/
def k22 : Class := { plain "int" none with kind := .primitive 'I', accessFlags := 0x411 }
/-- [I -/
def k23 : Class := { plain "[I" (some 0) with kind := .array 22 .int, interfaces := #[17, 2], accessFlags := 1041 }

def heap : Heap := #[{ cls := 7, slots := #[.long 0, .int 1, .null, .int 0, .null, .int 0, .int 0], vm := .statics 7 },
  { cls := 12, slots := #[.null, .null, .null], vm := .statics 12 }]
def classes : Array Class := #[k0, k1, k2, k3, k4, k5, k6, k7, k8, k9, k10, k11, k12, k13, k14, k15, k16, k17, k18, k19, k20, k21, k22, k23]
def interned : List (Array UInt16 × Addr) := []
def slotsUsed : Nat := 10
def theMethod : MethodId := ⟨1, 2⟩
def args0 : Array Value := #[.int 5, .int 7, .int 3, .int 9, .int 11, .int 2]
def aboutOver (below : List Frame) : State where
  vm := { classes := classes, interned := interned.toArray }
  heap := heap
  slotsUsed := slotsUsed
  threads := #[{ frames := .invoking theMethod args0 :: below }]
def below0 : List Frame := [.native { method := ⟨0, 0⟩, args := #[] }]
def about1 : State := aboutOver below0
def p0 : Program := .bare "" "" ""
def e0 : Env := launch0.env 0 0 0
theorem w_frames : about1.frames = Frame.invoking theMethod args0 :: below0 := rfl
set_option maxRecDepth 65536 in
theorem w_args : argsFit about1.vm theMethod args0 = true := by decide +kernel
set_option maxRecDepth 65536 in
theorem w_heap : heapFits about1 = true := by decide +kernel
set_option maxRecDepth 65536 in
theorem w_runnable : about1.curStatus? = some .runnable := by decide +kernel
set_option maxRecDepth 65536 in
theorem w_alone : about1.alone = true := by decide +kernel
set_option maxRecDepth 65536 in
theorem w_named : about1.methodNamed? x = some theMethod := by decide +kernel
set_option maxRecDepth 65536 in
theorem w_hears : about1.hears theMethod below0 = true := by decide +kernel
set_option maxRecDepth 65536 in
theorem w_ripe : about1.ripe theMethod args0 below0 = true := by decide +kernel
theorem w_running : about1.status = .running := rfl
set_option maxRecDepth 65536 in
theorem w_room : about1.hasRoom e0.platform room_1 = true :=
  launch0.hasRoom_least _ room_1 (by decide +kernel) (by decide +kernel) (by decide +kernel) (by decide +kernel) (by decide +kernel) (by decide +kernel)
theorem allAtoms_all (ts : List Jvm.Cond) (a : Array Jvm.Value) (st : Jvm.State) : (allAtoms ts).before a st = ts.all (fun c => c.before a st) := by
  induction ts with
  | nil => rfl
  | cons c t ih =>
    show (Jvm.Cond.and c (allAtoms t)).before a st = _
    rw [Jvm.Cond.before_and, ih, List.all_cons]
def words1 : List Jvm.Cond := Jvm.Cond.code x code maxLocals ret :: tables_1
/-- a 'code' word, met by the world's own term for the bytes: nothing is compared byte by byte -/
theorem code_word {y : MethodName} {bytes : ByteArray} {mx : Nat} {rt : Option FieldType} {a : Array Value} {s : State} {m : MethodId} {meth : Method} {c : Code} (h1 : s.methodNamed? y = some m) (h2 : s.vm.method? m = some meth) (h3 : meth.code = some c) (h4 : c.code = bytes)
    (h5 : (c.maxLocals == mx && c.exceptionTable.isEmpty && decide (c.maxStack ≤ mostOperands) && decide (meth.sig.returnType = rt) && !meth.locks && decide (parseMethodDescriptor y.desc = some meth.sig)) = true) : (Jvm.Cond.code y bytes mx rt).before a s = true := by
  simp only [Bool.and_eq_true, beq_iff_eq, Bool.not_eq_true', decide_eq_true_eq] at h5
  obtain ⟨⟨⟨⟨⟨g1, g2⟩, g3⟩, g4⟩, g5⟩, g6⟩ := h5
  simp [Cond.before, Cond.holds, Cond.value, h1, h2, h3, h4, g1, g2, g3, g4, g5, g6]
def isCode : Jvm.Cond → Bool
  | .code _ _ _ _ => true
  | _ => false
theorem all_split {L : List Jvm.Cond} {P : Jvm.Cond → Bool} (h1 : L.all (fun c => isCode c || P c) = true) (h2 : ∀ c ∈ L.filter isCode, P c = true) : L.all P = true := by
  refine List.all_eq_true.mpr fun c hc => ?_
  have h := List.all_eq_true.mp h1 c hc
  rcases Bool.eq_false_or_eq_true (isCode c) with hi | hi
  · exact h2 c (List.mem_filter.mpr ⟨hc, hi⟩)
  · simpa [hi] using h
set_option maxRecDepth 65536 in
theorem w_c0 : (Jvm.Cond.code x code maxLocals ret).before args0 about1 = true := code_word (m := ⟨1, 2⟩) (meth := k1m2) (c := k1c2) (by decide +kernel) rfl rfl rfl (by decide +kernel)
set_option maxRecDepth 65536 in
theorem w_c1 : (Jvm.Cond.code ({ cls := "java/lang/String", name := "<init>", desc := "([C)V" } : Jvm.MethodName) jdk_42_method_3_code (2 : Nat) (Option.none : Option Jvm.ClassFile.FieldType)).before args0 about1 = true := code_word (m := ⟨7, 1⟩) (meth := k7m1) (c := k7c1) (by decide +kernel) rfl rfl rfl (by decide +kernel)
set_option maxRecDepth 65536 in
theorem w_c2 : (Jvm.Cond.code ({ cls := "java/lang/String", name := "<init>", desc := "([CIILjava/lang/Void;)V" } : Jvm.MethodName) jdk_42_method_149_code (6 : Nat) (Option.none : Option Jvm.ClassFile.FieldType)).before args0 about1 = true := code_word (m := ⟨7, 9⟩) (meth := k7m9) (c := k7c9) (by decide +kernel) rfl rfl rfl (by decide +kernel)
set_option maxRecDepth 65536 in
theorem w_c3 : (Jvm.Cond.code ({ cls := "java/lang/Object", name := "<init>", desc := "()V" } : Jvm.MethodName) object_method_1_code (1 : Nat) (Option.none : Option Jvm.ClassFile.FieldType)).before args0 about1 = true := code_word (m := ⟨0, 0⟩) (meth := k0m0) (c := k0c0) (by decide +kernel) rfl rfl rfl (by decide +kernel)
set_option maxRecDepth 65536 in
theorem w_c4 : (Jvm.Cond.code ({ cls := "com/example/fuller_query/fullerquery/knowledge/ApiTypes$ApiType", name := "<init>", desc := "(Ljava/lang/String;Ljava/lang/String;)V" } : Jvm.MethodName) prog_24_method_1_code (3 : Nat) (Option.none : Option Jvm.ClassFile.FieldType)).before args0 about1 = true := code_word (m := ⟨9, 0⟩) (meth := k9m0) (c := k9c0) (by decide +kernel) rfl rfl rfl (by decide +kernel)
set_option maxRecDepth 65536 in
theorem w_c5 : (Jvm.Cond.code ({ cls := "java/lang/Record", name := "<init>", desc := "()V" } : Jvm.MethodName) jdk_30_method_1_code (1 : Nat) (Option.none : Option Jvm.ClassFile.FieldType)).before args0 about1 = true := code_word (m := ⟨8, 0⟩) (meth := k8m0) (c := k8c0) (by decide +kernel) rfl rfl rfl (by decide +kernel)
set_option maxRecDepth 65536 in
theorem w_c6 : (Jvm.Cond.code ({ cls := "com/example/fuller_query/fullerquery/knowledge/ApiTypes$ApiType", name := "simpleName", desc := "()Ljava/lang/String;" } : Jvm.MethodName) prog_24_method_3_code (1 : Nat) (Option.some (Jvm.ClassFile.FieldType.object "java/lang/String"))).before args0 about1 = true := code_word (m := ⟨9, 1⟩) (meth := k9m1) (c := k9c1) (by decide +kernel) rfl rfl rfl (by decide +kernel)
set_option maxRecDepth 65536 in
theorem w_c7 : (Jvm.Cond.code ({ cls := "java/lang/String", name := "lastIndexOf", desc := "(I)I" } : Jvm.MethodName) jdk_42_method_82_code (2 : Nat) (Option.some Jvm.ClassFile.FieldType.int)).before args0 about1 = true := code_word (m := ⟨7, 4⟩) (meth := k7m4) (c := k7c4) (by decide +kernel) rfl rfl rfl (by decide +kernel)
set_option maxRecDepth 65536 in
theorem w_c8 : (Jvm.Cond.code ({ cls := "java/lang/String", name := "length", desc := "()I" } : Jvm.MethodName) jdk_42_method_54_code (1 : Nat) (Option.some Jvm.ClassFile.FieldType.int)).before args0 about1 = true := code_word (m := ⟨7, 2⟩) (meth := k7m2) (c := k7c2) (by decide +kernel) rfl rfl rfl (by decide +kernel)
set_option maxRecDepth 65536 in
theorem w_c9 : (Jvm.Cond.code ({ cls := "java/lang/String", name := "coder", desc := "()B" } : Jvm.MethodName) jdk_42_method_152_code (1 : Nat) (Option.some Jvm.ClassFile.FieldType.byte)).before args0 about1 = true := code_word (m := ⟨7, 11⟩) (meth := k7m11) (c := k7c11) (by decide +kernel) rfl rfl rfl (by decide +kernel)
set_option maxRecDepth 65536 in
theorem w_c10 : (Jvm.Cond.code ({ cls := "java/lang/String", name := "lastIndexOf", desc := "(II)I" } : Jvm.MethodName) jdk_42_method_83_code (3 : Nat) (Option.some Jvm.ClassFile.FieldType.int)).before args0 about1 = true := code_word (m := ⟨7, 5⟩) (meth := k7m5) (c := k7c5) (by decide +kernel) rfl rfl rfl (by decide +kernel)
set_option maxRecDepth 65536 in
theorem w_c11 : (Jvm.Cond.code ({ cls := "java/lang/String", name := "isLatin1", desc := "()Z" } : Jvm.MethodName) jdk_42_method_154_code (1 : Nat) (Option.some Jvm.ClassFile.FieldType.boolean)).before args0 about1 = true := code_word (m := ⟨7, 12⟩) (meth := k7m12) (c := k7c12) (by decide +kernel) rfl rfl rfl (by decide +kernel)
set_option maxRecDepth 65536 in
theorem w_c12 : (Jvm.Cond.code ({ cls := "java/lang/StringLatin1", name := "lastIndexOf", desc := "([BII)I" } : Jvm.MethodName) jdk_43_method_27_code (4 : Nat) (Option.some Jvm.ClassFile.FieldType.int)).before args0 about1 = true := code_word (m := ⟨10, 4⟩) (meth := k10m4) (c := k10c4) (by decide +kernel) rfl rfl rfl (by decide +kernel)
set_option maxRecDepth 65536 in
theorem w_c13 : (Jvm.Cond.code ({ cls := "java/lang/StringLatin1", name := "canEncode", desc := "(I)Z" } : Jvm.MethodName) jdk_43_method_4_code (1 : Nat) (Option.some Jvm.ClassFile.FieldType.boolean)).before args0 about1 = true := code_word (m := ⟨10, 3⟩) (meth := k10m3) (c := k10c3) (by decide +kernel) rfl rfl rfl (by decide +kernel)
set_option maxRecDepth 65536 in
theorem w_c14 : (Jvm.Cond.code ({ cls := "java/lang/Math", name := "min", desc := "(II)I" } : Jvm.MethodName) jdk_29_method_69_code (2 : Nat) (Option.some Jvm.ClassFile.FieldType.int)).before args0 about1 = true := code_word (m := ⟨11, 1⟩) (meth := k11m1) (c := k11c1) (by decide +kernel) rfl rfl rfl (by decide +kernel)
set_option maxRecDepth 65536 in
theorem w_c15 : (Jvm.Cond.code ({ cls := "java/lang/String", name := "substring", desc := "(I)Ljava/lang/String;" } : Jvm.MethodName) jdk_42_method_91_code (2 : Nat) (Option.some (Jvm.ClassFile.FieldType.object "java/lang/String"))).before args0 about1 = true := code_word (m := ⟨7, 6⟩) (meth := k7m6) (c := k7c6) (by decide +kernel) rfl rfl rfl (by decide +kernel)
set_option maxRecDepth 65536 in
theorem w_c16 : (Jvm.Cond.code ({ cls := "java/lang/String", name := "substring", desc := "(II)Ljava/lang/String;" } : Jvm.MethodName) jdk_42_method_92_code (5 : Nat) (Option.some (Jvm.ClassFile.FieldType.object "java/lang/String"))).before args0 about1 = true := code_word (m := ⟨7, 7⟩) (meth := k7m7) (c := k7c7) (by decide +kernel) rfl rfl rfl (by decide +kernel)
set_option maxRecDepth 65536 in
theorem w_c17 : (Jvm.Cond.code ({ cls := "java/lang/String", name := "checkBoundsBeginEnd", desc := "(III)V" } : Jvm.MethodName) jdk_42_method_158_code (3 : Nat) (Option.none : Option Jvm.ClassFile.FieldType)).before args0 about1 = true := code_word (m := ⟨7, 14⟩) (meth := k7m14) (c := k7c14) (by decide +kernel) rfl rfl rfl (by decide +kernel)
set_option maxRecDepth 65536 in
theorem w_c18 : (Jvm.Cond.code ({ cls := "jdk/internal/util/Preconditions", name := "checkFromToIndex", desc := "(IIILjava/util/function/BiFunction;)I" } : Jvm.MethodName) jdk_41_method_12_code (4 : Nat) (Option.some Jvm.ClassFile.FieldType.int)).before args0 about1 = true := code_word (m := ⟨12, 2⟩) (meth := k12m2) (c := k12c2) (by decide +kernel) rfl rfl rfl (by decide +kernel)
set_option maxRecDepth 65536 in
theorem w_c19 : (Jvm.Cond.code ({ cls := "com/example/fuller_query/fullerquery/knowledge/ApiTypeSimpleNamePinLaw", name := "pick", desc := "(II)C" } : Jvm.MethodName) method_2_code (2 : Nat) (Option.some Jvm.ClassFile.FieldType.char)).before args0 about1 = true := code_word (m := ⟨1, 1⟩) (meth := k1m1) (c := k1c1) (by decide +kernel) rfl rfl rfl (by decide +kernel)
set_option maxRecDepth 65536 in
theorem w_c20 : (Jvm.Cond.code ({ cls := "java/lang/StringUTF16", name := "compress", desc := "([CII)[B" } : Jvm.MethodName) jdk_52_method_16_code (6 : Nat) (Option.some (Jvm.ClassFile.FieldType.array Jvm.ClassFile.FieldType.byte))).before args0 about1 = true := code_word (m := ⟨13, 2⟩) (meth := k13m2) (c := k13c2) (by decide +kernel) rfl rfl rfl (by decide +kernel)
set_option maxRecDepth 65536 in
theorem w_c21 : (Jvm.Cond.code ({ cls := "java/lang/StringUTF16", name := "compress", desc := "([CI[BII)I" } : Jvm.MethodName) jdk_52_method_21_code (7 : Nat) (Option.some Jvm.ClassFile.FieldType.int)).before args0 about1 = true := code_word (m := ⟨13, 3⟩) (meth := k13m3) (c := k13c3) (by decide +kernel) rfl rfl rfl (by decide +kernel)
set_option maxRecDepth 65536 in
theorem w_c22 : (Jvm.Cond.code ({ cls := "java/lang/StringUTF16", name := "coderFromArrayLen", desc := "([BI)B" } : Jvm.MethodName) jdk_52_method_15_code (2 : Nat) (Option.some Jvm.ClassFile.FieldType.byte)).before args0 about1 = true := code_word (m := ⟨13, 1⟩) (meth := k13m1) (c := k13c1) (by decide +kernel) rfl rfl rfl (by decide +kernel)
set_option maxRecDepth 65536 in
theorem w_c23 : (Jvm.Cond.code ({ cls := "java/lang/String", name := "valueOf", desc := "(C)Ljava/lang/String;" } : Jvm.MethodName) jdk_42_method_139_code (1 : Nat) (Option.some (Jvm.ClassFile.FieldType.object "java/lang/String"))).before args0 about1 = true := code_word (m := ⟨7, 8⟩) (meth := k7m8) (c := k7c8) (by decide +kernel) rfl rfl rfl (by decide +kernel)
set_option maxRecDepth 65536 in
theorem w_c24 : (Jvm.Cond.code ({ cls := "java/lang/StringLatin1", name := "canEncode", desc := "(C)Z" } : Jvm.MethodName) jdk_43_method_3_code (1 : Nat) (Option.some Jvm.ClassFile.FieldType.boolean)).before args0 about1 = true := code_word (m := ⟨10, 2⟩) (meth := k10m2) (c := k10c2) (by decide +kernel) rfl rfl rfl (by decide +kernel)
set_option maxRecDepth 65536 in
theorem w_c25 : (Jvm.Cond.code ({ cls := "java/lang/StringLatin1", name := "toBytes", desc := "(C)[B" } : Jvm.MethodName) jdk_43_method_46_code (1 : Nat) (Option.some (Jvm.ClassFile.FieldType.array Jvm.ClassFile.FieldType.byte))).before args0 about1 = true := code_word (m := ⟨10, 5⟩) (meth := k10m5) (c := k10c5) (by decide +kernel) rfl rfl rfl (by decide +kernel)
set_option maxRecDepth 65536 in
theorem w_c26 : (Jvm.Cond.code ({ cls := "java/lang/String", name := "<init>", desc := "([BB)V" } : Jvm.MethodName) jdk_42_method_151_code (3 : Nat) (Option.none : Option Jvm.ClassFile.FieldType)).before args0 about1 = true := code_word (m := ⟨7, 10⟩) (meth := k7m10) (c := k7c10) (by decide +kernel) rfl rfl rfl (by decide +kernel)
set_option maxRecDepth 65536 in
theorem w_c27 : (Jvm.Cond.code ({ cls := "java/lang/StringLatin1", name := "newString", desc := "([BII)Ljava/lang/String;" } : Jvm.MethodName) jdk_43_method_47_code (3 : Nat) (Option.some (Jvm.ClassFile.FieldType.object "java/lang/String"))).before args0 about1 = true := code_word (m := ⟨10, 6⟩) (meth := k10m6) (c := k10c6) (by decide +kernel) rfl rfl rfl (by decide +kernel)
set_option maxRecDepth 65536 in
theorem w_c28 : (Jvm.Cond.code ({ cls := "java/util/Arrays", name := "copyOfRange", desc := "([BII)[B" } : Jvm.MethodName) jdk_65_method_132_code (3 : Nat) (Option.some (Jvm.ClassFile.FieldType.array Jvm.ClassFile.FieldType.byte))).before args0 about1 = true := code_word (m := ⟨14, 2⟩) (meth := k14m2) (c := k14c2) (by decide +kernel) rfl rfl rfl (by decide +kernel)
set_option maxRecDepth 65536 in
theorem w_c29 : (Jvm.Cond.code ({ cls := "java/util/Arrays", name := "copyOfRangeByte", desc := "([BII)[B" } : Jvm.MethodName) jdk_65_method_133_code (5 : Nat) (Option.some (Jvm.ClassFile.FieldType.array Jvm.ClassFile.FieldType.byte))).before args0 about1 = true := code_word (m := ⟨14, 3⟩) (meth := k14m3) (c := k14c3) (by decide +kernel) rfl rfl rfl (by decide +kernel)
set_option maxRecDepth 65536 in
theorem w_c30 : (Jvm.Cond.code ({ cls := "java/util/Arrays", name := "checkLength", desc := "(II)V" } : Jvm.MethodName) jdk_65_method_131_code (2 : Nat) (Option.none : Option Jvm.ClassFile.FieldType)).before args0 about1 = true := code_word (m := ⟨14, 1⟩) (meth := k14m1) (c := k14c1) (by decide +kernel) rfl rfl rfl (by decide +kernel)
set_option maxRecDepth 65536 in
theorem w_c31 : (Jvm.Cond.code ({ cls := "java/lang/String", name := "charAt", desc := "(I)C" } : Jvm.MethodName) jdk_42_method_56_code (2 : Nat) (Option.some Jvm.ClassFile.FieldType.char)).before args0 about1 = true := code_word (m := ⟨7, 3⟩) (meth := k7m3) (c := k7c3) (by decide +kernel) rfl rfl rfl (by decide +kernel)
set_option maxRecDepth 65536 in
theorem w_c32 : (Jvm.Cond.code ({ cls := "java/lang/StringLatin1", name := "charAt", desc := "([BI)C" } : Jvm.MethodName) jdk_43_method_2_code (2 : Nat) (Option.some Jvm.ClassFile.FieldType.char)).before args0 about1 = true := code_word (m := ⟨10, 1⟩) (meth := k10m1) (c := k10c1) (by decide +kernel) rfl rfl rfl (by decide +kernel)
set_option maxRecDepth 65536 in
theorem w_c33 : (Jvm.Cond.code ({ cls := "java/lang/String", name := "checkIndex", desc := "(II)V" } : Jvm.MethodName) jdk_42_method_155_code (2 : Nat) (Option.none : Option Jvm.ClassFile.FieldType)).before args0 about1 = true := code_word (m := ⟨7, 13⟩) (meth := k7m13) (c := k7c13) (by decide +kernel) rfl rfl rfl (by decide +kernel)
set_option maxRecDepth 65536 in
theorem w_c34 : (Jvm.Cond.code ({ cls := "jdk/internal/util/Preconditions", name := "checkIndex", desc := "(IILjava/util/function/BiFunction;)I" } : Jvm.MethodName) jdk_41_method_11_code (3 : Nat) (Option.some Jvm.ClassFile.FieldType.int)).before args0 about1 = true := code_word (m := ⟨12, 1⟩) (meth := k12m1) (c := k12c1) (by decide +kernel) rfl rfl rfl (by decide +kernel)
def codes1 : List Jvm.Cond := [Jvm.Cond.code x code maxLocals ret, Jvm.Cond.code ({ cls := "java/lang/String", name := "<init>", desc := "([C)V" } : Jvm.MethodName) jdk_42_method_3_code (2 : Nat) (Option.none : Option Jvm.ClassFile.FieldType), Jvm.Cond.code ({ cls := "java/lang/String", name := "<init>", desc := "([CIILjava/lang/Void;)V" } : Jvm.MethodName) jdk_42_method_149_code (6 : Nat) (Option.none : Option Jvm.ClassFile.FieldType), Jvm.Cond.code ({ cls := "java/lang/Object", name := "<init>", desc := "()V" } : Jvm.MethodName) object_method_1_code (1 : Nat) (Option.none : Option Jvm.ClassFile.FieldType), Jvm.Cond.code ({ cls := "com/example/fuller_query/fullerquery/knowledge/ApiTypes$ApiType", name := "<init>", desc := "(Ljava/lang/String;Ljava/lang/String;)V" } : Jvm.MethodName) prog_24_method_1_code (3 : Nat) (Option.none : Option Jvm.ClassFile.FieldType), Jvm.Cond.code ({ cls := "java/lang/Record", name := "<init>", desc := "()V" } : Jvm.MethodName) jdk_30_method_1_code (1 : Nat) (Option.none : Option Jvm.ClassFile.FieldType), Jvm.Cond.code ({ cls := "com/example/fuller_query/fullerquery/knowledge/ApiTypes$ApiType", name := "simpleName", desc := "()Ljava/lang/String;" } : Jvm.MethodName) prog_24_method_3_code (1 : Nat) (Option.some (Jvm.ClassFile.FieldType.object "java/lang/String")), Jvm.Cond.code ({ cls := "java/lang/String", name := "lastIndexOf", desc := "(I)I" } : Jvm.MethodName) jdk_42_method_82_code (2 : Nat) (Option.some Jvm.ClassFile.FieldType.int), Jvm.Cond.code ({ cls := "java/lang/String", name := "length", desc := "()I" } : Jvm.MethodName) jdk_42_method_54_code (1 : Nat) (Option.some Jvm.ClassFile.FieldType.int), Jvm.Cond.code ({ cls := "java/lang/String", name := "coder", desc := "()B" } : Jvm.MethodName) jdk_42_method_152_code (1 : Nat) (Option.some Jvm.ClassFile.FieldType.byte), Jvm.Cond.code ({ cls := "java/lang/String", name := "lastIndexOf", desc := "(II)I" } : Jvm.MethodName) jdk_42_method_83_code (3 : Nat) (Option.some Jvm.ClassFile.FieldType.int), Jvm.Cond.code ({ cls := "java/lang/String", name := "isLatin1", desc := "()Z" } : Jvm.MethodName) jdk_42_method_154_code (1 : Nat) (Option.some Jvm.ClassFile.FieldType.boolean), Jvm.Cond.code ({ cls := "java/lang/StringLatin1", name := "lastIndexOf", desc := "([BII)I" } : Jvm.MethodName) jdk_43_method_27_code (4 : Nat) (Option.some Jvm.ClassFile.FieldType.int), Jvm.Cond.code ({ cls := "java/lang/StringLatin1", name := "canEncode", desc := "(I)Z" } : Jvm.MethodName) jdk_43_method_4_code (1 : Nat) (Option.some Jvm.ClassFile.FieldType.boolean), Jvm.Cond.code ({ cls := "java/lang/Math", name := "min", desc := "(II)I" } : Jvm.MethodName) jdk_29_method_69_code (2 : Nat) (Option.some Jvm.ClassFile.FieldType.int), Jvm.Cond.code ({ cls := "java/lang/String", name := "substring", desc := "(I)Ljava/lang/String;" } : Jvm.MethodName) jdk_42_method_91_code (2 : Nat) (Option.some (Jvm.ClassFile.FieldType.object "java/lang/String")), Jvm.Cond.code ({ cls := "java/lang/String", name := "substring", desc := "(II)Ljava/lang/String;" } : Jvm.MethodName) jdk_42_method_92_code (5 : Nat) (Option.some (Jvm.ClassFile.FieldType.object "java/lang/String")), Jvm.Cond.code ({ cls := "java/lang/String", name := "checkBoundsBeginEnd", desc := "(III)V" } : Jvm.MethodName) jdk_42_method_158_code (3 : Nat) (Option.none : Option Jvm.ClassFile.FieldType), Jvm.Cond.code ({ cls := "jdk/internal/util/Preconditions", name := "checkFromToIndex", desc := "(IIILjava/util/function/BiFunction;)I" } : Jvm.MethodName) jdk_41_method_12_code (4 : Nat) (Option.some Jvm.ClassFile.FieldType.int), Jvm.Cond.code ({ cls := "com/example/fuller_query/fullerquery/knowledge/ApiTypeSimpleNamePinLaw", name := "pick", desc := "(II)C" } : Jvm.MethodName) method_2_code (2 : Nat) (Option.some Jvm.ClassFile.FieldType.char), Jvm.Cond.code ({ cls := "java/lang/StringUTF16", name := "compress", desc := "([CII)[B" } : Jvm.MethodName) jdk_52_method_16_code (6 : Nat) (Option.some (Jvm.ClassFile.FieldType.array Jvm.ClassFile.FieldType.byte)), Jvm.Cond.code ({ cls := "java/lang/StringUTF16", name := "compress", desc := "([CI[BII)I" } : Jvm.MethodName) jdk_52_method_21_code (7 : Nat) (Option.some Jvm.ClassFile.FieldType.int), Jvm.Cond.code ({ cls := "java/lang/StringUTF16", name := "coderFromArrayLen", desc := "([BI)B" } : Jvm.MethodName) jdk_52_method_15_code (2 : Nat) (Option.some Jvm.ClassFile.FieldType.byte), Jvm.Cond.code ({ cls := "java/lang/String", name := "valueOf", desc := "(C)Ljava/lang/String;" } : Jvm.MethodName) jdk_42_method_139_code (1 : Nat) (Option.some (Jvm.ClassFile.FieldType.object "java/lang/String")), Jvm.Cond.code ({ cls := "java/lang/StringLatin1", name := "canEncode", desc := "(C)Z" } : Jvm.MethodName) jdk_43_method_3_code (1 : Nat) (Option.some Jvm.ClassFile.FieldType.boolean), Jvm.Cond.code ({ cls := "java/lang/StringLatin1", name := "toBytes", desc := "(C)[B" } : Jvm.MethodName) jdk_43_method_46_code (1 : Nat) (Option.some (Jvm.ClassFile.FieldType.array Jvm.ClassFile.FieldType.byte)), Jvm.Cond.code ({ cls := "java/lang/String", name := "<init>", desc := "([BB)V" } : Jvm.MethodName) jdk_42_method_151_code (3 : Nat) (Option.none : Option Jvm.ClassFile.FieldType), Jvm.Cond.code ({ cls := "java/lang/StringLatin1", name := "newString", desc := "([BII)Ljava/lang/String;" } : Jvm.MethodName) jdk_43_method_47_code (3 : Nat) (Option.some (Jvm.ClassFile.FieldType.object "java/lang/String")), Jvm.Cond.code ({ cls := "java/util/Arrays", name := "copyOfRange", desc := "([BII)[B" } : Jvm.MethodName) jdk_65_method_132_code (3 : Nat) (Option.some (Jvm.ClassFile.FieldType.array Jvm.ClassFile.FieldType.byte)), Jvm.Cond.code ({ cls := "java/util/Arrays", name := "copyOfRangeByte", desc := "([BII)[B" } : Jvm.MethodName) jdk_65_method_133_code (5 : Nat) (Option.some (Jvm.ClassFile.FieldType.array Jvm.ClassFile.FieldType.byte)), Jvm.Cond.code ({ cls := "java/util/Arrays", name := "checkLength", desc := "(II)V" } : Jvm.MethodName) jdk_65_method_131_code (2 : Nat) (Option.none : Option Jvm.ClassFile.FieldType), Jvm.Cond.code ({ cls := "java/lang/String", name := "charAt", desc := "(I)C" } : Jvm.MethodName) jdk_42_method_56_code (2 : Nat) (Option.some Jvm.ClassFile.FieldType.char), Jvm.Cond.code ({ cls := "java/lang/StringLatin1", name := "charAt", desc := "([BI)C" } : Jvm.MethodName) jdk_43_method_2_code (2 : Nat) (Option.some Jvm.ClassFile.FieldType.char), Jvm.Cond.code ({ cls := "java/lang/String", name := "checkIndex", desc := "(II)V" } : Jvm.MethodName) jdk_42_method_155_code (2 : Nat) (Option.none : Option Jvm.ClassFile.FieldType), Jvm.Cond.code ({ cls := "jdk/internal/util/Preconditions", name := "checkIndex", desc := "(IILjava/util/function/BiFunction;)I" } : Jvm.MethodName) jdk_41_method_11_code (3 : Nat) (Option.some Jvm.ClassFile.FieldType.int)]
set_option maxRecDepth 65536 in
theorem codes_eq : words1.filter isCode = codes1 := rfl
theorem w_codes : ∀ c ∈ words1.filter isCode, c.before args0 about1 = true := by
  rw [codes_eq]
  intro c hc
  simp only [codes1, List.mem_cons, List.not_mem_nil, or_false] at hc
  rcases hc with rfl | rfl | rfl | rfl | rfl | rfl | rfl | rfl | rfl | rfl | rfl | rfl | rfl | rfl | rfl | rfl | rfl | rfl | rfl | rfl | rfl | rfl | rfl | rfl | rfl | rfl | rfl | rfl | rfl | rfl | rfl | rfl | rfl | rfl | rfl
  · exact w_c0
  · exact w_c1
  · exact w_c2
  · exact w_c3
  · exact w_c4
  · exact w_c5
  · exact w_c6
  · exact w_c7
  · exact w_c8
  · exact w_c9
  · exact w_c10
  · exact w_c11
  · exact w_c12
  · exact w_c13
  · exact w_c14
  · exact w_c15
  · exact w_c16
  · exact w_c17
  · exact w_c18
  · exact w_c19
  · exact w_c20
  · exact w_c21
  · exact w_c22
  · exact w_c23
  · exact w_c24
  · exact w_c25
  · exact w_c26
  · exact w_c27
  · exact w_c28
  · exact w_c29
  · exact w_c30
  · exact w_c31
  · exact w_c32
  · exact w_c33
  · exact w_c34
set_option maxRecDepth 65536 in
theorem w_t1 : (words1.take 24).all (fun c => isCode c || c.before args0 about1) = true := by decide +kernel
set_option maxRecDepth 65536 in
theorem w_t2 : ((words1.drop 24).take 24).all (fun c => isCode c || c.before args0 about1) = true := by decide +kernel
set_option maxRecDepth 65536 in
theorem w_t3 : (((words1.drop 24).drop 24).take 24).all (fun c => isCode c || c.before args0 about1) = true := by decide +kernel
set_option maxRecDepth 65536 in
theorem w_t4 : ((((words1.drop 24).drop 24).drop 24).take 24).all (fun c => isCode c || c.before args0 about1) = true := by decide +kernel
set_option maxRecDepth 65536 in
theorem w_t5 : (((((words1.drop 24).drop 24).drop 24).drop 24).take 24).all (fun c => isCode c || c.before args0 about1) = true := by decide +kernel
set_option maxRecDepth 65536 in
theorem w_t6 : ((((((words1.drop 24).drop 24).drop 24).drop 24).drop 24).take 24).all (fun c => isCode c || c.before args0 about1) = true := by decide +kernel
set_option maxRecDepth 65536 in
theorem w_t7 : ((((((words1.drop 24).drop 24).drop 24).drop 24).drop 24).drop 24).all (fun c => isCode c || c.before args0 about1) = true := by decide +kernel
theorem w_tables : (allAtoms (Jvm.Cond.code x code maxLocals ret :: tables_1)).before args0 about1 = true := by
  rw [allAtoms_all]
  show words1.all (fun c => c.before args0 about1) = true
  refine all_split ?_ w_codes
  rw [← List.take_append_drop 24 words1, List.all_append, w_t1, ← List.take_append_drop 24 (words1.drop 24), List.all_append, w_t2, ← List.take_append_drop 24 ((words1.drop 24).drop 24), List.all_append, w_t3, ← List.take_append_drop 24 (((words1.drop 24).drop 24).drop 24), List.all_append, w_t4, ← List.take_append_drop 24 ((((words1.drop 24).drop 24).drop 24).drop 24), List.all_append, w_t5, ← List.take_append_drop 24 (((((words1.drop 24).drop 24).drop 24).drop 24).drop 24), List.all_append, w_t6, w_t7]
  rfl
set_option maxRecDepth 65536 in
theorem w_rest : rest_1_c.before args0 about1 = true := by decide +kernel
set_option maxRecDepth 65536 in
theorem w_case : (Jvm.Cond.and given_1 narrow_1).before args0 about1 = true := by decide +kernel
set_option maxRecDepth 65536 in
theorem w_consts : constsHeld consts_1 about1 := Jvm.Lit.constsHeldB_iff.mp (by decide +kernel)
theorem w_applies : (headSpec (Jvm.Cond.code x code maxLocals ret :: tables_1) room_1).applies x e0.platform about1 = true :=
  (Spec.applies_iff w_frames).mpr ⟨w_running, w_runnable, w_alone, w_named, w_hears, w_ripe, w_room, w_tables⟩
theorem atStart : AtStart classFile x code maxLocals ret World_1 tables_1 room_1 Calls_1 rest_1 Pre_1 launch0 p0 e0 about1 theMethod args0 below0 :=
  ⟨lists_1, trivial, launch0.admits_env _ _ _, launch0.least_env, fairChoices_fair.cas, fairChoices_fair.clock, w_frames, w_args, w_heap, w_applies, ⟨w_consts, trivial⟩, w_rest, w_case⟩
end start1
theorem witness_1 : WitnessClaimed_1 := ⟨start1.p0, start1.e0, start1.about1, start1.theMethod, start1.args0, start1.below0, start1.atStart⟩
end Jvm.Pilot.@@N@@
