import JvmDerived
import JvmDerived.Pilot.@@N@@Statement
import JvmDerived.Pilot.@@N@@Code
set_option linter.unusedVariables false
set_option linter.unusedSimpArgs false
@@BLOCK:NumsL.lean.txt@@
namespace Jvm.Own
open Jvm Jvm.ClassFile Sem Op Lib Jvm.Free Jvm.Stand Jvm.LawKit Jvm.RoadKit
/-- from A the run comes to the invocation's end, where P holds -/
def Go (p : Program) (e : Env) (below : List Frame) (P : Outcome → State → Prop) (A : State) : Prop := ∃ s₂ o, Steps p.tables e below A s₂ ∧ s₂.status = .running ∧ Ended s₂ below o ∧ P o s₂
def Gf (p : Program) (e : Env) (below : List Frame) (P : Outcome → State → Prop) (T : State) (m : MethodId) (pc : Nat) (Ls : Array Slot) (st : List Value) : Prop := Go p e below P (T.setTop (mkF m pc Ls st))
theorem Go.step {p : Program} {e : Env} {below : List Frame} {P : Outcome → State → Prop} {A B : State} (h : ∀ t, Steps p.tables e below B t → Steps p.tables e below A t) (g : Go p e below P B) : Go p e below P A := by
  obtain ⟨s2, o, h1, h2⟩ := g
  exact ⟨s2, o, h _ h1, h2⟩
section Steps1
variable {p : Program} {l : Launch} {e : Env} {R : Room} {s : State} {m : MethodId} {args : Array Value} {below : List Frame} {meth : Method} {c : Code} {T : State} {locs : List Loc} {cells slots : Nat} {P : Outcome → State → Prop} {code : ByteArray} {pc pc' : Nat} {Ls Ls' : Array Slot} {st st' : List Value}
theorem g_iloadN (X : Stand p l e R s m args below meth c T locs cells slots) (hx : p.tables.exec = Jvm.exec) (hby : c.code = code) {k : Fin 4} {v : Int32} (hd : decode code pc = .ok (.iload_n k, 1)) (hl : Ls[k.val]? = some (.val (.int v))) (hp : pc + 1 = pc') (g : Gf p e below P T m pc' Ls (.int v :: st)) : Gf p e below P T m pc Ls st := by
  subst hp
  exact Go.step (fun t k => XS.iloadN X.here hx rfl (hb hby hd) hl k) g
theorem g_iload (X : Stand p l e R s m args below meth c T locs cells slots) (hx : p.tables.exec = Jvm.exec) (hby : c.code = code) {k : Nat} {v : Int32} (hd : decode code pc = .ok (.iload k, 2)) (hl : Ls[k]? = some (.val (.int v))) (hp : pc + 2 = pc') (g : Gf p e below P T m pc' Ls (.int v :: st)) : Gf p e below P T m pc Ls st := by
  subst hp
  exact Go.step (fun t k => XS.iload X.here hx rfl (hb hby hd) hl k) g
theorem g_istoreN (X : Stand p l e R s m args below meth c T locs cells slots) (hx : p.tables.exec = Jvm.exec) (hby : c.code = code) {k : Fin 4} {v : Int32} (hd : decode code pc = .ok (.istore_n k, 1)) (hst : st = .int v :: st') (hl : storeLocals Ls k.val (.int v) = some Ls') (hp : pc + 1 = pc') (g : Gf p e below P T m pc' Ls' st') : Gf p e below P T m pc Ls st := by
  subst hp hst
  exact Go.step (fun t k => XS.istoreN X.here hx rfl (hb hby hd) rfl hl k) g
theorem g_istore (X : Stand p l e R s m args below meth c T locs cells slots) (hx : p.tables.exec = Jvm.exec) (hby : c.code = code) {k : Nat} {v : Int32} (hd : decode code pc = .ok (.istore k, 2)) (hst : st = .int v :: st') (hl : storeLocals Ls k (.int v) = some Ls') (hp : pc + 2 = pc') (g : Gf p e below P T m pc' Ls' st') : Gf p e below P T m pc Ls st := by
  subst hp hst
  exact Go.step (fun t k => XS.istore X.here hx rfl (hb hby hd) rfl hl k) g
theorem g_lloadN (X : Stand p l e R s m args below meth c T locs cells slots) (hx : p.tables.exec = Jvm.exec) (hby : c.code = code) {k : Fin 4} {v : Int64} (hd : decode code pc = .ok (.lload_n k, 1)) (hl : Ls[k.val]? = some (.val (.long v))) (hp : pc + 1 = pc') (g : Gf p e below P T m pc' Ls (.long v :: st)) : Gf p e below P T m pc Ls st := by
  subst hp
  exact Go.step (fun t k => XS.lloadN X.here hx rfl (hb hby hd) hl k) g
theorem g_lload (X : Stand p l e R s m args below meth c T locs cells slots) (hx : p.tables.exec = Jvm.exec) (hby : c.code = code) {k : Nat} {v : Int64} (hd : decode code pc = .ok (.lload k, 2)) (hl : Ls[k]? = some (.val (.long v))) (hp : pc + 2 = pc') (g : Gf p e below P T m pc' Ls (.long v :: st)) : Gf p e below P T m pc Ls st := by
  subst hp
  exact Go.step (fun t k => XS.lload X.here hx rfl (hb hby hd) hl k) g
theorem g_lstoreN (X : Stand p l e R s m args below meth c T locs cells slots) (hx : p.tables.exec = Jvm.exec) (hby : c.code = code) {k : Fin 4} {v : Int64} (hd : decode code pc = .ok (.lstore_n k, 1)) (hst : st = .long v :: st') (hl : storeLocals Ls k.val (.long v) = some Ls') (hp : pc + 1 = pc') (g : Gf p e below P T m pc' Ls' st') : Gf p e below P T m pc Ls st := by
  subst hp hst
  exact Go.step (fun t k => XS.lstoreN X.here hx rfl (hb hby hd) rfl hl k) g
theorem g_lstore (X : Stand p l e R s m args below meth c T locs cells slots) (hx : p.tables.exec = Jvm.exec) (hby : c.code = code) {k : Nat} {v : Int64} (hd : decode code pc = .ok (.lstore k, 2)) (hst : st = .long v :: st') (hl : storeLocals Ls k (.long v) = some Ls') (hp : pc + 2 = pc') (g : Gf p e below P T m pc' Ls' st') : Gf p e below P T m pc Ls st := by
  subst hp hst
  exact Go.step (fun t k => XS.lstore X.here hx rfl (hb hby hd) rfl hl k) g
theorem g_dloadN (X : Stand p l e R s m args below meth c T locs cells slots) (hx : p.tables.exec = Jvm.exec) (hby : c.code = code) {k : Fin 4} {v : UInt64} (hd : decode code pc = .ok (.dload_n k, 1)) (hl : Ls[k.val]? = some (.val (.double v))) (hp : pc + 1 = pc') (g : Gf p e below P T m pc' Ls (.double v :: st)) : Gf p e below P T m pc Ls st := by
  subst hp
  exact Go.step (fun t k => XS.dloadN X.here hx rfl (hb hby hd) hl k) g
theorem g_dload (X : Stand p l e R s m args below meth c T locs cells slots) (hx : p.tables.exec = Jvm.exec) (hby : c.code = code) {k : Nat} {v : UInt64} (hd : decode code pc = .ok (.dload k, 2)) (hl : Ls[k]? = some (.val (.double v))) (hp : pc + 2 = pc') (g : Gf p e below P T m pc' Ls (.double v :: st)) : Gf p e below P T m pc Ls st := by
  subst hp
  exact Go.step (fun t k => XS.dload X.here hx rfl (hb hby hd) hl k) g
theorem g_dstoreN (X : Stand p l e R s m args below meth c T locs cells slots) (hx : p.tables.exec = Jvm.exec) (hby : c.code = code) {k : Fin 4} {v : UInt64} (hd : decode code pc = .ok (.dstore_n k, 1)) (hst : st = .double v :: st') (hl : storeLocals Ls k.val (.double v) = some Ls') (hp : pc + 1 = pc') (g : Gf p e below P T m pc' Ls' st') : Gf p e below P T m pc Ls st := by
  subst hp hst
  exact Go.step (fun t k => XS.dstoreN X.here hx rfl (hb hby hd) rfl hl k) g
theorem g_dstore (X : Stand p l e R s m args below meth c T locs cells slots) (hx : p.tables.exec = Jvm.exec) (hby : c.code = code) {k : Nat} {v : UInt64} (hd : decode code pc = .ok (.dstore k, 2)) (hst : st = .double v :: st') (hl : storeLocals Ls k (.double v) = some Ls') (hp : pc + 2 = pc') (g : Gf p e below P T m pc' Ls' st') : Gf p e below P T m pc Ls st := by
  subst hp hst
  exact Go.step (fun t k => XS.dstore X.here hx rfl (hb hby hd) rfl hl k) g
theorem g_aloadN (X : Stand p l e R s m args below meth c T locs cells slots) (hx : p.tables.exec = Jvm.exec) (hby : c.code = code) {k : Fin 4} {v : Value} (hd : decode code pc = .ok (.aload_n k, 1)) (hl : Ls[k.val]? = some (.val v)) (hv : v.isRef = true) (hp : pc + 1 = pc') (g : Gf p e below P T m pc' Ls (v :: st)) : Gf p e below P T m pc Ls st := by
  subst hp
  exact Go.step (fun t k => XS.aloadN X.here hx rfl (hb hby hd) hl hv k) g
theorem g_aload (X : Stand p l e R s m args below meth c T locs cells slots) (hx : p.tables.exec = Jvm.exec) (hby : c.code = code) {k : Nat} {v : Value} (hd : decode code pc = .ok (.aload k, 2)) (hl : Ls[k]? = some (.val v)) (hv : v.isRef = true) (hp : pc + 2 = pc') (g : Gf p e below P T m pc' Ls (v :: st)) : Gf p e below P T m pc Ls st := by
  subst hp
  exact Go.step (fun t k => XS.aload X.here hx rfl (hb hby hd) hl hv k) g
theorem g_astoreN (X : Stand p l e R s m args below meth c T locs cells slots) (hx : p.tables.exec = Jvm.exec) (hby : c.code = code) {k : Fin 4} {v : Value} (hd : decode code pc = .ok (.astore_n k, 1)) (hst : st = v :: st') (hv : v.isRef = true) (hl : storeLocals Ls k.val v = some Ls') (hp : pc + 1 = pc') (g : Gf p e below P T m pc' Ls' st') : Gf p e below P T m pc Ls st := by
  subst hp hst
  exact Go.step (fun t k => XS.astoreN X.here hx rfl (hb hby hd) rfl hv hl k) g
theorem g_astore (X : Stand p l e R s m args below meth c T locs cells slots) (hx : p.tables.exec = Jvm.exec) (hby : c.code = code) {k : Nat} {v : Value} (hd : decode code pc = .ok (.astore k, 2)) (hst : st = v :: st') (hv : v.isRef = true) (hl : storeLocals Ls k v = some Ls') (hp : pc + 2 = pc') (g : Gf p e below P T m pc' Ls' st') : Gf p e below P T m pc Ls st := by
  subst hp hst
  exact Go.step (fun t k => XS.astore X.here hx rfl (hb hby hd) rfl hv hl k) g
theorem g_iconst (X : Stand p l e R s m args below meth c T locs cells slots) (hx : p.tables.exec = Jvm.exec) (hby : c.code = code) {i : Int} {v : Int32} (hd : decode code pc = .ok (.iconst i, 1)) (hv : Int32.ofInt i = v) (hp : pc + 1 = pc') (g : Gf p e below P T m pc' Ls (.int v :: st)) : Gf p e below P T m pc Ls st := by
  subst hp
  exact Go.step (fun t k => XS.iconst X.here hx rfl (hb hby hd) (by subst hv; exact k)) g
theorem g_bipush (X : Stand p l e R s m args below meth c T locs cells slots) (hx : p.tables.exec = Jvm.exec) (hby : c.code = code) {i : Int} {v : Int32} (hd : decode code pc = .ok (.bipush i, 2)) (hv : (Int8.ofInt i).toInt32 = v) (hp : pc + 2 = pc') (g : Gf p e below P T m pc' Ls (.int v :: st)) : Gf p e below P T m pc Ls st := by
  subst hp
  exact Go.step (fun t k => XS.bipush X.here hx rfl (hb hby hd) (by subst hv; exact k)) g
theorem g_sipush (X : Stand p l e R s m args below meth c T locs cells slots) (hx : p.tables.exec = Jvm.exec) (hby : c.code = code) {i : Int} {v : Int32} (hd : decode code pc = .ok (.sipush i, 3)) (hv : (Int16.ofInt i).toInt32 = v) (hp : pc + 3 = pc') (g : Gf p e below P T m pc' Ls (.int v :: st)) : Gf p e below P T m pc Ls st := by
  subst hp
  exact Go.step (fun t k => XS.sipush X.here hx rfl (hb hby hd) (by subst hv; exact k)) g
theorem g_lconst (X : Stand p l e R s m args below meth c T locs cells slots) (hx : p.tables.exec = Jvm.exec) (hby : c.code = code) {i : Fin 2} {v : Int64} (hd : decode code pc = .ok (.lconst i, 1)) (hv : Int64.ofInt i.val = v) (hp : pc + 1 = pc') (g : Gf p e below P T m pc' Ls (.long v :: st)) : Gf p e below P T m pc Ls st := by
  subst hp
  exact Go.step (fun t k => XS.lconst X.here hx rfl (hb hby hd) (by subst hv; exact k)) g
theorem g_dconst0 (X : Stand p l e R s m args below meth c T locs cells slots) (hx : p.tables.exec = Jvm.exec) (hby : c.code = code) {v : UInt64} (hd : decode code pc = .ok (.dconst 0, 1)) (hv : FP.dconst0 = v) (hp : pc + 1 = pc') (g : Gf p e below P T m pc' Ls (.double v :: st)) : Gf p e below P T m pc Ls st := by
  subst hp
  exact Go.step (fun t k => XS.dconst0 X.here hx rfl (hb hby hd) hv k) g
theorem g_dconst1 (X : Stand p l e R s m args below meth c T locs cells slots) (hx : p.tables.exec = Jvm.exec) (hby : c.code = code) {v : UInt64} (hd : decode code pc = .ok (.dconst 1, 1)) (hv : FP.dconst1 = v) (hp : pc + 1 = pc') (g : Gf p e below P T m pc' Ls (.double v :: st)) : Gf p e below P T m pc Ls st := by
  subst hp
  exact Go.step (fun t k => XS.dconst1 X.here hx rfl (hb hby hd) hv k) g
theorem g_aconst_null (X : Stand p l e R s m args below meth c T locs cells slots) (hx : p.tables.exec = Jvm.exec) (hby : c.code = code)  (hd : decode code pc = .ok (.aconst_null, 1)) (hp : pc + 1 = pc') (g : Gf p e below P T m pc' Ls (.null :: st)) : Gf p e below P T m pc Ls st := by
  subst hp
  exact Go.step (fun t k => XS.aconstNull X.here hx rfl (hb hby hd) k) g
theorem g_ldcI (X : Stand p l e R s m args below meth c T locs cells slots) (hx : p.tables.exec = Jvm.exec) (hby : c.code = code) {own : String} {a0 : Array Value} {Z : State} (hZ : Z.Warmed39 s.vm) (hown : s.vm.findClass own = some m.cls) {i : Nat} {v : Int32} (w : (Cond.constant own i v).before a0 Z = true) (hd : decode code pc = .ok (.ldc i, 2)) (hp : pc + 2 = pc') (g : Gf p e below P T m pc' Ls (.int v :: st)) : Gf p e below P T m pc Ls st := by
  subst hp
  exact Go.step (fun t k => X.ldcInt hx hown (mvT hZ w) (g := mkF m pc Ls st) rfl (hb hby hd) t k) g
theorem g_ldcJ (X : Stand p l e R s m args below meth c T locs cells slots) (hx : p.tables.exec = Jvm.exec) (hby : c.code = code) {own : String} {a0 : Array Value} {Z : State} (hZ : Z.Warmed39 s.vm) (hown : s.vm.findClass own = some m.cls) {i : Nat} {v : Int64} (w : (Cond.constantLong own i v).before a0 Z = true) (hd : decode code pc = .ok (.ldc2_w i, 3)) (hp : pc + 3 = pc') (g : Gf p e below P T m pc' Ls (.long v :: st)) : Gf p e below P T m pc Ls st := by
  subst hp
  exact Go.step (fun t k => X.ldc2Long hx hown (mvT hZ w) (g := mkF m pc Ls st) rfl (hb hby hd) t k) g
theorem g_ldcD (X : Stand p l e R s m args below meth c T locs cells slots) (hx : p.tables.exec = Jvm.exec) (hby : c.code = code) {own : String} {a0 : Array Value} {Z : State} (hZ : Z.Warmed39 s.vm) (hown : s.vm.findClass own = some m.cls) {i : Nat} {v : UInt64} (w : (Cond.constantDouble own i v).before a0 Z = true) (hd : decode code pc = .ok (.ldc2_w i, 3)) (hp : pc + 3 = pc') (g : Gf p e below P T m pc' Ls (.double v :: st)) : Gf p e below P T m pc Ls st := by
  subst hp
  exact Go.step (fun t k => X.ldc2DoubleC hx hown (mvT hZ w) (g := mkF m pc Ls st) rfl (hb hby hd) t k) g
theorem g_iadd (X : Stand p l e R s m args below meth c T locs cells slots) (hx : p.tables.exec = Jvm.exec) (hby : c.code = code) {x y v : Int32} (hd : decode code pc = .ok (.iadd, 1)) (hst : st = .int y :: .int x :: st') (hv : x + y = v) (hp : pc + 1 = pc') (g : Gf p e below P T m pc' Ls (.int v :: st')) : Gf p e below P T m pc Ls st := by
  subst hp hst
  exact Go.step (fun t k => XS.iadd X.here hx rfl (hb hby hd) rfl (by subst hv; exact k)) g
theorem g_isub (X : Stand p l e R s m args below meth c T locs cells slots) (hx : p.tables.exec = Jvm.exec) (hby : c.code = code) {x y v : Int32} (hd : decode code pc = .ok (.isub, 1)) (hst : st = .int y :: .int x :: st') (hv : x - y = v) (hp : pc + 1 = pc') (g : Gf p e below P T m pc' Ls (.int v :: st')) : Gf p e below P T m pc Ls st := by
  subst hp hst
  exact Go.step (fun t k => XS.isub X.here hx rfl (hb hby hd) rfl (by subst hv; exact k)) g
theorem g_imul (X : Stand p l e R s m args below meth c T locs cells slots) (hx : p.tables.exec = Jvm.exec) (hby : c.code = code) {x y v : Int32} (hd : decode code pc = .ok (.imul, 1)) (hst : st = .int y :: .int x :: st') (hv : x * y = v) (hp : pc + 1 = pc') (g : Gf p e below P T m pc' Ls (.int v :: st')) : Gf p e below P T m pc Ls st := by
  subst hp hst
  exact Go.step (fun t k => XS.imul X.here hx rfl (hb hby hd) rfl (by subst hv; exact k)) g
theorem g_iand (X : Stand p l e R s m args below meth c T locs cells slots) (hx : p.tables.exec = Jvm.exec) (hby : c.code = code) {x y v : Int32} (hd : decode code pc = .ok (.iand, 1)) (hst : st = .int y :: .int x :: st') (hv : x &&& y = v) (hp : pc + 1 = pc') (g : Gf p e below P T m pc' Ls (.int v :: st')) : Gf p e below P T m pc Ls st := by
  subst hp hst
  exact Go.step (fun t k => XS.iand X.here hx rfl (hb hby hd) rfl (by subst hv; exact k)) g
theorem g_ior (X : Stand p l e R s m args below meth c T locs cells slots) (hx : p.tables.exec = Jvm.exec) (hby : c.code = code) {x y v : Int32} (hd : decode code pc = .ok (.ior, 1)) (hst : st = .int y :: .int x :: st') (hv : x ||| y = v) (hp : pc + 1 = pc') (g : Gf p e below P T m pc' Ls (.int v :: st')) : Gf p e below P T m pc Ls st := by
  subst hp hst
  exact Go.step (fun t k => XS.ior X.here hx rfl (hb hby hd) rfl (by subst hv; exact k)) g
theorem g_ixor (X : Stand p l e R s m args below meth c T locs cells slots) (hx : p.tables.exec = Jvm.exec) (hby : c.code = code) {x y v : Int32} (hd : decode code pc = .ok (.ixor, 1)) (hst : st = .int y :: .int x :: st') (hv : x ^^^ y = v) (hp : pc + 1 = pc') (g : Gf p e below P T m pc' Ls (.int v :: st')) : Gf p e below P T m pc Ls st := by
  subst hp hst
  exact Go.step (fun t k => XS.ixor X.here hx rfl (hb hby hd) rfl (by subst hv; exact k)) g
theorem g_ishl (X : Stand p l e R s m args below meth c T locs cells slots) (hx : p.tables.exec = Jvm.exec) (hby : c.code = code) {x y v : Int32} (hd : decode code pc = .ok (.ishl, 1)) (hst : st = .int y :: .int x :: st') (hv : x <<< (y &&& 31) = v) (hp : pc + 1 = pc') (g : Gf p e below P T m pc' Ls (.int v :: st')) : Gf p e below P T m pc Ls st := by
  subst hp hst
  exact Go.step (fun t k => XS.ishl X.here hx rfl (hb hby hd) rfl (by subst hv; exact k)) g
theorem g_ishr (X : Stand p l e R s m args below meth c T locs cells slots) (hx : p.tables.exec = Jvm.exec) (hby : c.code = code) {x y v : Int32} (hd : decode code pc = .ok (.ishr, 1)) (hst : st = .int y :: .int x :: st') (hv : x >>> (y &&& 31) = v) (hp : pc + 1 = pc') (g : Gf p e below P T m pc' Ls (.int v :: st')) : Gf p e below P T m pc Ls st := by
  subst hp hst
  exact Go.step (fun t k => XS.ishr X.here hx rfl (hb hby hd) rfl (by subst hv; exact k)) g
theorem g_iushr (X : Stand p l e R s m args below meth c T locs cells slots) (hx : p.tables.exec = Jvm.exec) (hby : c.code = code) {x y v : Int32} (hd : decode code pc = .ok (.iushr, 1)) (hst : st = .int y :: .int x :: st') (hv : (x.toUInt32 >>> (y &&& 31).toUInt32).toInt32 = v) (hp : pc + 1 = pc') (g : Gf p e below P T m pc' Ls (.int v :: st')) : Gf p e below P T m pc Ls st := by
  subst hp hst
  exact Go.step (fun t k => XS.iushr X.here hx rfl (hb hby hd) rfl (by subst hv; exact k)) g
theorem g_ladd (X : Stand p l e R s m args below meth c T locs cells slots) (hx : p.tables.exec = Jvm.exec) (hby : c.code = code) {x y v : Int64} (hd : decode code pc = .ok (.ladd, 1)) (hst : st = .long y :: .long x :: st') (hv : x + y = v) (hp : pc + 1 = pc') (g : Gf p e below P T m pc' Ls (.long v :: st')) : Gf p e below P T m pc Ls st := by
  subst hp hst
  exact Go.step (fun t k => XS.ladd X.here hx rfl (hb hby hd) rfl (by subst hv; exact k)) g
theorem g_lsub (X : Stand p l e R s m args below meth c T locs cells slots) (hx : p.tables.exec = Jvm.exec) (hby : c.code = code) {x y v : Int64} (hd : decode code pc = .ok (.lsub, 1)) (hst : st = .long y :: .long x :: st') (hv : x - y = v) (hp : pc + 1 = pc') (g : Gf p e below P T m pc' Ls (.long v :: st')) : Gf p e below P T m pc Ls st := by
  subst hp hst
  exact Go.step (fun t k => XS.lsub X.here hx rfl (hb hby hd) rfl (by subst hv; exact k)) g
theorem g_lmul (X : Stand p l e R s m args below meth c T locs cells slots) (hx : p.tables.exec = Jvm.exec) (hby : c.code = code) {x y v : Int64} (hd : decode code pc = .ok (.lmul, 1)) (hst : st = .long y :: .long x :: st') (hv : x * y = v) (hp : pc + 1 = pc') (g : Gf p e below P T m pc' Ls (.long v :: st')) : Gf p e below P T m pc Ls st := by
  subst hp hst
  exact Go.step (fun t k => XS.lmul X.here hx rfl (hb hby hd) rfl (by subst hv; exact k)) g
theorem g_land (X : Stand p l e R s m args below meth c T locs cells slots) (hx : p.tables.exec = Jvm.exec) (hby : c.code = code) {x y v : Int64} (hd : decode code pc = .ok (.land, 1)) (hst : st = .long y :: .long x :: st') (hv : x &&& y = v) (hp : pc + 1 = pc') (g : Gf p e below P T m pc' Ls (.long v :: st')) : Gf p e below P T m pc Ls st := by
  subst hp hst
  exact Go.step (fun t k => XS.land X.here hx rfl (hb hby hd) rfl (by subst hv; exact k)) g
theorem g_lor (X : Stand p l e R s m args below meth c T locs cells slots) (hx : p.tables.exec = Jvm.exec) (hby : c.code = code) {x y v : Int64} (hd : decode code pc = .ok (.lor, 1)) (hst : st = .long y :: .long x :: st') (hv : x ||| y = v) (hp : pc + 1 = pc') (g : Gf p e below P T m pc' Ls (.long v :: st')) : Gf p e below P T m pc Ls st := by
  subst hp hst
  exact Go.step (fun t k => XS.lor X.here hx rfl (hb hby hd) rfl (by subst hv; exact k)) g
theorem g_lxor (X : Stand p l e R s m args below meth c T locs cells slots) (hx : p.tables.exec = Jvm.exec) (hby : c.code = code) {x y v : Int64} (hd : decode code pc = .ok (.lxor, 1)) (hst : st = .long y :: .long x :: st') (hv : x ^^^ y = v) (hp : pc + 1 = pc') (g : Gf p e below P T m pc' Ls (.long v :: st')) : Gf p e below P T m pc Ls st := by
  subst hp hst
  exact Go.step (fun t k => XS.lxor X.here hx rfl (hb hby hd) rfl (by subst hv; exact k)) g
theorem g_lshl (X : Stand p l e R s m args below meth c T locs cells slots) (hx : p.tables.exec = Jvm.exec) (hby : c.code = code) {x v : Int64} {y : Int32} (hd : decode code pc = .ok (.lshl, 1)) (hst : st = .int y :: .long x :: st') (hv : x <<< (y &&& 0x3f).toInt64 = v) (hp : pc + 1 = pc') (g : Gf p e below P T m pc' Ls (.long v :: st')) : Gf p e below P T m pc Ls st := by
  subst hp hst
  exact Go.step (fun t k => XS.lshl X.here hx rfl (hb hby hd) rfl (by subst hv; exact k)) g
theorem g_lshr (X : Stand p l e R s m args below meth c T locs cells slots) (hx : p.tables.exec = Jvm.exec) (hby : c.code = code) {x v : Int64} {y : Int32} (hd : decode code pc = .ok (.lshr, 1)) (hst : st = .int y :: .long x :: st') (hv : x >>> (y &&& 0x3f).toInt64 = v) (hp : pc + 1 = pc') (g : Gf p e below P T m pc' Ls (.long v :: st')) : Gf p e below P T m pc Ls st := by
  subst hp hst
  exact Go.step (fun t k => XS.lshr X.here hx rfl (hb hby hd) rfl (by subst hv; exact k)) g
theorem g_lushr (X : Stand p l e R s m args below meth c T locs cells slots) (hx : p.tables.exec = Jvm.exec) (hby : c.code = code) {x v : Int64} {y : Int32} (hd : decode code pc = .ok (.lushr, 1)) (hst : st = .int y :: .long x :: st') (hv : (x.toUInt64 >>> (y &&& 0x3f).toInt64.toUInt64).toInt64 = v) (hp : pc + 1 = pc') (g : Gf p e below P T m pc' Ls (.long v :: st')) : Gf p e below P T m pc Ls st := by
  subst hp hst
  exact Go.step (fun t k => XS.lushr X.here hx rfl (hb hby hd) rfl (by subst hv; exact k)) g
theorem g_irem (X : Stand p l e R s m args below meth c T locs cells slots) (hx : p.tables.exec = Jvm.exec) (hby : c.code = code) {x y v : Int32} (hd : decode code pc = .ok (.irem, 1)) (hst : st = .int y :: .int x :: st') (hy : y ≠ 0) (hv : x % y = v) (hp : pc + 1 = pc') (g : Gf p e below P T m pc' Ls (.int v :: st')) : Gf p e below P T m pc Ls st := by
  subst hp hst
  exact Go.step (fun t k => iremM X hx (g := mkF m pc Ls _) rfl (hb hby hd) rfl hy (by subst hv; exact k)) g
theorem g_idiv (X : Stand p l e R s m args below meth c T locs cells slots) (hx : p.tables.exec = Jvm.exec) (hby : c.code = code) {x y v : Int32} (hd : decode code pc = .ok (.idiv, 1)) (hst : st = .int y :: .int x :: st') (hy : y ≠ 0) (hv : x / y = v) (hp : pc + 1 = pc') (g : Gf p e below P T m pc' Ls (.int v :: st')) : Gf p e below P T m pc Ls st := by
  subst hp hst
  exact Go.step (fun t k => XS.idiv X.here hx rfl (hb hby hd) rfl hy (by subst hv; exact k)) g
theorem g_ineg (X : Stand p l e R s m args below meth c T locs cells slots) (hx : p.tables.exec = Jvm.exec) (hby : c.code = code) {x : Int32} {v : Int32} (hd : decode code pc = .ok (.ineg, 1)) (hst : st = .int x :: st') (hv : -x = v) (hp : pc + 1 = pc') (g : Gf p e below P T m pc' Ls (.int v :: st')) : Gf p e below P T m pc Ls st := by
  subst hp hst
  exact Go.step (fun t k => XS.ineg X.here hx rfl (hb hby hd) rfl (by subst hv; exact k)) g
theorem g_lneg (X : Stand p l e R s m args below meth c T locs cells slots) (hx : p.tables.exec = Jvm.exec) (hby : c.code = code) {x : Int64} {v : Int64} (hd : decode code pc = .ok (.lneg, 1)) (hst : st = .long x :: st') (hv : -x = v) (hp : pc + 1 = pc') (g : Gf p e below P T m pc' Ls (.long v :: st')) : Gf p e below P T m pc Ls st := by
  subst hp hst
  exact Go.step (fun t k => XS.lneg X.here hx rfl (hb hby hd) rfl (by subst hv; exact k)) g
theorem g_i2l (X : Stand p l e R s m args below meth c T locs cells slots) (hx : p.tables.exec = Jvm.exec) (hby : c.code = code) {x : Int32} {v : Int64} (hd : decode code pc = .ok (.i2l, 1)) (hst : st = .int x :: st') (hv : x.toInt64 = v) (hp : pc + 1 = pc') (g : Gf p e below P T m pc' Ls (.long v :: st')) : Gf p e below P T m pc Ls st := by
  subst hp hst
  exact Go.step (fun t k => XS.i2l X.here hx rfl (hb hby hd) rfl (by subst hv; exact k)) g
theorem g_l2i (X : Stand p l e R s m args below meth c T locs cells slots) (hx : p.tables.exec = Jvm.exec) (hby : c.code = code) {x : Int64} {v : Int32} (hd : decode code pc = .ok (.l2i, 1)) (hst : st = .long x :: st') (hv : x.toInt32 = v) (hp : pc + 1 = pc') (g : Gf p e below P T m pc' Ls (.int v :: st')) : Gf p e below P T m pc Ls st := by
  subst hp hst
  exact Go.step (fun t k => XS.l2i X.here hx rfl (hb hby hd) rfl (by subst hv; exact k)) g
theorem g_i2b (X : Stand p l e R s m args below meth c T locs cells slots) (hx : p.tables.exec = Jvm.exec) (hby : c.code = code) {x : Int32} {v : Int32} (hd : decode code pc = .ok (.i2b, 1)) (hst : st = .int x :: st') (hv : x.toInt8.toInt32 = v) (hp : pc + 1 = pc') (g : Gf p e below P T m pc' Ls (.int v :: st')) : Gf p e below P T m pc Ls st := by
  subst hp hst
  exact Go.step (fun t k => XS.i2b X.here hx rfl (hb hby hd) rfl (by subst hv; exact k)) g
theorem g_i2s (X : Stand p l e R s m args below meth c T locs cells slots) (hx : p.tables.exec = Jvm.exec) (hby : c.code = code) {x : Int32} {v : Int32} (hd : decode code pc = .ok (.i2s, 1)) (hst : st = .int x :: st') (hv : x.toInt16.toInt32 = v) (hp : pc + 1 = pc') (g : Gf p e below P T m pc' Ls (.int v :: st')) : Gf p e below P T m pc Ls st := by
  subst hp hst
  exact Go.step (fun t k => XS.i2s X.here hx rfl (hb hby hd) rfl (by subst hv; exact k)) g
theorem g_i2c (X : Stand p l e R s m args below meth c T locs cells slots) (hx : p.tables.exec = Jvm.exec) (hby : c.code = code) {x : Int32} {v : Int32} (hd : decode code pc = .ok (.i2c, 1)) (hst : st = .int x :: st') (hv : x.toUInt32.toUInt16.toUInt32.toInt32 = v) (hp : pc + 1 = pc') (g : Gf p e below P T m pc' Ls (.int v :: st')) : Gf p e below P T m pc Ls st := by
  subst hp hst
  exact Go.step (fun t k => XS.i2c X.here hx rfl (hb hby hd) rfl (by subst hv; exact k)) g
theorem g_lcmp (X : Stand p l e R s m args below meth c T locs cells slots) (hx : p.tables.exec = Jvm.exec) (hby : c.code = code) {x y : Int64} {v : Int32} (hd : decode code pc = .ok (.lcmp, 1)) (hst : st = .long y :: .long x :: st') (hv : lcmpW x y = v) (hp : pc + 1 = pc') (g : Gf p e below P T m pc' Ls (.int v :: st')) : Gf p e below P T m pc Ls st := by
  subst hp hst
  exact Go.step (fun t k => XS.lcmp X.here hx rfl (hb hby hd) rfl (by subst hv; exact k)) g
theorem g_i2d (X : Stand p l e R s m args below meth c T locs cells slots) (hx : p.tables.exec = Jvm.exec) (hby : c.code = code) {x : Int32} {v : UInt64} (hd : decode code pc = .ok (.i2d, 1)) (hst : st = .int x :: st') (hv : FP.i2d x = v) (hp : pc + 1 = pc') (g : Gf p e below P T m pc' Ls (.double v :: st')) : Gf p e below P T m pc Ls st := by
  subst hp hst
  exact Go.step (fun t k => XS.i2dS X.here hx rfl (hb hby hd) rfl hv k) g
theorem g_l2d (X : Stand p l e R s m args below meth c T locs cells slots) (hx : p.tables.exec = Jvm.exec) (hby : c.code = code) {x : Int64} {v : UInt64} (hd : decode code pc = .ok (.l2d, 1)) (hst : st = .long x :: st') (hv : FP.l2d x = v) (hp : pc + 1 = pc') (g : Gf p e below P T m pc' Ls (.double v :: st')) : Gf p e below P T m pc Ls st := by
  subst hp hst
  exact Go.step (fun t k => XS.l2dS X.here hx rfl (hb hby hd) rfl hv k) g
theorem g_d2i (X : Stand p l e R s m args below meth c T locs cells slots) (hx : p.tables.exec = Jvm.exec) (hby : c.code = code) {x : UInt64} {v : Int32} (hd : decode code pc = .ok (.d2i, 1)) (hst : st = .double x :: st') (hv : FP.d2i x = v) (hp : pc + 1 = pc') (g : Gf p e below P T m pc' Ls (.int v :: st')) : Gf p e below P T m pc Ls st := by
  subst hp hst
  exact Go.step (fun t k => XS.d2iS X.here hx rfl (hb hby hd) rfl hv k) g
theorem g_d2l (X : Stand p l e R s m args below meth c T locs cells slots) (hx : p.tables.exec = Jvm.exec) (hby : c.code = code) {x : UInt64} {v : Int64} (hd : decode code pc = .ok (.d2l, 1)) (hst : st = .double x :: st') (hv : FP.d2l x = v) (hp : pc + 1 = pc') (g : Gf p e below P T m pc' Ls (.long v :: st')) : Gf p e below P T m pc Ls st := by
  subst hp hst
  exact Go.step (fun t k => XS.d2lS X.here hx rfl (hb hby hd) rfl hv k) g
theorem g_dneg (X : Stand p l e R s m args below meth c T locs cells slots) (hx : p.tables.exec = Jvm.exec) (hby : c.code = code) {x : UInt64} {v : UInt64} (hd : decode code pc = .ok (.dneg, 1)) (hst : st = .double x :: st') (hv : FP.dneg x = v) (hp : pc + 1 = pc') (g : Gf p e below P T m pc' Ls (.double v :: st')) : Gf p e below P T m pc Ls st := by
  subst hp hst
  exact Go.step (fun t k => XS.dnegS X.here hx rfl (hb hby hd) rfl hv k) g
theorem g_dadd (X : Stand p l e R s m args below meth c T locs cells slots) (hx : p.tables.exec = Jvm.exec) (hby : c.code = code) {x y v : UInt64} (hd : decode code pc = .ok (.dadd, 1)) (hst : st = .double y :: .double x :: st') (hn : Jvm.Free.Fl.NoNaN64 (FP.dadd x y)) (hv : FP.dadd x y = v) (hp : pc + 1 = pc') (g : Gf p e below P T m pc' Ls (.double v :: st')) : Gf p e below P T m pc Ls st := by
  subst hp hst
  exact Go.step (fun t k => XS.daddS X.here hx rfl (hb hby hd) rfl hn hv k) g
theorem g_dsub (X : Stand p l e R s m args below meth c T locs cells slots) (hx : p.tables.exec = Jvm.exec) (hby : c.code = code) {x y v : UInt64} (hd : decode code pc = .ok (.dsub, 1)) (hst : st = .double y :: .double x :: st') (hn : Jvm.Free.Fl.NoNaN64 (FP.dsub x y)) (hv : FP.dsub x y = v) (hp : pc + 1 = pc') (g : Gf p e below P T m pc' Ls (.double v :: st')) : Gf p e below P T m pc Ls st := by
  subst hp hst
  exact Go.step (fun t k => XS.dsubS X.here hx rfl (hb hby hd) rfl hn hv k) g
theorem g_dmul (X : Stand p l e R s m args below meth c T locs cells slots) (hx : p.tables.exec = Jvm.exec) (hby : c.code = code) {x y v : UInt64} (hd : decode code pc = .ok (.dmul, 1)) (hst : st = .double y :: .double x :: st') (hn : Jvm.Free.Fl.NoNaN64 (FP.dmul x y)) (hv : FP.dmul x y = v) (hp : pc + 1 = pc') (g : Gf p e below P T m pc' Ls (.double v :: st')) : Gf p e below P T m pc Ls st := by
  subst hp hst
  exact Go.step (fun t k => XS.dmulS X.here hx rfl (hb hby hd) rfl hn hv k) g
theorem g_ddiv (X : Stand p l e R s m args below meth c T locs cells slots) (hx : p.tables.exec = Jvm.exec) (hby : c.code = code) {x y v : UInt64} (hd : decode code pc = .ok (.ddiv, 1)) (hst : st = .double y :: .double x :: st') (hn : Jvm.Free.Fl.NoNaN64 (FP.ddiv x y)) (hv : FP.ddiv x y = v) (hp : pc + 1 = pc') (g : Gf p e below P T m pc' Ls (.double v :: st')) : Gf p e below P T m pc Ls st := by
  subst hp hst
  exact Go.step (fun t k => XS.ddivS X.here hx rfl (hb hby hd) rfl hn hv k) g
theorem g_dcmp (X : Stand p l e R s m args below meth c T locs cells slots) (hx : p.tables.exec = Jvm.exec) (hby : c.code = code) {o : CmpOp} {x y : UInt64} {v : Int32} (hd : decode code pc = .ok (.dcmp o, 1)) (hst : st = .double y :: .double x :: st') (hv : cmpValue (FP.dcmp x y) o = v) (hp : pc + 1 = pc') (g : Gf p e below P T m pc' Ls (.int v :: st')) : Gf p e below P T m pc Ls st := by
  subst hp hst
  exact Go.step (fun t k => XS.dcmpS X.here hx rfl (hb hby hd) rfl hv k) g
theorem g_dup (X : Stand p l e R s m args below meth c T locs cells slots) (hx : p.tables.exec = Jvm.exec) (hby : c.code = code) {x : Value} (hd : decode code pc = .ok (.dup, 1)) (hst : st = x :: st') (hc : x.category = 1) (hp : pc + 1 = pc') (g : Gf p e below P T m pc' Ls (x :: x :: st')) : Gf p e below P T m pc Ls st := by
  subst hp hst
  exact Go.step (fun t k => XS.dup X.here hx rfl (hb hby hd) rfl hc k) g
theorem g_pop (X : Stand p l e R s m args below meth c T locs cells slots) (hx : p.tables.exec = Jvm.exec) (hby : c.code = code) {x : Value} (hd : decode code pc = .ok (.pop, 1)) (hst : st = x :: st') (hc : x.category = 1) (hp : pc + 1 = pc') (g : Gf p e below P T m pc' Ls st') : Gf p e below P T m pc Ls st := by
  subst hp hst
  exact Go.step (fun t k => XS.pop X.here hx rfl (hb hby hd) rfl hc k) g
theorem g_iinc (X : Stand p l e R s m args below meth c T locs cells slots) (hx : p.tables.exec = Jvm.exec) (hby : c.code = code) {n : Nat} {i : Int} {x : Int32} (hd : decode code pc = .ok (.iinc n i, 3)) (hl : Ls[n]? = some (.val (.int x))) (hl' : storeLocals Ls n (.int (x + Int32.ofInt i)) = some Ls') (hp : pc + 3 = pc') (g : Gf p e below P T m pc' Ls' st) : Gf p e below P T m pc Ls st := by
  subst hp
  exact Go.step (fun t k => XS.iinc X.here hx rfl (hb hby hd) hl hl' k) g
theorem g_goto (X : Stand p l e R s m args below meth c T locs cells slots) (hx : p.tables.exec = Jvm.exec) (hby : c.code = code) {o : Int} (hd : decode code pc = .ok (.goto o, 3)) (ho : 0 ≤ (pc : Int) + o) (hp : ((pc : Int) + o).toNat = pc') (g : Gf p e below P T m pc' Ls st) : Gf p e below P T m pc Ls st := Go.step (fun t k => XS.goto X.here hx rfl (pc0 := pc) (pc' := pc') rfl (hb hby hd) ho hp k) g
theorem g_ifY (X : Stand p l e R s m args below meth c T locs cells slots) (hx : p.tables.exec = Jvm.exec) (hby : c.code = code) {cd : ClassFile.Cond} {o : Int} {x : Int32} (hd : decode code pc = .ok (.ifCond cd o, 3)) (hst : st = .int x :: st') (hc : if_icmp.holds cd x 0 = true) (ho : 0 ≤ (pc : Int) + o) (hp : ((pc : Int) + o).toNat = pc') (g : Gf p e below P T m pc' Ls st') : Gf p e below P T m pc Ls st := by
  subst hst
  exact Go.step (fun t k => XS.ifYes X.here hx rfl (pc0 := pc) (pc' := pc') rfl (hb hby hd) rfl ((if0 _ _).trans hc) ho hp k) g
theorem g_ifN (X : Stand p l e R s m args below meth c T locs cells slots) (hx : p.tables.exec = Jvm.exec) (hby : c.code = code) {cd : ClassFile.Cond} {o : Int} {x : Int32} (hd : decode code pc = .ok (.ifCond cd o, 3)) (hst : st = .int x :: st') (hc : if_icmp.holds cd x 0 = false) (hp : pc + 3 = pc') (g : Gf p e below P T m pc' Ls st') : Gf p e below P T m pc Ls st := by
  subst hst hp
  exact Go.step (fun t k => XS.ifNo X.here hx rfl (hb hby hd) rfl ((if0 _ _).trans hc) k) g
theorem g_icY (X : Stand p l e R s m args below meth c T locs cells slots) (hx : p.tables.exec = Jvm.exec) (hby : c.code = code) {cd : ClassFile.Cond} {o : Int} {x y : Int32} (hd : decode code pc = .ok (.if_icmp cd o, 3)) (hst : st = .int y :: .int x :: st') (hc : if_icmp.holds cd x y = true) (ho : 0 ≤ (pc : Int) + o) (hp : ((pc : Int) + o).toNat = pc') (g : Gf p e below P T m pc' Ls st') : Gf p e below P T m pc Ls st := by
  subst hst
  exact Go.step (fun t k => XS.icmpYes X.here hx rfl (pc0 := pc) (pc' := pc') rfl (hb hby hd) rfl hc ho hp k) g
theorem g_icN (X : Stand p l e R s m args below meth c T locs cells slots) (hx : p.tables.exec = Jvm.exec) (hby : c.code = code) {cd : ClassFile.Cond} {o : Int} {x y : Int32} (hd : decode code pc = .ok (.if_icmp cd o, 3)) (hst : st = .int y :: .int x :: st') (hc : if_icmp.holds cd x y = false) (hp : pc + 3 = pc') (g : Gf p e below P T m pc' Ls st') : Gf p e below P T m pc Ls st := by
  subst hst hp
  exact Go.step (fun t k => XS.icmpNo X.here hx rfl (hb hby hd) rfl hc k) g
theorem g_nullY (X : Stand p l e R s m args below meth c T locs cells slots) (hx : p.tables.exec = Jvm.exec) (hby : c.code = code) {o : Int} (hd : decode code pc = .ok (.ifnull o, 3)) (hst : st = .null :: st') (ho : 0 ≤ (pc : Int) + o) (hp : ((pc : Int) + o).toNat = pc') (g : Gf p e below P T m pc' Ls st') : Gf p e below P T m pc Ls st := by
  subst hst
  exact Go.step (fun t k => XS.ifnullYes X.here hx rfl (pc0 := pc) (pc' := pc') rfl (hb hby hd) rfl ho hp k) g
theorem g_nullN (X : Stand p l e R s m args below meth c T locs cells slots) (hx : p.tables.exec = Jvm.exec) (hby : c.code = code) {o : Int} {b : Addr} (hd : decode code pc = .ok (.ifnull o, 3)) (hst : st = .ref b :: st') (hp : pc + 3 = pc') (g : Gf p e below P T m pc' Ls st') : Gf p e below P T m pc Ls st := by
  subst hst hp
  exact Go.step (fun t k => XS.ifnullNo X.here hx rfl (hb hby hd) rfl k) g
theorem g_nnY (X : Stand p l e R s m args below meth c T locs cells slots) (hx : p.tables.exec = Jvm.exec) (hby : c.code = code) {o : Int} {b : Addr} (hd : decode code pc = .ok (.ifnonnull o, 3)) (hst : st = .ref b :: st') (ho : 0 ≤ (pc : Int) + o) (hp : ((pc : Int) + o).toNat = pc') (g : Gf p e below P T m pc' Ls st') : Gf p e below P T m pc Ls st := by
  subst hst
  exact Go.step (fun t k => XS.ifnonnullYes X.here hx rfl (pc0 := pc) (pc' := pc') rfl (hb hby hd) rfl ho hp k) g
theorem g_nnN (X : Stand p l e R s m args below meth c T locs cells slots) (hx : p.tables.exec = Jvm.exec) (hby : c.code = code) {o : Int} (hd : decode code pc = .ok (.ifnonnull o, 3)) (hst : st = .null :: st') (hp : pc + 3 = pc') (g : Gf p e below P T m pc' Ls st') : Gf p e below P T m pc Ls st := by
  subst hst hp
  exact Go.step (fun t k => XS.ifnonnullNo X.here hx rfl (hb hby hd) rfl k) g
theorem g_acmp (X : Stand p l e R s m args below meth c T locs cells slots) (hx : p.tables.exec = Jvm.exec) (hby : c.code = code) {cd : ACond} {o : Int} {x y : Value} {same : Bool} (hd : decode code pc = .ok (.if_acmp cd o, 3)) (hst : st = y :: x :: st') (h1 : x.isRef = true) (h2 : y.isRef = true) (hq : decide (x = y) = same) (ho : 0 ≤ (pc : Int) + o) (hp : pc' = if acV cd same = true then ((pc : Int) + o).toNat else pc + 3) (g : Gf p e below P T m pc' Ls st') : Gf p e below P T m pc Ls st := by
  subst hst
  exact Go.step (fun t k => Jvm.RoadKit.acmp (g := mkF m pc Ls _) X hx rfl h1 h2 (pc0 := pc) (pc' := pc') rfl (hb hby hd) rfl hq ho hp k) g
/-! the returns -/
variable {Q : Option Value → Heap → List Loc → Prop} {rm : Room} {h : Heap}
def FinR (l : Launch) (s : State) (rm : Room) (Q : Option Value → Heap → List Loc → Prop) (P : Outcome → State → Prop) : Prop := ∀ o U, (∃ v L, o = .returned v ∧ Q v U.heap L ∧ FrameEnd s o U L rm.cells rm.slots) → P o U
theorem g_retV (X : Stand p l e R s m args below meth c T locs cells slots) (hx : p.tables.exec = Jvm.exec) (hby : c.code = code) (hf : FinR l s rm Q P) (hlk : meth.locks = false) {t : FieldType} {i : Instr} {w : Value} (hret : meth.sig.returnType = some t) (hd : decode code pc = .ok (i, 1)) (hst : st = w :: st') (hn : narrow t w = w)
    (hi : (i = .ireturn ∧ (t = .int ∨ t = .boolean ∨ t = .byte ∨ t = .char ∨ t = .short) ∧ ∃ z, w = .int z) ∨ (i = .lreturn ∧ t = .long ∧ ∃ z, w = .long z) ∨ (i = .dreturn ∧ t = .double ∧ ∃ z, w = .double z) ∨ (i = .freturn ∧ t = .float ∧ ∃ z, w = .float z) ∨ (i = .areturn ∧ t.isReference = true ∧ w.isRef = true))
    (hc : cells ≤ rm.cells) (hs : slots ≤ rm.slots) (eT : T.heap = h) (q : Q (some w) h locs) : Gf p e below P T m pc Ls st := by
  subst hst
  obtain ⟨fs, hr, hrun, hended, hW, hsame⟩ := X.leave (v := some w) (fun q => by rw [hret] at q; cases q) hlk
  exact ⟨_, _, retOut X hx hret hn hi (hb hby hd) hr, hrun, hended, hf _ _ ⟨_, _, rfl, by show Q (some w) T.heap locs; rw [eT]; exact q, ⟨_, rfl⟩, hW, hsame.mono hc hs⟩⟩
theorem g_retZ (X : Stand p l e R s m args below meth c T locs cells slots) (hx : p.tables.exec = Jvm.exec) (hby : c.code = code) (hf : FinR l s rm Q P) (hlk : meth.locks = false) {t : FieldType} {z w : Int32} (hret : meth.sig.returnType = some t) (hd : decode code pc = .ok (.ireturn, 1)) (hst : st = .int z :: st') (ht : t = .boolean ∨ t = .byte ∨ t = .char ∨ t = .short)
    (hw : nar t z = w) (hc : cells ≤ rm.cells) (hs : slots ≤ rm.slots) (eT : T.heap = h) (q : Q (some (.int w)) h locs) : Gf p e below P T m pc Ls st := by
  subst hst hw
  obtain ⟨fs, hr, hrun, hended, hW, hsame⟩ := X.leave (v := some (.int (nar t z))) (fun q => by rw [hret] at q; cases q) hlk
  exact ⟨_, _, retN X hx hret ht (hb hby hd) hr, hrun, hended, hf _ _ ⟨_, _, rfl, by show Q (some (.int (nar t z))) T.heap locs; rw [eT]; exact q, ⟨_, rfl⟩, hW, hsame.mono hc hs⟩⟩
theorem g_ret (X : Stand p l e R s m args below meth c T locs cells slots) (hx : p.tables.exec = Jvm.exec) (hby : c.code = code) (hf : FinR l s rm Q P) (hlk : meth.locks = false) (hret : meth.sig.returnType = none) (hd : decode code pc = .ok (.return_, 1)) (hst : st = [])
    (hc : cells ≤ rm.cells) (hs : slots ≤ rm.slots) (eT : T.heap = h) (q : Q none h locs) : Gf p e below P T m pc Ls st := by
  subst hst
  obtain ⟨fs, hr, hrun, hended, hW, hsame⟩ := X.leave (v := none) (fun _ => rfl) hlk
  exact ⟨_, _, X.returnOut hx hret (hb hby hd) hr, hrun, hended, hf _ _ ⟨_, _, rfl, by show Q none T.heap locs; rw [eT]; exact q, ⟨_, rfl⟩, hW, hsame.mono hc hs⟩⟩
/-! the heap -/
variable {Z : State} {a0 : Array Value} {own : String} {a : Addr}
theorem g_new (X : Stand p l e R s m args below meth c T locs cells slots) (hx : p.tables.exec = Jvm.exec) (hby : c.code = code) (hZ : Z.Warmed39 s.vm) (hown : s.vm.findClass own = some m.cls) {C : String} {i n : Nat} (w : (Cond.classLink own i C).before a0 Z = true) (wi : (Cond.instantiable C n).before a0 Z = true) (wz : (Cond.initialized C).before a0 Z = true) (eT : T.heap = h)
    (hd : decode code pc = .ok (.new i, 3)) (hp : pc + 3 = pc') (hc : cells + 1 ≤ R.cells) (hl : slots + n ≤ R.slots)
    (g : ∀ (T' : State) (h' : Heap) (a : Addr), Stand p l e R s m args below meth c T' locs (cells + 1) (slots + n) → T'.heap = h' → Ext h h' → Exa Z h' a C → (∀ {O nm d : String} {ty : FieldType}, Laid Z a0 C O nm d → parseFieldDescriptor d = some ty → Fld Z h' a O nm d (defaultValue ty)) → a = h.size → Gf p e below P T' m pc' Ls (.ref a :: st)) : Gf p e below P T m pc Ls st := by
  subst hp
  obtain ⟨T', h', X', e', E', A', D', -, st'⟩ := newO X hx hZ hown w wi wz eT (g := mkF m pc Ls st) rfl (hb hby hd) hc hl
  exact Go.step st' (g T' h' h.size X' e' E' A' D' rfl)
theorem g_initO (X : Stand p l e R s m args below meth c T locs cells slots) (hx : p.tables.exec = Jvm.exec) (hby : c.code = code) (hZ : Z.Warmed39 s.vm) (hown : s.vm.findClass own = some m.cls) {i : Nat} (w1 : (Cond.methodLink own i Lib.objectInit).before a0 Z = true) (w2 : (Cond.instanceMethod Lib.objectInit).before a0 Z = true) (w3 : (Cond.code Lib.objectInit ⟨#[0xb1]⟩ 1 none).before a0 Z = true) (eT : T.heap = h)
    (hsize : Ls.size = c.maxLocals) (hst : st = .ref a :: st') (hd : decode code pc = .ok (.invokespecial i, 3)) (hp : pc + 3 = pc') (hf : 1 ≤ R.frames) {W : Nat} (hW : 2 * 0 + (st'.map fun v => v.category).sum = W) (hl : W + 12 ≤ R.locals)
    (g : ∀ (T' : State), Stand p l e R s m args below meth c T' locs cells slots → T'.heap = h → Gf p e below P T' m pc' Ls st') : Gf p e below P T m pc Ls st := by
  subst hp hst
  obtain ⟨T', X', e', k⟩ := initO X hx hZ hown w1 w2 w3 eT (g := mkF m pc Ls _) rfl hsize rfl (hb hby hd) hf (W := W) (Nat.le_of_eq hW) hl
  exact Go.step k (g T' X' e')
theorem g_getF (X : Stand p l e R s m args below meth c T locs cells slots) (hx : p.tables.exec = Jvm.exec) (hby : c.code = code) (hZ : Z.Warmed39 s.vm) (hown : s.vm.findClass own = some m.cls) {R0 O n d host : String} {i : Nat} {v : Value} (w : (Cond.fieldLink own i R0 n d).before a0 Z = true ∨ (Cond.fieldLinkNest own i R0 n d host).before a0 Z = true) (via : Via Z R0 O n d) (eT : T.heap = h) (F : Fld Z h a O n d v)
    (hst : st = .ref a :: st') (hd : decode code pc = .ok (.getfield i, 3)) (hp : pc + 3 = pc') (g : ∀ (T' : State), Stand p l e R s m args below meth c T' locs cells slots → T'.heap = h → Gf p e below P T' m pc' Ls (v :: st')) : Gf p e below P T m pc Ls st := by
  subst hp hst
  obtain ⟨T', X', e', k⟩ := getF X hx hZ hown w via eT F (g := mkF m pc Ls _) rfl rfl (hb hby hd)
  exact Go.step k (g T' X' e')
theorem g_getS (X : Stand p l e R s m args below meth c T locs cells slots) (hx : p.tables.exec = Jvm.exec) (hby : c.code = code) (hZ : Z.Warmed39 s.vm) (hown : s.vm.findClass own = some m.cls) {R0 O n d host : String} {i : Nat} {v : Value} (w : (Cond.fieldLink own i R0 n d).before a0 Z = true ∨ (Cond.fieldLinkNest own i R0 n d host).before a0 Z = true) (via : Via Z R0 O n d) (eT : T.heap = h) (F : Sta Z h O n d v)
    (hd : decode code pc = .ok (.getstatic i, 3)) (hp : pc + 3 = pc') (g : ∀ (T' : State), Stand p l e R s m args below meth c T' locs cells slots → T'.heap = h → Gf p e below P T' m pc' Ls (v :: st)) : Gf p e below P T m pc Ls st := by
  subst hp
  obtain ⟨T', X', e', k⟩ := getS2 X hx hZ hown w via eT F (g := mkF m pc Ls st) rfl (hb hby hd)
  exact Go.step k (g T' X' e')
theorem g_putF (X : Stand p l e R s m args below meth c T locs cells slots) (hx : p.tables.exec = Jvm.exec) (hby : c.code = code) (hZ : Z.Warmed39 s.vm) (hown : s.vm.findClass own = some m.cls) {R0 O n d host C : String} {i kk : Nat} {ty : FieldType} {v old : Value} (w : (Cond.fieldLink own i R0 n d).before a0 Z = true ∨ (Cond.fieldLinkNest own i R0 n d host).before a0 Z = true) (via : Via Z R0 O n d) (eT : T.heap = h) (F : Fld Z h a O n d old) (E : Exa Z h a C)
    (L : (Cond.lays C O n d).before a0 Z = true ∨ ((Cond.laysFinal C O n d).before a0 Z = true ∧ own = O ∧ meth.name = "<init>")) (wi : (Cond.instantiable C kk).before a0 Z = true) (hty : parseFieldDescriptor d = some ty) (hn : narrow ty v = v) (hf : fits ty v = true)
    (hst : st = v :: .ref a :: st') (hd : decode code pc = .ok (.putfield i, 3)) (hp : pc + 3 = pc') {k0 : Nat} (N : Fr k0 locs) (q : k0 ≤ a)
    (g : ∀ (T' : State) (h' : Heap), Stand p l e R s m args below meth c T' (locs ++ [⟨a, Jvm.RoadKit.slotOf Z O n d⟩]) cells slots → T'.heap = h' → Wr h h' a (Jvm.RoadKit.slotOf Z O n d) v → Fr k0 (locs ++ [⟨a, Jvm.RoadKit.slotOf Z O n d⟩]) → Gf p e below P T' m pc' Ls st') : Gf p e below P T m pc Ls st := by
  subst hp hst
  obtain ⟨T', h', X', e', W', k⟩ := putF X hx hZ hown w via eT F E L wi hty hn hf (g := mkF m pc Ls _) rfl rfl (hb hby hd)
  exact Go.step k (g T' h' X' e' W' (Fr.snoc X' N q))
/-! the calls, by a callee's contract -/
def Con (l : Launch) (Z : State) (y : MethodName) (bytes : ByteArray) (maxL : Nat) (ret : Option FieldType) (ws : List Cond) (rm : Room) (as : Array Value) (h : Heap) (Q : Option Value → Heap → List Loc → Prop) : Prop :=
  MetFree l y (head1 (Cond.code y bytes maxL ret :: ws) rm) (fun a U => a = as ∧ Z.Warmed39 U.vm ∧ U.heap = h) (fun _ _ _ _ _ => True) (fun _ U o U' => ∃ v L, o = .returned v ∧ Q v U'.heap L ∧ FrameEnd U o U' L rm.cells rm.slots)
theorem Con.start {y : MethodName} {bytes : ByteArray} {maxL : Nat} {ret : Option FieldType} {ws : List Cond} {as : Array Value} (Ls : Array Slot) (hn : plainFor y = true) (hef : ∀ m, entryFrame m as maxL = mkF m 0 Ls [])
    (k : ∀ (p : Program) (e : Env) (s : State) (m : MethodId) (below : List Frame) (meth : Method) (c : Code) (s₁ : State) (P : Outcome → State → Prop), Stand p l e rm s m as below meth c s₁ [] 0 0 → p.tables.exec = Jvm.exec → c.code = bytes → c.maxLocals = maxL → meth.sig.returnType = ret → meth.locks = false → s.vm.findClass y.cls = some m.cls → meth.name = y.name → Z.Warmed39 s.vm → s₁.heap = h → FinR l s rm Q P → Gf p e below P s₁ m 0 Ls []) :
    Con l Z y bytes maxL ret ws rm as h Q := by
  refine MetFree.of_bodySF hn hisR ?_
  intro p e s m args below meth c s₁ Bd hml0 hP hK
  obtain ⟨rfl, hZ, hh⟩ := hP
  have e0 : s₁.heap = h := by rw [← hh, Bd.state]; rfl
  obtain ⟨s2, o, h1, h2⟩ := k p e s m below meth c s₁ _ (Stand.of_body Bd) Bd.exec Bd.bytes hml0 Bd.returns (BodyLoose.notSynchronized Bd) (findClass_of_methodNamed Bd.named) (name_of_methodNamed Bd.named Bd.method).1 hZ e0 (fun o U q => q)
  exact ⟨s2, o, castTop (hef m) h1, h2⟩
theorem g_callS (X : Stand p l e R s m args below meth c T locs cells slots) (hx : p.tables.exec = Jvm.exec) (hby : c.code = code) (hml : Ls.size = c.maxLocals) (hZ : Z.Warmed39 s.vm) (hown : s.vm.findClass own = some m.cls) {i : Nat} {y : MethodName} {bytes : ByteArray} {maxL W : Nat} {ret : Option FieldType} {ps : List FieldType} {argsL : List Value} (eT : T.heap = h)
    (hM : Con l Z y bytes maxL ret [] rm argsL.toArray h Q) (w1 : (Cond.methodLink own i y).before a0 Z = true) (w2 : (Cond.static y).before a0 Z = true) (w3 : (Cond.initialized y.cls).before a0 Z = true) (w4 : (Cond.code y bytes maxL ret).before a0 Z = true) (hy : y.cls ≠ "java/lang/invoke/MethodHandle" ∧ y.cls ≠ "java/lang/invoke/VarHandle")
    (hpd : parseMethodDescriptor y.desc = some ⟨ps, ret⟩) (hlen : argsL.length = ps.length) (hst : st = argsL.reverse ++ st') (hW : 2 * 0 + (st'.map fun v => v.category).sum = W) (hf : rm.frames + 1 ≤ R.frames) (hl : W + (maxL + 11) + rm.locals ≤ R.locals) (hc : cells + rm.cells ≤ R.cells) (hs : slots + rm.slots ≤ R.slots)
    (hd : decode code pc = .ok (.invokestatic i, 3)) (hp : pc + 3 = pc')
    (g : ∀ (T' : State) (v : Option Value) (L : List Loc), Stand p l e R s m args below meth c T' (locs ++ L) (cells + rm.cells) (slots + rm.slots) → Q v T'.heap L → Gf p e below P T' m pc' Ls (v.toList ++ st')) : Gf p e below P T m pc Ls st := by
  subst hp hst
  obtain ⟨v, _, ⟨T', L', k', n'⟩, -, X', ⟨Lc, hQ, hl', hy', hz'⟩, k⟩ := Jvm.LawKit.callS X hx (y := y) hown (mvT hZ w1) (mvT hZ w2) (mvT hZ w3) (mvT hZ w4) hy (backOf (W := W) hM hZ w4 w3 hf hl) (g := mkF m pc Ls _) rfl hml (argsL := argsL) (rest := st') (lenOf hpd hlen) rfl (Nat.le_of_eq hW) (hb hby hd) (fun _ _ => ⟨rfl, eT, hc, hs⟩)
  dsimp only [Pt.U, Pt.locs, Pt.cells, Pt.slots] at X' hl' hy' hz' k hQ
  subst hl' hy' hz'
  exact Go.step k (g T' v Lc X' hQ)
theorem g_init (X : Stand p l e R s m args below meth c T locs cells slots) (hx : p.tables.exec = Jvm.exec) (hby : c.code = code) (hml : Ls.size = c.maxLocals) (hZ : Z.Warmed39 s.vm) (hown : s.vm.findClass own = some m.cls) {i : Nat} {y : MethodName} {bytes : ByteArray} {maxL W : Nat} {ps : List FieldType} {argsL : List Value} (hy1 : y.name = "<init>") (eT : T.heap = h)
    (hM : Con l Z y bytes maxL none [] rm (.ref a :: argsL).toArray h Q) (w1 : (Cond.methodLink own i y).before a0 Z = true) (w2 : (Cond.instanceMethod y).before a0 Z = true) (w3 : (Cond.initialized y.cls).before a0 Z = true) (w4 : (Cond.code y bytes maxL none).before a0 Z = true) (hy : y.cls ≠ "java/lang/invoke/MethodHandle" ∧ y.cls ≠ "java/lang/invoke/VarHandle")
    (hpd : parseMethodDescriptor y.desc = some ⟨ps, none⟩) (hlen : argsL.length = ps.length) (hst : st = argsL.reverse ++ .ref a :: st') (hW : 2 * 0 + (st'.map fun v => v.category).sum = W) (hf : rm.frames + 1 ≤ R.frames) (hl : W + (maxL + 11) + rm.locals ≤ R.locals) (hc : cells + rm.cells ≤ R.cells) (hs : slots + rm.slots ≤ R.slots)
    (hd : decode code pc = .ok (.invokespecial i, 3)) (hp : pc + 3 = pc')
    (g : ∀ (T' : State) (v : Option Value) (L : List Loc), Stand p l e R s m args below meth c T' (locs ++ L) (cells + rm.cells) (slots + rm.slots) → Q v T'.heap L → Gf p e below P T' m pc' Ls (v.toList ++ st')) : Gf p e below P T m pc Ls st := by
  subst hp hst
  obtain ⟨v, _, ⟨T', L', k', n'⟩, -, X', ⟨Lc, hQ, hl', hy', hz'⟩, k⟩ := X.specialBack hx (y := y) hy1 hown (mvT hZ w1) (mvT hZ w2) (mvT hZ w4) hy (backOf (W := W) hM hZ w4 w3 hf hl) (g := mkF m pc Ls _) rfl hml (Steps.refl _) (a := a) (argsL := argsL) (rest := st') (lenOf hpd hlen) rfl (Nat.le_of_eq hW) (hb hby hd) (fun _ _ => ⟨rfl, eT, hc, hs⟩)
  dsimp only [Pt.U, Pt.locs, Pt.cells, Pt.slots] at X' hl' hy' hz' k hQ
  subst hl' hy' hz'
  exact Go.step (fun t k2 => k.trans k2) (g T' v Lc X' hQ)
theorem g_virt (X : Stand p l e R s m args below meth c T locs cells slots) (hx : p.tables.exec = Jvm.exec) (hby : c.code = code) (hml : Ls.size = c.maxLocals) (hZ : Z.Warmed39 s.vm) (hown : s.vm.findClass own = some m.cls) {i : Nat} {y : MethodName} {bytes : ByteArray} {maxL W : Nat} {ret : Option FieldType} {ps : List FieldType} {argsL : List Value} {C : String} (eT : T.heap = h)
    (hM : Con l Z y bytes maxL ret [] rm (.ref a :: argsL).toArray h Q) (w1 : (Cond.methodLink own i y).before a0 Z = true) (wd : (Cond.declares y).before a0 Z = true) (ws : (Cond.selects C y y).before a0 Z = true) (w2 : (Cond.instanceMethod y).before a0 Z = true) (w3 : (Cond.initialized y.cls).before a0 Z = true) (w4 : (Cond.code y bytes maxL ret).before a0 Z = true) (hy : y.cls ≠ "java/lang/invoke/MethodHandle" ∧ y.cls ≠ "java/lang/invoke/VarHandle") (E : Exa Z h a C)
    (hpd : parseMethodDescriptor y.desc = some ⟨ps, ret⟩) (hlen : argsL.length = ps.length) (hst : st = argsL.reverse ++ .ref a :: st') (hW : 2 * 0 + (st'.map fun v => v.category).sum = W) (hf : rm.frames + 1 ≤ R.frames) (hl : W + (maxL + 11) + rm.locals ≤ R.locals) (hc : cells + rm.cells ≤ R.cells) (hs : slots + rm.slots ≤ R.slots)
    (hd : decode code pc = .ok (.invokevirtual i, 3)) (hp : pc + 3 = pc')
    (g : ∀ (T' : State) (v : Option Value) (L : List Loc), Stand p l e R s m args below meth c T' (locs ++ L) (cells + rm.cells) (slots + rm.slots) → Q v T'.heap L → Gf p e below P T' m pc' Ls (v.toList ++ st')) : Gf p e below P T m pc Ls st := by
  subst hp hst
  obtain ⟨cq, kq, qa, qb, qc⟩ := isOf hZ eT E
  obtain ⟨v, _, ⟨T', L', k', n'⟩, -, X', ⟨Lc, hQ, hl', hy', hz'⟩, k⟩ := X.virtualBack hx (y := y) (z := y) hown (mvT hZ w1) (mvT hZ wd) (notFace_of_selects (args := #[]) (mvT hZ ws)) (mvT hZ ws) (mvT hZ w2) hy (backOf (W := W) hM hZ w4 w3 hf hl) qa qc (g := mkF m pc Ls _) rfl hml (Steps.refl _) (argsL := argsL) (rest := st') (lenOf hpd hlen) rfl (Nat.le_of_eq hW) (hb hby hd) (fun _ _ => ⟨rfl, eT, hc, hs⟩)
  dsimp only [Pt.U, Pt.locs, Pt.cells, Pt.slots] at X' hl' hy' hz' k hQ
  subst hl' hy' hz'
  exact Go.step (fun t k2 => k.trans k2) (g T' v Lc X' hQ)
theorem g_newA (X : Stand p l e R s m args below meth c T locs cells slots) (hx : p.tables.exec = Jvm.exec) (hby : c.code = code) (hZ : Z.Warmed39 s.vm) {aty : ArrayType} {n : Int32} {cap : Nat} (w : (Cond.arrayClass (newarray.typeOf aty)).before a0 Z = true) (eT : T.heap = h) (hst : st = .int n :: st') (hn : ¬ n < 0) (hcap : n.toNatClampNeg ≤ cap) (hb8 : cap * 8 ≤ 536870912)
    (hc : cells + 1 ≤ R.cells) (hl : slots + cap ≤ R.slots) (hd : decode code pc = .ok (.newarray aty, 2)) (hp : pc + 2 = pc') (k : Nat)
    (g : ∀ (T' : State) (h' : Heap) (cA : ClassId) (a : Addr), Stand p l e R s m args below meth c T' locs (cells + 1) (slots + cap) → T'.heap = h' → Ext h h' → Arv Z h' a cA (newarray.typeOf aty) n ([] ++ List.replicate k (defaultValue (newarray.typeOf aty))) (defaultValue (newarray.typeOf aty)) → a = h.size → Gf p e below P T' m pc' Ls (.ref a :: st')) : Gf p e below P T m pc Ls st := by
  subst hp hst
  obtain ⟨T', h', cA, X', e', E', A', k'⟩ := newP X hx hZ w eT (g := mkF m pc Ls _) rfl (hb hby hd) rfl hn hcap hb8 hc hl
  exact Go.step k' (g T' h' cA h.size X' e' E' ((Arv.new A' hn).pad (pad_rep [] _ k)) rfl)
theorem g_stC (X : Stand p l e R s m args below meth c T locs cells slots) (hx : p.tables.exec = Jvm.exec) (hby : c.code = code) (hZ : Z.Warmed39 s.vm) {cA : ClassId} {n j x : Int32} {vs : List Value} {dv : Value} (eT : T.heap = h) (V : Arv Z h a cA .char n vs dv) (hj : ¬ j < 0 ∧ j < n) (i : Nat) (hi : j.toNatClampNeg = i) (hl : i < vs.length) (hst : st = .int x :: .int j :: .ref a :: st') (hd : decode code pc = .ok (.castore, 1)) (hp : pc + 1 = pc') {k0 : Nat} (N : Fr k0 locs) (q : k0 ≤ a)
    (g : ∀ (T' : State) (h' : Heap), Stand p l e R s m args below meth c T' (locs ++ [⟨a, j.toNatClampNeg⟩]) cells slots → T'.heap = h' → Wr h h' a j.toNatClampNeg (.int (nar .char x)) → Fr k0 (locs ++ [⟨a, j.toNatClampNeg⟩]) → Arv Z h' a cA .char n (vs.set i (.int (nar .char x))) dv → Gf p e below P T' m pc' Ls st') : Gf p e below P T m pc Ls st := by
  subst hp hst
  obtain ⟨c1, A1, q1, S1, M1, H1, U1⟩ := id V
  obtain ⟨T', h', X', e', W', k'⟩ := stC X hx hZ eT A1 (inb_of S1 hj) (g := mkF m pc Ls _) rfl rfl (hb hby hd)
  exact Go.step k' (g T' h' X' e' W' (Fr.snoc X' N q) (Arv.set A1 q1 S1 M1 H1 U1 (fits_nar_char _) W' i hi hl))
theorem g_stD (X : Stand p l e R s m args below meth c T locs cells slots) (hx : p.tables.exec = Jvm.exec) (hby : c.code = code) (hZ : Z.Warmed39 s.vm) {cA : ClassId} {n j : Int32} {x : UInt64} {vs : List Value} {dv : Value} (eT : T.heap = h) (V : Arv Z h a cA .double n vs dv) (hj : ¬ j < 0 ∧ j < n) (i : Nat) (hi : j.toNatClampNeg = i) (hl : i < vs.length) (hst : st = .double x :: .int j :: .ref a :: st') (hd : decode code pc = .ok (.dastore, 1)) (hp : pc + 1 = pc') {k0 : Nat} (N : Fr k0 locs) (q : k0 ≤ a)
    (g : ∀ (T' : State) (h' : Heap), Stand p l e R s m args below meth c T' (locs ++ [⟨a, j.toNatClampNeg⟩]) cells slots → T'.heap = h' → Wr h h' a j.toNatClampNeg (.double x) → Fr k0 (locs ++ [⟨a, j.toNatClampNeg⟩]) → Arv Z h' a cA .double n (vs.set i (.double x)) dv → Gf p e below P T' m pc' Ls st') : Gf p e below P T m pc Ls st := by
  subst hp hst
  obtain ⟨c1, A1, q1, S1, M1, H1, U1⟩ := id V
  obtain ⟨T', h', X', e', W', k'⟩ := stD X hx hZ eT A1 (inb_of S1 hj) (g := mkF m pc Ls _) rfl rfl (hb hby hd)
  exact Go.step k' (g T' h' X' e' W' (Fr.snoc X' N q) (Arv.set A1 q1 S1 M1 H1 U1 rfl W' i hi hl))
theorem g_ldD (X : Stand p l e R s m args below meth c T locs cells slots) (hx : p.tables.exec = Jvm.exec) (hby : c.code = code) (hZ : Z.Warmed39 s.vm) {cA : ClassId} {n j : Int32} {v : UInt64} {vs : List Value} {dv : Value} (eT : T.heap = h) (V : Arv Z h a cA .double n vs dv) (hj : ¬ j < 0 ∧ j < n) (hv : vs.getD j.toNatClampNeg dv = .double v) (hst : st = .int j :: .ref a :: st') (hd : decode code pc = .ok (.daload, 1)) (hp : pc + 1 = pc')
    (g : Gf p e below P T m pc' Ls (.double v :: st')) : Gf p e below P T m pc Ls st := by
  subst hp hst
  obtain ⟨c1, A1, q1, S1, M1, H1, U1⟩ := id V
  have hj' := inb_of S1 hj
  exact Go.step (fun t k => X.daload hx (a := a) (cell := c1) (j := j) (v := .double v) (by rw [eT]; exact A1.1) (State.isArrayOf_alike hZ.alike A1.2.1) A1.2.2 hj' (Has.at H1 hj' hv) (g := mkF m pc Ls _) rfl rfl (hb hby hd) t k) g
theorem g_absD (X : Stand p l e R s m args below meth c T locs cells slots) (hx : p.tables.exec = Jvm.exec) (hby : c.code = code) (hml : Ls.size = c.maxLocals) (hZ : Z.Warmed39 s.vm) (hown : s.vm.findClass own = some m.cls) {i : Nat} {x v : UInt64} (eT : T.heap = h) (w1 : (Cond.methodLink own i Jvm.Free.Fl.Abs.absDN).before a0 Z = true) (w2 : (Cond.static Jvm.Free.Fl.Abs.absDN).before a0 Z = true) (w3 : (Cond.initialized "java/lang/Math").before a0 Z = true) (w4 : (Cond.code Jvm.Free.Fl.Abs.absDN Jvm.Free.Fl.Abs.absDCode 2 (some .double)).before a0 Z = true)
    (hn : Jvm.Free.Fl.NoNaN64 x) (hv : x &&& 0x7fffffffffffffff = v) (hst : st = .double x :: st') {W : Nat} (hW : 2 * 0 + (st'.map fun v => v.category).sum = W) (hf : 1 ≤ R.frames) (hl : W + 13 ≤ R.locals) (hc : cells ≤ R.cells) (hs : slots ≤ R.slots) (hd : decode code pc = .ok (.invokestatic i, 3)) (hp : pc + 3 = pc')
    (g : ∀ (T' : State), Stand p l e R s m args below meth c T' locs cells slots → T'.heap = h → Gf p e below P T' m pc' Ls (.double v :: st')) : Gf p e below P T m pc Ls st := by
  subst hp hst hv
  obtain ⟨T', X', e', k⟩ := natS X hx hZ hown w1 w2 w3 w4 (by decide) eT (F := fun a' => a' = #[.double x] ∧ Jvm.Free.Fl.NoNaN64 x) (fun hcode => Jvm.Free.Fl.Abs.absD_pays x hcode hf hl) (g := mkF m pc Ls _) rfl hml (argsL := [.double x]) (rest := st') (lenOf (ps := [.double]) (r := some .double) (by decide +kernel) rfl) rfl (Nat.le_of_eq hW) (hb hby hd) hc hs ⟨rfl, hn⟩ rfl
  exact Go.step k (g T' X' e')
theorem g_maxD (X : Stand p l e R s m args below meth c T locs cells slots) (hx : p.tables.exec = Jvm.exec) (hby : c.code = code) (hml : Ls.size = c.maxLocals) (hZ : Z.Warmed39 s.vm) (hown : s.vm.findClass own = some m.cls) {i : Nat} {x y v : UInt64} (eT : T.heap = h) (w1 : (Cond.methodLink own i Jvm.Free.Fl.Abs.maxDN).before a0 Z = true) (w2 : (Cond.static Jvm.Free.Fl.Abs.maxDN).before a0 Z = true) (w3 : (Cond.initialized "java/lang/Math").before a0 Z = true) (w4 : (Cond.code Jvm.Free.Fl.Abs.maxDN Jvm.Free.Fl.Abs.maxDCode 4 (some .double)).before a0 Z = true)
    (hn : Jvm.Free.Fl.NoNaN64 x) (hm : Jvm.Free.Fl.NoNaN64 y) (hv : Jvm.Native.java_lang_Math.nans.pick64 true x y = v) (hst : st = .double y :: .double x :: st') {W : Nat} (hW : 2 * 0 + (st'.map fun v => v.category).sum = W) (hf : 1 ≤ R.frames) (hl : W + 15 ≤ R.locals) (hc : cells ≤ R.cells) (hs : slots ≤ R.slots) (hd : decode code pc = .ok (.invokestatic i, 3)) (hp : pc + 3 = pc')
    (g : ∀ (T' : State), Stand p l e R s m args below meth c T' locs cells slots → T'.heap = h → Gf p e below P T' m pc' Ls (.double v :: st')) : Gf p e below P T m pc Ls st := by
  subst hp hst hv
  obtain ⟨T', X', e', k⟩ := natS X hx hZ hown w1 w2 w3 w4 (by decide) eT (F := fun a' => a' = #[.double x, .double y] ∧ Jvm.Free.Fl.NoNaN64 x ∧ Jvm.Free.Fl.NoNaN64 y) (fun hcode => Jvm.Free.Fl.Abs.maxD_pays x y hcode hf hl) (g := mkF m pc Ls _) rfl hml (argsL := [.double x, .double y]) (rest := st') (lenOf (ps := [.double, .double]) (r := some .double) (by decide +kernel) rfl) rfl (Nat.le_of_eq hW) (hb hby hd) hc hs ⟨rfl, hn, hm⟩ rfl
  exact Go.step k (g T' X' e')
theorem g_pop2D (X : Stand p l e R s m args below meth c T locs cells slots) (hx : p.tables.exec = Jvm.exec) (hby : c.code = code) {x : UInt64} (hd : decode code pc = .ok (.pop2, 1)) (hst : st = .double x :: st') (hp : pc + 1 = pc') (g : Gf p e below P T m pc' Ls st') : Gf p e below P T m pc Ls st := by
  subst hp hst
  have hd' := hb hby hd
  refine Go.step (fun t k => ?_) g
  show Steps p.tables e below (T.setTop { method := m, pc := pc, locals := Ls, stack := .double x :: st', locked := none }) t
  jvm_step X.here [X.here.top, hx, hd', Value.category]
  exact k
/-! where a String constant may be loaded for the first time: the Stand lies over (s.setVm vm0) -/
theorem g_ldcS {vm0 : Vm} (X : Stand p l e R (s.setVm vm0) m args below meth c T locs cells slots) (hx : p.tables.exec = Jvm.exec) (hby : c.code = code) (hZ : Z.Warmed39 vm0) (hown : vm0.findClass own = some m.cls) {i n : Nat} {text : String} (w : (Cond.stringLink own i text).before a0 Z = true) (wS : ∀ a ∈ Bundle.stringAtoms, a.before a0 Z = true) (eT : T.heap = h) {k0 : Nat} (hS : s.Since vm0 k0) (hk : k0 ≤ h.size)
    (hd : decode code pc = .ok (.ldc i, 2)) (hp : pc + 2 = pc') (hn : 4 * text.toList.length ≤ n) (hbig : n ≤ 536870912) (hc : cells + 2 ≤ R.cells) (hl : slots + (n + 4) ≤ R.slots)
    (g : ∀ (a : Addr) (T' : State) (h' : Heap) (k1 : Nat), Stand p l e R (s.setVm T'.vm) m args below meth c T' locs (cells + 2) (slots + (n + 4)) → T'.heap = h' → Ext h h' → s.Since T'.vm k1 → k1 ≤ h'.size → Z.Warmed39 (s.setVm T'.vm).vm → (s.setVm T'.vm).vm.findClass own = some m.cls → Gf p e below P T' m pc' Ls (.ref a :: st)) : Gf p e below P T m pc Ls st := by
  subst hp
  obtain ⟨a, T', h', k1, X', e', E', hS', hk', hZ', hown', k⟩ := ldcS X hx hZ hown w wS eT hS hk (g := mkF m pc Ls st) rfl (hb hby hd) hn hbig hc hl
  exact Go.step k (g a T' h' k1 X' e' E' hS' hk' hZ' hown')
def ConW (l : Launch) (Z : State) (y : MethodName) (bytes : ByteArray) (maxL : Nat) (ret : Option FieldType) (ws : List Cond) (rm : Room) (as : Array Value) (h : Heap) (Q : Option Value → Heap → List Loc → Prop) : Prop :=
  MetFree l y (head1 (Cond.code y bytes maxL ret :: ws) rm) (fun a U => a = as ∧ Z.Warmed39 U.vm ∧ U.heap = h) (fun _ _ _ _ _ => True) (fun _ U o U' => ∃ v L, o = .returned v ∧ Q v U'.heap L ∧ ReturnedEndW U o U' L rm.cells rm.slots)
def FinW (l : Launch) (s : State) (rm : Room) (Q : Option Value → Heap → List Loc → Prop) (P : Outcome → State → Prop) : Prop := ∀ o U, (∃ v L, o = .returned v ∧ Q v U.heap L ∧ ReturnedEndW s o U L rm.cells rm.slots) → P o U
theorem ConW.start {y : MethodName} {bytes : ByteArray} {maxL : Nat} {ret : Option FieldType} {ws : List Cond} {as : Array Value} (Ls : Array Slot) (hn : plainFor y = true) (hef : ∀ m, entryFrame m as maxL = mkF m 0 Ls [])
    (k : ∀ (p : Program) (e : Env) (s : State) (m : MethodId) (below : List Frame) (meth : Method) (c : Code) (s₁ : State) (P : Outcome → State → Prop), Stand p l e rm (s.setVm s.vm) m as below meth c s₁ [] 0 0 → p.tables.exec = Jvm.exec → c.code = bytes → c.maxLocals = maxL → meth.sig.returnType = ret → meth.locks = false → (s.setVm s.vm).vm.findClass y.cls = some m.cls → meth.name = y.name → Z.Warmed39 (s.setVm s.vm).vm → s₁.heap = h → FinW l s rm Q P → s.Since s.vm 0 → Gf p e below P s₁ m 0 Ls []) :
    ConW l Z y bytes maxL ret ws rm as h Q := by
  refine MetFree.of_bodySF hn hisR ?_
  intro p e s m args below meth c s₁ Bd hml0 hP hK
  obtain ⟨rfl, hZ, hh⟩ := hP
  have e0 : s₁.heap = h := by rw [← hh, Bd.state]; rfl
  obtain ⟨s2, o, h1, h2⟩ := k p e s m below meth c s₁ _ (Stand.of_body Bd) Bd.exec Bd.bytes hml0 Bd.returns (BodyLoose.notSynchronized Bd) (findClass_of_methodNamed Bd.named) (name_of_methodNamed Bd.named Bd.method).1 hZ e0 (fun o U q => q) ((State.WarmedH.refl s).since 0)
  exact ⟨s2, o, castTop (hef m) h1, h2⟩
theorem own_endW {s t : State} {o : Outcome} {L : List Loc} {k n k' n' : Nat} (h : ReturnedEndW s o t L k n) (hk : k ≤ k') (hn : n ≤ n') : ReturnedEndW s o t L k' n' := ⟨h.1, h.2.1, h.2.2.1, h.2.2.2.mono hk hn⟩
theorem g_retVW {vm0 : Vm} (X : Stand p l e R (s.setVm vm0) m args below meth c T locs cells slots) (hx : p.tables.exec = Jvm.exec) (hby : c.code = code) {k0 : Nat} (hS : s.Since vm0 k0) (hk : k0 ≤ h.size) (hf : FinW l s rm Q P) (hlk : meth.locks = false) {t : FieldType} {i : Instr} {w : Value} (hret : meth.sig.returnType = some t) (hd : decode code pc = .ok (i, 1)) (hst : st = w :: st') (hn : narrow t w = w)
    (hi : (i = .ireturn ∧ (t = .int ∨ t = .boolean ∨ t = .byte ∨ t = .char ∨ t = .short) ∧ ∃ z, w = .int z) ∨ (i = .lreturn ∧ t = .long ∧ ∃ z, w = .long z) ∨ (i = .dreturn ∧ t = .double ∧ ∃ z, w = .double z) ∨ (i = .freturn ∧ t = .float ∧ ∃ z, w = .float z) ∨ (i = .areturn ∧ t.isReference = true ∧ w.isRef = true))
    (hc : cells ≤ rm.cells) (hs : slots ≤ rm.slots) (eT : T.heap = h) (q : Q (some w) h locs) : Gf p e below P T m pc Ls st := by
  subst hst
  obtain ⟨fs, hr, hrun, hended, hE⟩ := X.leaveW hS (by rw [eT]; exact hk) (v := some w) (fun q => by rw [hret] at q; cases q) hlk
  exact ⟨_, _, retOut X hx hret hn hi (hb hby hd) hr, hrun, hended, hf _ _ ⟨_, _, rfl, by show Q (some w) T.heap locs; rw [eT]; exact q, own_endW hE hc hs⟩⟩
theorem g_retZW {vm0 : Vm} (X : Stand p l e R (s.setVm vm0) m args below meth c T locs cells slots) (hx : p.tables.exec = Jvm.exec) (hby : c.code = code) {k0 : Nat} (hS : s.Since vm0 k0) (hk : k0 ≤ h.size) (hf : FinW l s rm Q P) (hlk : meth.locks = false) {t : FieldType} {z w : Int32} (hret : meth.sig.returnType = some t) (hd : decode code pc = .ok (.ireturn, 1)) (hst : st = .int z :: st') (ht : t = .boolean ∨ t = .byte ∨ t = .char ∨ t = .short)
    (hw : nar t z = w) (hc : cells ≤ rm.cells) (hs : slots ≤ rm.slots) (eT : T.heap = h) (q : Q (some (.int w)) h locs) : Gf p e below P T m pc Ls st := by
  subst hst hw
  obtain ⟨fs, hr, hrun, hended, hE⟩ := X.leaveW hS (by rw [eT]; exact hk) (v := some (.int (nar t z))) (fun q => by rw [hret] at q; cases q) hlk
  exact ⟨_, _, retN X hx hret ht (hb hby hd) hr, hrun, hended, hf _ _ ⟨_, _, rfl, by show Q (some (.int (nar t z))) T.heap locs; rw [eT]; exact q, own_endW hE hc hs⟩⟩
theorem g_retW {vm0 : Vm} (X : Stand p l e R (s.setVm vm0) m args below meth c T locs cells slots) (hx : p.tables.exec = Jvm.exec) (hby : c.code = code) {k0 : Nat} (hS : s.Since vm0 k0) (hk : k0 ≤ h.size) (hf : FinW l s rm Q P) (hlk : meth.locks = false) (hret : meth.sig.returnType = none) (hd : decode code pc = .ok (.return_, 1)) (hst : st = [])
    (hc : cells ≤ rm.cells) (hs : slots ≤ rm.slots) (eT : T.heap = h) (q : Q none h locs) : Gf p e below P T m pc Ls st := by
  subst hst
  obtain ⟨fs, hr, hrun, hended, hE⟩ := X.leaveW hS (by rw [eT]; exact hk) (v := none) (fun _ => rfl) hlk
  exact ⟨_, _, X.returnOut hx hret (hb hby hd) hr, hrun, hended, hf _ _ ⟨_, _, rfl, by show Q none T.heap locs; rw [eT]; exact q, own_endW hE hc hs⟩⟩
theorem g_initW {vm0 : Vm} (X : Stand p l e R (s.setVm vm0) m args below meth c T locs cells slots) (hx : p.tables.exec = Jvm.exec) (hby : c.code = code) (hml : Ls.size = c.maxLocals) (hZ : Z.Warmed39 (s.setVm vm0).vm) (hown : (s.setVm vm0).vm.findClass own = some m.cls) {k0 : Nat} (hS : s.Since vm0 k0) (hk : k0 ≤ h.size) {i : Nat} {y : MethodName} {bytes : ByteArray} {maxL W : Nat} {ps : List FieldType} {argsL : List Value} (hy1 : y.name = "<init>") (eT : T.heap = h)
    (hM : ConW l Z y bytes maxL none [] rm (.ref a :: argsL).toArray h Q) (w1 : (Cond.methodLink own i y).before a0 Z = true) (w2 : (Cond.instanceMethod y).before a0 Z = true) (w3 : (Cond.initialized y.cls).before a0 Z = true) (w4 : (Cond.code y bytes maxL none).before a0 Z = true) (hy : y.cls ≠ "java/lang/invoke/MethodHandle" ∧ y.cls ≠ "java/lang/invoke/VarHandle")
    (hpd : parseMethodDescriptor y.desc = some ⟨ps, none⟩) (hlen : argsL.length = ps.length) (hst : st = argsL.reverse ++ .ref a :: st') (hW : 2 * 0 + (st'.map fun v => v.category).sum = W) (hf : rm.frames + 1 ≤ R.frames) (hl : W + (maxL + 11) + rm.locals ≤ R.locals) (hc : cells + rm.cells ≤ R.cells) (hs : slots + rm.slots ≤ R.slots)
    (hd : decode code pc = .ok (.invokespecial i, 3)) (hp : pc + 3 = pc')
    (g : ∀ (T' : State) (v : Option Value) (L : List Loc), Stand p l e R (s.setVm T'.vm) m args below meth c T' (locs ++ L) (cells + rm.cells) (slots + rm.slots) → Q v T'.heap L → s.Since T'.vm T'.heap.size → Z.Warmed39 (s.setVm T'.vm).vm → (s.setVm T'.vm).vm.findClass own = some m.cls → Gf p e below P T' m pc' Ls (v.toList ++ st')) : Gf p e below P T m pc Ls st := by
  subst hp hst
  obtain ⟨v, _, ⟨T', L', k', n'⟩, -, X', hS', hgr, ⟨Lc, hQ, hl', hy', hz'⟩, k⟩ := X.specialBackS hx (y := y) hy1 hown (mvT hZ w1) (mvT hZ w2) (mvT hZ w4) hy (backOfS (W := W) hM hZ w4 w3 hf hl) (g := mkF m pc Ls _) rfl hml (Steps.refl _) (a := a) (argsL := argsL) (rest := st') (lenOf hpd hlen) rfl (Nat.le_of_eq hW) (hb hby hd) (fun _ _ => ⟨rfl, eT, hc, hs⟩)
  dsimp only [Pt.U, Pt.locs, Pt.cells, Pt.slots] at X' hl' hy' hz' k hQ hS' hgr
  subst hl' hy' hz'
  have hZ' : Z.Warmed39 (s.setVm T'.vm).vm := State.Warmed39.trans (t := s.setVm vm0) hZ hS'.1
  exact Go.step (fun t k2 => k.trans k2) (g T' v Lc X' hQ (foldS hS (by rw [eT]; exact hk) hS' hgr) hZ' (by rw [show (s.setVm T'.vm).vm = T'.vm from rfl, hS'.1.alike.findClass]; exact hown))
theorem own_join {G : Prop} (P : Outcome → State → Prop) (X : Stand p l e R s m args below meth c T locs cells slots) (eT : T.heap = h) (pc : Nat) (Ls : Array Slot) (st : List Value) (J : ∀ T', Stand p l e R s m args below meth c T' locs cells slots → T'.heap = h → Gf p e below P T' m pc Ls st)
    (k : (∀ T', Stand p l e R s m args below meth c T' locs cells slots → T'.heap = h → Gf p e below P T' m pc Ls st) → G) : G := k J
end Steps1
theorem own_sta_keep {Z : State} {h h' : Heap} {ws : List Addr} {C n d : String} {v : Value} (F : Sta Z h C n d v) (K : Keep h h' ws) (q : ∀ x ∈ ws, ∃ C', Exa Z h x C') : Sta Z h' C n d v := by
  obtain ⟨cf, i, k, f, st, cell, h1, h2, h3, h4, h5, h6, h7⟩ := F
  refine ⟨cf, i, k, f, st, cell, h1, h2, h3, h4, K.2.1 st cell h5 fun hm => ?_, h6, h7⟩
  obtain ⟨C', cell', _, g1, -, -, g4, -⟩ := q st hm
  cases h5.symm.trans g1
  rw [g4] at h6
  cases h6
theorem own_ef {m : MethodId} {as : Array Value} {n : Nat} {Ls : Array Slot} (h : Jvm.Sym.laidSlots as.toList ++ List.replicate (n - (Jvm.Sym.laidSlots as.toList).length) .unset = Ls.toList) : entryFrame m as n = mkF m 0 Ls [] := by
  have e : argsToLocals as n = Ls := Array.toList_inj.mp (by rw [Jvm.Sym.argsToLocals_toList]; exact h)
  first | exact congrArg (fun L => mkF m 0 L []) e | (show mkF m 0 (argsToLocals as n) [] = mkF m 0 Ls []; rw [e])
theorem own_fitZ {z : Int32} (h : z = 0 ∨ z = 1) : fits .boolean (.int z) = true := by rcases h with rfl | rfl <;> rfl
theorem own_narZ {z : Int32} (h : z = 0 ∨ z = 1) : narrow .boolean (.int z) = .int z := by rcases h with rfl | rfl <;> rfl
theorem own_nar {z : Int32} (h : z = 0 ∨ z = 1) : nar .boolean z = z := by rcases h with rfl | rfl <;> rfl
theorem own_01 {c : Prop} [Decidable c] {z : Int32} (h : z = if c then 0 else 1) : z = 0 ∨ z = 1 := by subst h; split <;> simp
theorem own_10 {c : Prop} [Decidable c] {z : Int32} (h : z = if c then 1 else 0) : z = 0 ∨ z = 1 := by subst h; split <;> simp
end Jvm.Own
namespace Jvm.Own
open Jvm.FP Jvm.FP.Core
/-- a double's value in units of 2^(-1074) -/
abbrev zv (a : UInt64) : Int := zval b64 (val64 a)
theorem own_qmin : b64.qmin = -1074 := by decide +kernel
theorem own_qmax : b64.qmax = 971 := by decide +kernel
theorem ring1 {za zb d d' n n' o zV : Int} (h1 : za * d = n * o) (h2 : zb * d' = n' * o) (h3 : zV * (d * d') = n * n' * o) : za * zb * (d * d') = zV * o * (d * d') := by
  calc za * zb * (d * d') = (za * d) * (zb * d') := by ac_rfl
    _ = n * o * (n' * o) := by rw [h1, h2]
    _ = (n * n' * o) * o := by ac_rfl
    _ = zV * o * (d * d') := by rw [← h3]; ac_rfl
theorem ring2 {za zb d d' k n n' m o zV : Int} (h1 : za * d = n * o) (h2 : zb * d' = n' * o) (h3 : zV * k = m * o) (h : m * (d * n') = n * (d' * k)) : za * o * (d * (d' * k)) = zV * zb * (d * (d' * k)) := by
  calc za * o * (d * (d' * k)) = (za * d) * (o * (d' * k)) := by ac_rfl
    _ = (n * (d' * k)) * (o * o) := by rw [h1]; ac_rfl
    _ = (m * (d * n')) * (o * o) := by rw [h]
    _ = (m * o) * ((n' * o) * d) := by ac_rfl
    _ = (zV * k) * ((zb * d') * d) := by rw [h2, h3]
    _ = zV * zb * (d * (d' * k)) := by ac_rfl
theorem ring3 {z d d' n o : Int} (h : z * d = n * o) : z * (d * d') = n * d' * o := by rw [← Int.mul_assoc, h]; ac_rfl
theorem ring4 {z d d' n o : Int} (h : z * d' = n * o) : z * (d * d') = n * d * o := by rw [Int.mul_comm d, ← Int.mul_assoc, h]; ac_rfl
theorem own_fin {a : UInt64} (h : DFin a) : ∃ s c q, val64 a = .fin s c q ∧ Jvm.FP.Core.fits b64 (.fin s c q) := by
  obtain ⟨s, c, q, h⟩ := h
  exact ⟨s, c, q, h, h ▸ val64_fits a⟩
/-- what has a finite number's value is finite -/
theorem own_fin_of {x V : UInt64} (hx : val64 x ≠ .nan) (hV : DFin V) (h : (zv x).natAbs ≤ (zv V).natAbs) : DFin x := by
  have h1 := hV.zval_lt
  cases hv : val64 x with
  | nan => exact absurd hv hx
  | fin s c q => exact ⟨s, c, q, hv⟩
  | inf s =>
    exfalso
    unfold zv zval at h
    rw [natAbs_signed, natAbs_signed, hv] at h
    have h2 : b64.tails * 2 ^ (b64.exps - 2) ≤ zmag b64 (val64 V) := h
    exact absurd h1 (Nat.not_lt.mpr h2)
/-- Rv a n d: a is finite and of the value n / d -/
def Rv (a : UInt64) (n : Int) (d : Nat) : Prop := DFin a ∧ zv a * (d : Int) = n * (one64 : Int)
theorem one_pos : 0 < (one64 : Int) := Int.natCast_pos.mpr one64_pos
theorem round_units {s : Bool} {c : Nat} {q e0 : Int} {V : UInt64} (hV : DFin V) (h0 : e0 ≤ b64.qmin) (h0e : e0 ≤ q) (h : signed s (inUnits c q e0) = zv V * ((2 ^ (b64.qmin - e0).toNat : Nat) : Int)) : zval b64 (round b64 (.fin s c q)) = zv V := by
  have h1 := zval_round_le good_b64 (V := val64 V) (val64_fits V) hV.ne_nan h0 h0e (Int.le_of_eq h)
  have h2 := zval_round_ge good_b64 (V := val64 V) (val64_fits V) hV.ne_nan h0 h0e (Int.le_of_eq h.symm)
  exact Int.le_antisymm h1 h2
theorem dadd_zv {a b V : UInt64} (ha : DFin a) (hb : DFin b) (hV : DFin V) (h : zv a + zv b = zv V) : DFin (FP.dadd a b) ∧ zv (FP.dadd a b) = zv V := by
  have hn : val64 (FP.dadd a b) ≠ .nan := (notNaN_iff _).mp (dadd_out ha.notNaN hb)
  obtain ⟨s, c, q, h1, f1⟩ := own_fin ha
  obtain ⟨t, d, r, h2, f2⟩ := own_fin hb
  obtain ⟨sg, n, e, p1, p2, p3⟩ := sum_units f1 f2
  have hz : zv (FP.dadd a b) = zv V := by
    show zval b64 (val64 (Core.dadd a b)) = _
    rw [val64_dadd, h1, h2, p1]
    refine round_units hV (Int.le_refl _) p2 ?_
    rw [p3, Int.sub_self, Int.toNat_zero, Nat.pow_zero, ← h, ← h1, ← h2]
    exact (Int.mul_one _).symm
  exact ⟨own_fin_of hn hV (Nat.le_of_eq (by rw [hz])), hz⟩
theorem zv_dneg (a : UInt64) : zv (FP.dneg a) = -zv a := by
  show zval b64 (val64 (FP.dneg a)) = _
  rw [Jvm.FP.val64_dneg, zval_negate]
theorem fin_dneg {a : UInt64} (h : DFin a) : DFin (FP.dneg a) := by
  obtain ⟨s, c, q, h⟩ := h
  exact ⟨!s, c, q, by rw [Jvm.FP.val64_dneg, h]; rfl⟩
theorem dsub_zv {a b V : UInt64} (ha : DFin a) (hb : DFin b) (hV : DFin V) (h : zv a - zv b = zv V) : DFin (FP.dsub a b) ∧ zv (FP.dsub a b) = zv V := by
  have e : FP.dsub a b = FP.dadd a (FP.dneg b) := by rw [Jvm.FP.dneg_core hb.notNaN]; exact dsub_eq a b
  rw [e]
  refine dadd_zv ha (fin_dneg hb) hV ?_
  rw [zv_dneg]; omega
theorem dmul_zv {a b V : UInt64} (ha : DFin a) (hb : DFin b) (hV : DFin V) (h : zv a * zv b = zv V * (one64 : Int)) : DFin (FP.dmul a b) ∧ zv (FP.dmul a b) = zv V := by
  have hn : val64 (FP.dmul a b) ≠ .nan := (notNaN_iff _).mp (dmul_out ha hb)
  obtain ⟨s, c, q, h1, f1⟩ := own_fin ha
  obtain ⟨t, d, r, h2, f2⟩ := own_fin hb
  obtain ⟨p1, p2, p3⟩ := product_units f1 f2
  have hz : zv (FP.dmul a b) = zv V := by
    show zval b64 (val64 (Core.dmul a b)) = _
    rw [val64_dmul, h1, h2, p1]
    refine round_units hV (by have := own_qmin; omega) p2 ?_
    rw [p3, signed_xor, show (b64.qmin - 2 * b64.qmin).toNat = (-b64.qmin).toNat by omega, pow_qmin64, ← h]
    show _ = zval b64 (val64 a) * zval b64 (val64 b)
    rw [h1, h2]; rfl
  exact ⟨own_fin_of hn hV (Nat.le_of_eq (by rw [hz])), hz⟩
/-- the quotient of two finite numbers, as a rounding -/
theorem ddiv_val {a b : UInt64} {s t : Bool} {c d : Nat} {q r : Int} (h1 : val64 a = .fin s c q) (h2 : val64 b = .fin t d r) (hd : d ≠ 0) : val64 (FP.ddiv a b) = roundRatio b64 (s != t) c d (q - r) := by
  show val64 (Core.ddiv a b) = _
  rw [val64_ddiv, h1, h2]
  simp only [quotient, if_neg hd]
theorem zero_of {b : UInt64} {t : Bool} {d : Nat} {r : Int} (h2 : val64 b = .fin t d r) (hz : zv b ≠ 0) : d ≠ 0 := by
  intro h0
  apply hz
  show zval b64 (val64 b) = 0
  rw [h2, h0]
  show signed t (inUnits 0 r b64.qmin) = 0
  unfold inUnits
  rw [Nat.zero_mul, signed_zero]
theorem zv_mag {a : UInt64} {s : Bool} {c : Nat} {q : Int} (h : val64 a = .fin s c q) : zv a = signed s (inUnits c q b64.qmin) := by
  show zval b64 (val64 a) = _
  rw [h]; rfl
theorem ddiv_units {a b : UInt64} {s t : Bool} {c d : Nat} {q r : Int} (f1 : Jvm.FP.Core.fits b64 (.fin s c q)) (f2 : Jvm.FP.Core.fits b64 (.fin t d r)) :
    (2 * b64.qmin - r ≤ b64.qmin ∧ 2 * b64.qmin - r ≤ q - r) ∧ inUnits c (q - r) (2 * b64.qmin - r) = inUnits c q b64.qmin * one64 ∧ ∀ V : Nat, V * 2 ^ (b64.qmin - (2 * b64.qmin - r)).toNat * d = V * inUnits d r b64.qmin := by
  have hx1 := f1.2.1
  have hy1 := f2.2.1
  refine ⟨⟨by omega, by have := own_qmin; omega⟩, ?_, fun V => ?_⟩
  · rw [← pow_qmin64]; unfold inUnits
    rw [Nat.mul_assoc, ← Nat.pow_add]; congr 2; have := own_qmin; omega
  · unfold inUnits
    rw [Nat.mul_assoc, Nat.mul_comm _ d]; congr 3; omega
theorem ddiv_zv_le {a b V : UInt64} (ha : DFin a) (hb : DFin b) (hz : zv b ≠ 0) (hV : DFin V) (h : (zv a).natAbs * one64 ≤ (zv V).natAbs * (zv b).natAbs) : (zv (FP.ddiv a b)).natAbs ≤ (zv V).natAbs := by
  obtain ⟨s, c, q, h1, f1⟩ := own_fin ha
  obtain ⟨t, d, r, h2, f2⟩ := own_fin hb
  obtain ⟨u, k, w, h3, f3⟩ := own_fin hV
  have hd := zero_of h2 hz
  obtain ⟨⟨p1, p2⟩, p3, p4⟩ := ddiv_units (a := a) (b := b) f1 f2
  have hv := ddiv_val h1 h2 hd
  rw [zv_mag h1, zv_mag h2, zv_mag h3, natAbs_signed, natAbs_signed, natAbs_signed] at h
  unfold zv zval
  rw [natAbs_signed, natAbs_signed, hv, h3]
  refine zmag_roundRatio_le good_b64 (Nat.pos_of_ne_zero hd) f3 (by simp) p1 p2 ?_
  rw [p3, p4]
  exact h
theorem ddiv_zv_ge {a b V : UInt64} (ha : DFin a) (hb : DFin b) (hz : zv b ≠ 0) (hV : DFin V) (h : (zv V).natAbs * (zv b).natAbs ≤ (zv a).natAbs * one64) : (zv V).natAbs ≤ (zv (FP.ddiv a b)).natAbs := by
  obtain ⟨s, c, q, h1, f1⟩ := own_fin ha
  obtain ⟨t, d, r, h2, f2⟩ := own_fin hb
  obtain ⟨u, k, w, h3, f3⟩ := own_fin hV
  have hd := zero_of h2 hz
  obtain ⟨⟨p1, p2⟩, p3, p4⟩ := ddiv_units (a := a) (b := b) f1 f2
  have hv := ddiv_val h1 h2 hd
  rw [zv_mag h1, zv_mag h2, zv_mag h3, natAbs_signed, natAbs_signed, natAbs_signed] at h
  unfold zv zval
  rw [natAbs_signed, natAbs_signed, hv, h3]
  refine zmag_roundRatio_ge good_b64 (Nat.pos_of_ne_zero hd) f3 p1 p2 ?_
  rw [p3, p4]
  exact h
/-- the sign of a quotient -/
theorem ddiv_sign {a b : UInt64} (ha : DFin a) (hb : DFin b) (hz : zv b ≠ 0) : (0 ≤ zv a → 0 < zv b → 0 ≤ zv (FP.ddiv a b)) ∧ (zv a ≤ 0 → 0 < zv b → zv (FP.ddiv a b) ≤ 0) ∧ (0 ≤ zv a → zv b < 0 → zv (FP.ddiv a b) ≤ 0) ∧ (zv a ≤ 0 → zv b < 0 → 0 ≤ zv (FP.ddiv a b)) := by
  obtain ⟨s, c, q, h1, f1⟩ := own_fin ha
  obtain ⟨t, d, r, h2, f2⟩ := own_fin hb
  have hd := zero_of h2 hz
  have hv := ddiv_val h1 h2 hd
  have e3 : zv (FP.ddiv a b) = signed (s != t) (zmag b64 (val64 (FP.ddiv a b))) := by
    show signed (sgn (val64 (FP.ddiv a b))) _ = _
    rw [hv, sgn_roundRatio]
  have k0 : zv a = 0 → zv (FP.ddiv a b) = 0 := fun e => by
    have := ddiv_zv_le ha hb hz ha (by rw [e]; simp)
    rw [e] at this; omega
  have e1 := zv_mag h1
  have e2 := zv_mag h2
  cases s <;> cases t <;> simp [signed] at e1 e2 e3 <;> refine ⟨fun x y => ?_, fun x y => ?_, fun x y => ?_, fun x y => ?_⟩ <;> first | omega | (have := k0 (by omega); omega)
theorem ddiv_nn {a b : UInt64} (ha : DFin a) (hb : DFin b) (hz : zv b ≠ 0) : val64 (FP.ddiv a b) ≠ .nan := by
  obtain ⟨s, c, q, h1, f1⟩ := own_fin ha
  obtain ⟨t, d, r, h2, f2⟩ := own_fin hb
  rw [ddiv_val h1 h2 (zero_of h2 hz)]
  exact roundRatio_ne_nan _ _ _ _ _
theorem ddiv_zv {a b V : UInt64} (ha : DFin a) (hb : DFin b) (hz : zv b ≠ 0) (hV : DFin V) (h : zv a * (one64 : Int) = zv V * zv b) : DFin (FP.ddiv a b) ∧ zv (FP.ddiv a b) = zv V := by
  have hm : (zv a).natAbs * one64 = (zv V).natAbs * (zv b).natAbs := by
    have := congrArg Int.natAbs h
    rw [Int.natAbs_mul, Int.natAbs_mul, Int.natAbs_natCast] at this
    exact this
  have l1 := ddiv_zv_le ha hb hz hV (Nat.le_of_eq hm)
  have l2 := ddiv_zv_ge ha hb hz hV (Nat.le_of_eq hm.symm)
  have hn := ddiv_nn ha hb hz
  obtain ⟨s1, s2, s3, s4⟩ := ddiv_sign ha hb hz
  have p := one_pos
  refine ⟨own_fin_of hn hV l1, ?_⟩
  rcases Int.lt_or_gt_of_ne hz with hb' | hb'
  · rcases Int.le_total 0 (zv a) with ha' | ha'
    · have := s3 ha' hb'
      have : zv V ≤ 0 := by
        apply Int.not_lt.mp; intro hv
        have h1 := Int.mul_neg_of_pos_of_neg hv hb'
        have h2 := Int.mul_nonneg ha' (Int.le_of_lt p)
        omega
      omega
    · have := s4 ha' hb'
      have : 0 ≤ zv V := by
        apply Int.not_lt.mp; intro hv
        have h1 := Int.mul_pos_of_neg_of_neg hv hb'
        have h2 := Int.mul_nonpos_of_nonpos_of_nonneg ha' (Int.le_of_lt p)
        omega
      omega
  · rcases Int.le_total 0 (zv a) with ha' | ha'
    · have := s1 ha' hb'
      have : 0 ≤ zv V := by
        apply Int.not_lt.mp; intro hv
        have h1 := Int.mul_neg_of_neg_of_pos hv hb'
        have h2 := Int.mul_nonneg ha' (Int.le_of_lt p)
        omega
      omega
    · have := s2 ha' hb'
      have : zv V ≤ 0 := by
        apply Int.not_lt.mp; intro hv
        have h1 := Int.mul_pos hv hb'
        have h2 := Int.mul_nonpos_of_nonpos_of_nonneg ha' (Int.le_of_lt p)
        omega
      omega
/-- there is a double of each value m * 2^(e - 1074) -/
theorem rep (m : Int) (e : Nat) (hm : m.natAbs < 2 ^ 53) (he : e ≤ 2045) : ∃ V : UInt64, DFin V ∧ zv V = m * ((2 ^ e : Nat) : Int) := by
  have hq := own_qmin
  obtain ⟨c', q', h1, h2⟩ := round_exact good_b64 (decide (m < 0)) (c := m.natAbs) (q := (e : Int) - 1074) hm (by omega) (by rw [own_qmax]; omega)
  have hf := round_fits good_b64 (.fin (decide (m < 0)) m.natAbs ((e : Int) - 1074))
  have hv : val64 (of64 (round b64 (.fin (decide (m < 0)) m.natAbs ((e : Int) - 1074)))) = .fin (decide (m < 0)) c' q' := (val64_of64 hf).trans h1
  refine ⟨_, ⟨_, _, _, hv⟩, ?_⟩
  rw [zv_mag hv, h2]
  unfold inUnits
  rw [show ((e : Int) - 1074 - b64.qmin).toNat = e by omega, signed_mul]
  congr 1
  unfold signed
  by_cases h : m < 0 <;> simp [h] <;> omega
theorem rv_fin {a : UInt64} {n : Int} {d : Nat} (h : Rv a n d) : DFin a := h.1
theorem ex_rv (n : Int) (k : Nat) (hn : n.natAbs < 2 ^ 53) (hk : k ≤ 1074) : ∃ V, Rv V n (2 ^ k) := by
  obtain ⟨V, h1, h2⟩ := rep n (1074 - k) hn (by omega)
  refine ⟨V, h1, ?_⟩
  rw [h2, Int.mul_assoc, ← Int.natCast_mul, ← Nat.pow_add, show 1074 - k + k = 1074 by omega]; rfl
theorem ex_rvU (n : Int) (j : Nat) (hn : n.natAbs < 2 ^ 53) (hk : j ≤ 971) : ∃ V, Rv V (n * ((2 ^ j : Nat) : Int)) 1 := by
  obtain ⟨V, h1, h2⟩ := rep n (1074 + j) hn (by omega)
  refine ⟨V, h1, ?_⟩
  rw [h2, Nat.pow_add, Int.natCast_mul, Int.mul_comm ((2 ^ 1074 : Nat) : Int), ← Int.mul_assoc]
  exact Int.mul_one _
theorem rv_unique {a b : UInt64} {n : Int} {d : Nat} (hd : 0 < d) (ha : Rv a n d) (hb : Rv b n d) : zv a = zv b := by
  have h := ha.2.trans hb.2.symm
  exact Int.eq_of_mul_eq_mul_right (by omega) h
theorem rv_scale {a : UInt64} {n : Int} {d : Nat} (k : Nat) (h : Rv a n d) : Rv a (n * (k : Int)) (d * k) := by
  refine ⟨h.1, ?_⟩
  rw [Int.natCast_mul, ← Int.mul_assoc, h.2, Int.mul_assoc, Int.mul_assoc, Int.mul_comm (k : Int)]
theorem rv_unscale {a : UInt64} {n : Int} {d : Nat} (k : Nat) (hk : 0 < k) (h : Rv a (n * (k : Int)) (d * k)) : Rv a n d := by
  refine ⟨h.1, ?_⟩
  have h2 := h.2
  rw [Int.natCast_mul, ← Int.mul_assoc, Int.mul_assoc n, Int.mul_comm (k : Int) (one64 : Int), ← Int.mul_assoc] at h2
  exact Int.eq_of_mul_eq_mul_right (by omega) h2
theorem rv_i2d (n : Int32) : Rv (FP.i2d n) n.toInt 1 := ⟨i2d_fin n, by rw [show ((1 : Nat) : Int) = 1 from rfl, Int.mul_one]; exact DInt_zval (i2d_int n)⟩
theorem rv_l2d {n : Int64} (h : n.toInt.natAbs ≤ 2 ^ 53) : Rv (FP.l2d n) n.toInt 1 := ⟨l2d_fin n, by rw [show ((1 : Nat) : Int) = 1 from rfl, Int.mul_one]; exact DInt_zval (l2d_int h)⟩
theorem rv_neg {a : UInt64} {n : Int} {d : Nat} (h : Rv a n d) : Rv (FP.dneg a) (-n) d := ⟨fin_dneg h.1, by rw [zv_dneg, Int.neg_mul, Int.neg_mul, h.2]⟩
theorem rv_add {a b V : UInt64} {n n' : Int} {d : Nat} (hd : 0 < d) (ha : Rv a n d) (hb : Rv b n' d) (hV : Rv V (n + n') d) : Rv (FP.dadd a b) (n + n') d := by
  have e : zv a + zv b = zv V := by
    refine Int.eq_of_mul_eq_mul_right (a := (d : Int)) (by omega) ?_
    rw [Int.add_mul, ha.2, hb.2, hV.2, Int.add_mul]
  obtain ⟨h1, h2⟩ := dadd_zv ha.1 hb.1 hV.1 e
  exact ⟨h1, by rw [h2]; exact hV.2⟩
theorem rv_sub {a b V : UInt64} {n n' : Int} {d : Nat} (hd : 0 < d) (ha : Rv a n d) (hb : Rv b n' d) (hV : Rv V (n - n') d) : Rv (FP.dsub a b) (n - n') d := by
  have e : zv a - zv b = zv V := by
    refine Int.eq_of_mul_eq_mul_right (a := (d : Int)) (by omega) ?_
    rw [Int.sub_mul, ha.2, hb.2, hV.2, Int.sub_mul]
  obtain ⟨h1, h2⟩ := dsub_zv ha.1 hb.1 hV.1 e
  exact ⟨h1, by rw [h2]; exact hV.2⟩
theorem rv_mul {a b V : UInt64} {n n' : Int} {d d' : Nat} (hd : 0 < d) (hd' : 0 < d') (ha : Rv a n d) (hb : Rv b n' d') (hV : Rv V (n * n') (d * d')) : Rv (FP.dmul a b) (n * n') (d * d') := by
  have e : zv a * zv b = zv V * (one64 : Int) := by
    refine Int.eq_of_mul_eq_mul_right (a := ((d * d' : Nat) : Int)) (by have := Nat.mul_pos hd hd'; omega) ?_
    have h3 := hV.2
    rw [Int.natCast_mul] at h3 ⊢
    exact ring1 ha.2 hb.2 h3
  obtain ⟨h1, h2⟩ := dmul_zv ha.1 hb.1 hV.1 e
  exact ⟨h1, by rw [h2]; exact hV.2⟩
theorem rv_nz {b : UInt64} {n : Int} {d : Nat} (hb : Rv b n d) (hn : n ≠ 0) : zv b ≠ 0 := by
  intro h
  have h1 := hb.2
  rw [h, Int.zero_mul] at h1
  rcases Int.mul_eq_zero.mp h1.symm with h2 | h2
  · exact hn h2
  · have := one_pos; omega
theorem rv_div {a b V : UInt64} {n n' m : Int} {d d' k : Nat} (hd : 0 < d) (hd' : 0 < d') (hk : 0 < k) (ha : Rv a n d) (hb : Rv b n' d') (hn : n' ≠ 0) (hV : Rv V m k) (h : m * ((d : Int) * n') = n * ((d' : Int) * (k : Int))) : Rv (FP.ddiv a b) m k := by
  have e : zv a * (one64 : Int) = zv V * zv b := by
    refine Int.eq_of_mul_eq_mul_right (a := ((d * (d' * k) : Nat) : Int)) (by have := Nat.mul_pos hd (Nat.mul_pos hd' hk); omega) ?_
    rw [Int.natCast_mul, Int.natCast_mul]
    exact ring2 ha.2 hb.2 hV.2 h
  obtain ⟨h1, h2⟩ := ddiv_zv ha.1 hb.1 (rv_nz hb hn) hV.1 e
  exact ⟨h1, by rw [h2]; exact hV.2⟩
theorem cmp_mul (x y : Int) {k : Int} (hk : 0 < k) : compare x y = compare (x * k) (y * k) := (compare_mul_pos x y k hk).symm
theorem rv_cmp {a b : UInt64} {n n' : Int} {d d' : Nat} (hd : 0 < d) (hd' : 0 < d') (ha : Rv a n d) (hb : Rv b n' d') : FP.dcmp a b = some (compare (n * (d' : Int)) (n' * (d : Int))) := by
  show Core.dcmp a b = _
  rw [dcmp_zval ha.1.ne_nan hb.1.ne_nan]
  congr 1
  have p := one_pos
  rw [cmp_mul (zval b64 (val64 a)) _ (show 0 < ((d * d' : Nat) : Int) by have := Nat.mul_pos hd hd'; omega), cmp_mul (n * (d' : Int)) _ p]
  have h1 : zval b64 (val64 a) * ((d * d' : Nat) : Int) = n * (d' : Int) * (one64 : Int) := by rw [Int.natCast_mul]; exact ring3 ha.2
  have h2 : zval b64 (val64 b) * ((d * d' : Nat) : Int) = n' * (d : Int) * (one64 : Int) := by rw [Int.natCast_mul]; exact ring4 hb.2
  rw [h1, h2]
theorem zv_cmp {a b : UInt64} (ha : val64 a ≠ .nan) (hb : val64 b ≠ .nan) : FP.dcmp a b = some (compare (zv a) (zv b)) := dcmp_zval ha hb
theorem rv_zero : Rv 0 0 1 := ⟨⟨_, _, _, val64_zero⟩, by rw [show zv 0 = 0 from zval64_zero]; simp⟩
theorem rv_one : Rv 4607182418800017408 1 1 := ⟨⟨_, _, _, val64_dconst1⟩, by rw [show zv 4607182418800017408 = 1 * (one64 : Int) from DInt_zval dint_one]; simp⟩
theorem nn64 {a : UInt64} (h : val64 a ≠ .nan) : Jvm.Free.Fl.NoNaN64 a := Jvm.Free.Fl.noNaN64_no.mpr ((notNaN_iff a).mpr h)
theorem rv_nn {a : UInt64} {n : Int} {d : Nat} (h : Rv a n d) : Jvm.Free.Fl.NoNaN64 a := nn64 h.1.ne_nan
theorem rcv {a b : UInt64} {n n' : Int} {d d' : Nat} (hd : 0 < d) (hd' : 0 < d') (ha : Rv a n d) (hb : Rv b n' d') (o : Jvm.ClassFile.CmpOp) :
    (Jvm.Op.cmpValue (FP.dcmp a b) o < 0 ↔ n * (d' : Int) < n' * (d : Int)) ∧ (0 < Jvm.Op.cmpValue (FP.dcmp a b) o ↔ n' * (d : Int) < n * (d' : Int)) ∧ (Jvm.Op.cmpValue (FP.dcmp a b) o = 0 ↔ n * (d' : Int) = n' * (d : Int)) := by
  rw [rv_cmp hd hd' ha hb, compare_ite]
  generalize n * (d' : Int) = x
  generalize n' * (d : Int) = y
  split
  · exact ⟨⟨fun _ => by omega, fun _ => by cases o <;> decide⟩, ⟨fun h => absurd h (by cases o <;> decide), fun h => by omega⟩, ⟨fun h => absurd h (by cases o <;> decide), fun h => by omega⟩⟩
  · split
    · exact ⟨⟨fun h => absurd h (by cases o <;> decide), fun h => by omega⟩, ⟨fun h => absurd h (by cases o <;> decide), fun h => by omega⟩, ⟨fun _ => by omega, fun _ => by cases o <;> decide⟩⟩
    · exact ⟨⟨fun h => absurd h (by cases o <;> decide), fun h => by omega⟩, ⟨fun _ => by omega, fun _ => by cases o <;> decide⟩, ⟨fun h => absurd h (by cases o <;> decide), fun h => by omega⟩⟩
theorem zcv {a b : UInt64} (ha : val64 a ≠ .nan) (hb : val64 b ≠ .nan) (o : Jvm.ClassFile.CmpOp) :
    (Jvm.Op.cmpValue (FP.dcmp a b) o < 0 ↔ zv a < zv b) ∧ (0 < Jvm.Op.cmpValue (FP.dcmp a b) o ↔ zv b < zv a) ∧ (Jvm.Op.cmpValue (FP.dcmp a b) o = 0 ↔ zv a = zv b) := by
  rw [zv_cmp ha hb, compare_ite]
  generalize zv a = x
  generalize zv b = y
  split
  · exact ⟨⟨fun _ => by omega, fun _ => by cases o <;> decide⟩, ⟨fun h => absurd h (by cases o <;> decide), fun h => by omega⟩, ⟨fun h => absurd h (by cases o <;> decide), fun h => by omega⟩⟩
  · split
    · exact ⟨⟨fun h => absurd h (by cases o <;> decide), fun h => by omega⟩, ⟨fun h => absurd h (by cases o <;> decide), fun h => by omega⟩, ⟨fun _ => by omega, fun _ => by cases o <;> decide⟩⟩
    · exact ⟨⟨fun h => absurd h (by cases o <;> decide), fun h => by omega⟩, ⟨fun _ => by omega, fun _ => by cases o <;> decide⟩, ⟨fun h => absurd h (by cases o <;> decide), fun h => by omega⟩⟩
theorem own_isfinO {d : UInt64} (h : DFin d) (o : Jvm.ClassFile.CmpOp) : ¬ (0 : Int32) < Jvm.Op.cmpValue (FP.dcmp (d &&& 0x7fffffffffffffff) 9218868437227405311) o := by
  have h1 := (fin_bits d).mp h
  have n1 := mask_ne_nan h.ne_nan
  have n2 : val64 9218868437227405311 ≠ .nan := by rw [ne_nan]; decide
  have e : FP.dcmp (d &&& 0x7fffffffffffffff) 9218868437227405311 = _ := dcmp_key n1 n2
  rw [e, mask_key, show dkey 9218868437227405311 = 9218868437227405311 from by decide, compare_ite]
  split
  · cases o <;> decide
  · split
    · cases o <;> decide
    · omega
theorem own_isfin {d : UInt64} (h : DFin d) : ¬ (0 : Int32) < Jvm.Op.cmpValue (FP.dcmp (d &&& 0x7fffffffffffffff) 9218868437227405311) .g := own_isfinO h .g
theorem own_inf {d : UInt64} (h : DFin d) : Jvm.Op.cmpValue (FP.dcmp d 9218868437227405312) .g < (0 : Int32) := by
  rw [Jvm.RoadKit.dcmp_pinf (Jvm.Free.Fl.fin64_core.mpr h) .g]; decide
theorem own_pos {mu : UInt64} {n : Int} {d : Nat} (hd : 0 < d) (h : Rv mu n d) (hn : 0 < n) : (0 : Int32) < Jvm.Op.cmpValue (FP.dcmp mu 0) .l := (rcv hd (by decide) h rv_zero .l).2.1.mpr (by simp; omega)
/-- two quotients of one value are one -/
theorem ddiv_congr {a b a' b' : UInt64} (ha : DFin a) (hb : DFin b) (ha' : DFin a') (hb' : DFin b') (pa : 0 < zv a) (pb : 0 < zv b) (pa' : 0 < zv a') (pb' : 0 < zv b') (h : zv a * zv b' = zv a' * zv b) : val64 (FP.ddiv a b) = val64 (FP.ddiv a' b') := by
  obtain ⟨s, c, q, h1, f1⟩ := own_fin ha
  obtain ⟨t, d, r, h2, f2⟩ := own_fin hb
  obtain ⟨s', c', q', h3, f3⟩ := own_fin ha'
  obtain ⟨t', d', r', h4, f4⟩ := own_fin hb'
  have d1 := zero_of h2 (by omega)
  have d2 := zero_of h4 (by omega)
  rw [ddiv_val h1 h2 d1, ddiv_val h3 h4 d2]
  rw [zv_mag h1] at pa h
  rw [zv_mag h2] at pb h
  rw [zv_mag h3] at pa' h
  rw [zv_mag h4] at pb' h
  have sg : ∀ (u : Bool) (x : Nat), 0 < signed u x → u = false := fun u x hp => by cases u <;> simp [signed] at hp ⊢; omega
  obtain rfl := sg _ _ pa
  obtain rfl := sg _ _ pb
  obtain rfl := sg _ _ pa'
  obtain rfl := sg _ _ pb'
  have g1 := f1.2.1
  have g2 := f2.2.1
  have g3 := f3.2.1
  have g4 := f4.2.1
  refine roundRatio_congr (Nat.pos_of_ne_zero d1) (Nat.pos_of_ne_zero d2) ?_
  have h' : inUnits c q b64.qmin * inUnits d' r' b64.qmin = inUnits c' q' b64.qmin * inUnits d r b64.qmin := by
    have : ((inUnits c q b64.qmin * inUnits d' r' b64.qmin : Nat) : Int) = ((inUnits c' q' b64.qmin * inUnits d r b64.qmin : Nat) : Int) := by rw [Int.natCast_mul, Int.natCast_mul]; exact h
    exact Int.ofNat.inj this
  unfold inUnits at h'
  have k1 : c * 2 ^ (q - b64.qmin).toNat * (d' * 2 ^ (r' - b64.qmin).toNat) = c * d' * 2 ^ ((q - b64.qmin).toNat + (r' - b64.qmin).toNat) := by rw [Nat.pow_add, Nat.mul_mul_mul_comm]
  have k2 : c' * 2 ^ (q' - b64.qmin).toNat * (d * 2 ^ (r - b64.qmin).toNat) = c' * d * 2 ^ ((q' - b64.qmin).toNat + (r - b64.qmin).toNat) := by rw [Nat.pow_add, Nat.mul_mul_mul_comm]
  rw [k1, k2] at h'
  rcases Int.le_total (q' - r') (q - r) with hl | hl
  · have e1 : (q - b64.qmin).toNat + (r' - b64.qmin).toNat = (q - r - (q' - r')).toNat + ((q' - b64.qmin).toNat + (r - b64.qmin).toNat) := by omega
    rw [e1, Nat.pow_add, ← Nat.mul_assoc] at h'
    rw [show (q' - r' - (q - r)).toNat = 0 by omega, Nat.pow_zero, Nat.mul_one]
    exact Nat.eq_of_mul_eq_mul_right (Nat.two_pow_pos _) h'
  · have e1 : (q' - b64.qmin).toNat + (r - b64.qmin).toNat = (q' - r' - (q - r)).toNat + ((q - b64.qmin).toNat + (r' - b64.qmin).toNat) := by omega
    rw [e1, Nat.pow_add 2 (q' - r' - (q - r)).toNat, ← Nat.mul_assoc (c' * d)] at h'
    rw [show (q - r - (q' - r')).toNat = 0 by omega, Nat.pow_zero, Nat.mul_one]
    exact Nat.eq_of_mul_eq_mul_right (Nat.two_pow_pos _) h'
theorem own_same {x y : UInt64} (h : val64 x = val64 y) (hn : val64 x ≠ .nan) (o : Jvm.ClassFile.CmpOp) : Jvm.Op.cmpValue (FP.dcmp x y) o = 0 := by
  have e : FP.dcmp x y = some .eq := by
    show order (val64 x) (val64 y) = _
    rw [← h]; exact order_self hn
  rw [e]; cases o <;> rfl
theorem own_t0 {te t0 : Int32} (h : te &&& (31 : Int32) = t0) : ∃ k : Fin 32, t0 = Int32.ofNat k.val := by
  have e := Jvm.Kit.i32_mask te 31 (k := 5) (by decide) (by decide)
  rw [h] at e
  have hk : (t0.toInt.toNat) < 32 := by omega
  refine ⟨⟨t0.toInt.toNat, hk⟩, ?_⟩
  apply Int32.toInt_inj.mp
  rw [Int32.toInt_ofNat_small (by show t0.toInt.toNat < _; omega)]
  show _ = ((t0.toInt.toNat : Nat) : Int)
  omega
theorem own_shl : ∀ k : Fin 32, ((1 : Int64) <<< ((Int32.ofNat k.val) &&& 0x3f).toInt64).toInt = ((2 ^ k.val : Nat) : Int) := by decide
/-- (double) (1L << e), e below 32 -/
theorem own_pow {te t0 : Int32} {sc : UInt64} (h : te &&& (31 : Int32) = t0) (hs : FP.l2d ((1 : Int64) <<< (t0 &&& 0x3f).toInt64) = sc) : ∃ k : Nat, k < 32 ∧ Rv sc ((2 ^ k : Nat) : Int) 1 := by
  obtain ⟨k, hk⟩ := own_t0 h
  have e : ((1 : Int64) <<< (t0 &&& 0x3f).toInt64).toInt = ((2 ^ k.val : Nat) : Int) := by rw [hk]; exact own_shl k
  have hp : 2 ^ k.val ≤ 2 ^ 31 := Nat.pow_le_pow_right (by decide) (by have := k.isLt; omega)
  have := rv_l2d (n := (1 : Int64) <<< (t0 &&& 0x3f).toInt64) (by rw [e, Int.natAbs_natCast]; exact Nat.le_trans hp (by decide))
  rw [e, hs] at this
  exact ⟨k.val, k.isLt, this⟩
end Jvm.Own
namespace Jvm.Pilot.@@N@@
open Jvm Jvm.ClassFile Sem Op Lib Jvm.Free Jvm.Stand Jvm.LawKit Jvm.RoadKit Bundle Jvm.Own Jvm.Pilot.@@N@@.Jvm.D
theorem own_pd0 : parseMethodDescriptor "(D)Z" = some ⟨[.double], some .boolean⟩ := by decide +kernel
theorem own_pd1 : parseMethodDescriptor "()V" = some ⟨[], none⟩ := by decide +kernel
theorem own_pd2 : parseMethodDescriptor "(Ljava/lang/String;D)D" = some ⟨[(.object "java/lang/String"), .double], some .double⟩ := by decide +kernel
theorem own_fd0 : parseFieldDescriptor "D" = some .double := by decide +kernel
theorem own_nes0 : ("lanes" : String) ≠ "length" := by decide +kernel
theorem own_fd1 : parseFieldDescriptor "I" = some .int := by decide +kernel
theorem own_nes1 : ("laneWidth" : String) ≠ "length" := by decide +kernel
theorem own_nes2 : ("length" : String) ≠ "lanes" := by decide +kernel
theorem own_nes3 : ("laneWidth" : String) ≠ "lanes" := by decide +kernel
theorem own_nes4 : ("length" : String) ≠ "laneWidth" := by decide +kernel
theorem own_nes5 : ("lanes" : String) ≠ "laneWidth" := by decide +kernel
theorem own_pd3 : parseMethodDescriptor "(II)I" = some ⟨[.int, .int], some .int⟩ := by decide +kernel
theorem own_pd4 : parseMethodDescriptor "(DID)V" = some ⟨[.double, .int, .double], none⟩ := by decide +kernel
theorem own_pd5 : parseMethodDescriptor "(III)I" = some ⟨[.int, .int, .int], some .int⟩ := by decide +kernel
theorem own_pd6 : parseMethodDescriptor "(I)Z" = some ⟨[.int], some .boolean⟩ := by decide +kernel
theorem own_pd7 : parseMethodDescriptor "(II)Z" = some ⟨[.int, .int], some .boolean⟩ := by decide +kernel
theorem own_pn0 : plainName "java/lang/Record" = true := by first | (simp [plainName, overriddenIn]; done) | decide +kernel
theorem own_pn1 : plainName "java/lang/Double" = true := by first | (simp [plainName, overriddenIn]; done) | decide +kernel
theorem own_pn2 : plainName "com/example/automedon/automedon/check/Require" = true := by first | (simp [plainName, overriddenIn]; done) | decide +kernel
theorem own_pn3 : plainName "com/example/automedon/automedon/road/StraightRoad" = true := by first | (simp [plainName, overriddenIn]; done) | decide +kernel
theorem own_pn4 : plainFor (⟨"java/lang/Math", "max", "(II)I"⟩ : MethodName) = true := by decide +kernel
theorem own_pn5 : plainName "com/example/automedon/automedon/road/StraightRoadHasLanePinLaw" = true := by first | (simp [plainName, overriddenIn]; done) | decide +kernel
theorem own_d3_0 : decode jdk_30_method_1_code 0 = .ok (.aload_n 0, 1) := by decide +kernel
theorem own_d3_1 : decode jdk_30_method_1_code 1 = .ok (.invokespecial 1, 3) := by decide +kernel
theorem own_d3_4 : decode jdk_30_method_1_code 4 = .ok (.return_, 1) := by decide +kernel
def own_Q3 (Z : State) (a : Addr) (h0 : Heap) (n0 : Nat) (v : Option Value) (h : Heap) (L : List Loc) : Prop := v = none ∧ Fr n0 L ∧ h = h0
set_option maxRecDepth 65536 in
set_option maxHeartbeats 40000000 in
theorem own_rm3 (l : Launch) (Z : State) (a0 : Array Value) (hw : ∀ d ∈ tables_1, d.before a0 Z = true) (ws : List Jvm.Cond) (a : Addr) (h0 : Heap) (n0 : Nat) (Z0 : n0 ≤ h0.size) :
    Con l Z (⟨"java/lang/Record", "<init>", "()V"⟩ : MethodName) jdk_30_method_1_code 1 none ws ({ frames := 1, cells := 0, slots := 0, locals := 12 } : Room) #[(.ref a)] h0 (own_Q3 Z a h0 n0) := by
  refine Con.start #[.val (.ref a)] (plainFor_of_name own_pn0) (fun m => by first | (refine own_ef ?_; exact rfl) | (simp [entryFrame, mkF, argsToLocals, Value.category]; done) | rfl) ?_
  intro p e s m below meth c s₁ P X0 hx hby hml hret hlk hown hnm hZ e0 hf
  have hml : c.maxLocals = 1 := hml
  have N0 := Fr.nil n0
  refine g_aloadN (pc' := 1) X0 hx hby (v := (.ref a)) own_d3_0 rfl rfl rfl ?_
  refine g_initO (pc' := 4) X0 hx hby hZ hown (hw _ (List.mem_of_getElem? (i := 16) rfl)) (hw _ (List.mem_of_getElem? (i := 17) rfl)) (hw _ (List.mem_of_getElem? (i := 18) rfl)) e0 (by rw [hml]; rfl) rfl own_d3_1 rfl (by decide) (W := 0) rfl (by decide) ?_
  intro T1 X1 e1
  exact g_ret X1 hx hby hf hlk hret own_d3_4 rfl (by decide) (by decide) e1 ⟨rfl, N0, rfl⟩
theorem own_d6_0 : decode jdk_117_method_7_code 0 = .ok (.dload_n 0, 1) := by decide +kernel
theorem own_d6_1 : decode jdk_117_method_7_code 1 = .ok (.invokestatic 38, 3) := by decide +kernel
theorem own_d6_4 : decode jdk_117_method_7_code 4 = .ok (.ldc2_w 111, 3) := by decide +kernel
theorem own_d6_7 : decode jdk_117_method_7_code 7 = .ok (.dcmp .l, 1) := by decide +kernel
theorem own_d6_8 : decode jdk_117_method_7_code 8 = .ok (.ifCond .le 7, 3) := by decide +kernel
theorem own_d6_15 : decode jdk_117_method_7_code 15 = .ok (.iconst 0, 1) := by decide +kernel
theorem own_d6_16 : decode jdk_117_method_7_code 16 = .ok (.ireturn, 1) := by decide +kernel
def own_Q6 (Z : State) (d : UInt64) (h0 : Heap) (n0 : Nat) (v : Option Value) (h : Heap) (L : List Loc) : Prop := v = some (.int (0 : Int32)) ∧ Fr n0 L ∧ h = h0
set_option maxRecDepth 65536 in
set_option maxHeartbeats 40000000 in
theorem own_rm6 (l : Launch) (Z : State) (a0 : Array Value) (hw : ∀ d ∈ tables_1, d.before a0 Z = true) (ws : List Jvm.Cond) (d : UInt64) (h0 : Heap) (n0 : Nat) (Z0 : n0 ≤ h0.size) (fA : Jvm.FP.Core.DFin d) :
    Con l Z (⟨"java/lang/Double", "isInfinite", "(D)Z"⟩ : MethodName) jdk_117_method_7_code 2 (some .boolean) ws ({ frames := 1, cells := 0, slots := 0, locals := 13 } : Room) #[(.double d)] h0 (own_Q6 Z d h0 n0) := by
  refine Con.start #[.val (.double d), .second] (plainFor_of_name own_pn1) (fun m => by first | (refine own_ef ?_; exact rfl) | (simp [entryFrame, mkF, argsToLocals, Value.category]; done) | rfl) ?_
  intro p e s m below meth c s₁ P X0 hx hby hml hret hlk hown hnm hZ e0 hf
  have hml : c.maxLocals = 2 := hml
  have N0 := Fr.nil n0
  refine g_dloadN (pc' := 1) X0 hx hby (v := d) own_d6_0 rfl rfl ?_
  refine g_absD (pc' := 4) X0 hx hby (by rw [hml]; rfl) hZ hown (v := (d &&& 0x7fffffffffffffff)) e0 (hw _ (List.mem_of_getElem? (i := 35) rfl)) (hw _ (List.mem_of_getElem? (i := 36) rfl)) (hw _ (List.mem_of_getElem? (i := 3) rfl)) (hw _ (List.mem_of_getElem? (i := 37) rfl)) (nn64 fA.ne_nan) rfl rfl (W := 0) rfl (by decide) (by decide) (by decide) (by decide) own_d6_1 rfl ?_
  intro T1 X1 e1
  refine g_ldcD (pc' := 7) X1 hx hby hZ hown (hw _ (List.mem_of_getElem? (i := 38) rfl)) own_d6_4 rfl ?_
  refine g_dcmp (pc' := 8) (v := (cmpValue (FP.dcmp (d &&& 0x7fffffffffffffff) (9218868437227405311 : UInt64)) .l)) X1 hx hby own_d6_7 rfl rfl rfl ?_
  refine g_ifY (pc' := 15) X1 hx hby own_d6_8 rfl (flt (own_isfinO fA .l : ¬ ((0 : Int32) < (cmpValue (FP.dcmp (d &&& 0x7fffffffffffffff) (9218868437227405311 : UInt64)) .l)))).2.2.2 (by decide) (by decide) ?_
  refine g_iconst (pc' := 16) (v := (0 : Int32)) X1 hx hby own_d6_15 rfl rfl ?_
  exact g_retZ X1 hx hby hf hlk hret own_d6_16 rfl (by simp) rfl (by decide) (by decide) e1 ⟨rfl, N0, rfl⟩
theorem own_d5_0 : decode prog_2_method_2_code 0 = .ok (.dload_n 1, 1) := by decide +kernel
theorem own_d5_1 : decode prog_2_method_2_code 1 = .ok (.dconst 0, 1) := by decide +kernel
theorem own_d5_2 : decode prog_2_method_2_code 2 = .ok (.dcmp .l, 1) := by decide +kernel
theorem own_d5_3 : decode prog_2_method_2_code 3 = .ok (.ifCond .le 10, 3) := by decide +kernel
theorem own_d5_6 : decode prog_2_method_2_code 6 = .ok (.dload_n 1, 1) := by decide +kernel
theorem own_d5_7 : decode prog_2_method_2_code 7 = .ok (.invokestatic 7, 3) := by decide +kernel
theorem own_d5_10 : decode prog_2_method_2_code 10 = .ok (.ifCond .eq 18, 3) := by decide +kernel
theorem own_d5_28 : decode prog_2_method_2_code 28 = .ok (.dload_n 1, 1) := by decide +kernel
theorem own_d5_29 : decode prog_2_method_2_code 29 = .ok (.dreturn, 1) := by decide +kernel
def own_Q5 (Z : State) (sn : Addr) (d : UInt64) (h0 : Heap) (n0 : Nat) (v : Option Value) (h : Heap) (L : List Loc) : Prop := v = some (.double d) ∧ Fr n0 L ∧ h = h0
set_option maxRecDepth 65536 in
set_option maxHeartbeats 40000000 in
theorem own_rm5 (l : Launch) (Z : State) (a0 : Array Value) (hw : ∀ d ∈ tables_1, d.before a0 Z = true) (ws : List Jvm.Cond) (sn : Addr) (d : UInt64) (h0 : Heap) (n0 : Nat) (Z0 : n0 ≤ h0.size) (fA : Jvm.FP.Core.DFin d) (g1 : (0 : Int32) < cmpValue (FP.dcmp d 0) .l) :
    Con l Z (⟨"com/example/automedon/automedon/check/Require", "positive", "(Ljava/lang/String;D)D"⟩ : MethodName) prog_2_method_2_code 3 (some .double) ws ({ frames := 2, cells := 0, slots := 0, locals := 26 } : Room) #[(.ref sn), (.double d)] h0 (own_Q5 Z sn d h0 n0) := by
  refine Con.start #[.val (.ref sn), .val (.double d), .second] (plainFor_of_name own_pn2) (fun m => by first | (refine own_ef ?_; exact rfl) | (simp [entryFrame, mkF, argsToLocals, Value.category]; done) | rfl) ?_
  intro p e s m below meth c s₁ P X0 hx hby hml hret hlk hown hnm hZ e0 hf
  have hml : c.maxLocals = 3 := hml
  have N0 := Fr.nil n0
  refine g_dloadN (pc' := 1) X0 hx hby (v := d) own_d5_0 rfl rfl ?_
  refine g_dconst0 (pc' := 2) (v := (0 : UInt64)) X0 hx hby own_d5_1 rfl rfl ?_
  refine g_dcmp (pc' := 3) (v := (cmpValue (FP.dcmp d (0 : UInt64)) .l)) X0 hx hby own_d5_2 rfl rfl rfl ?_
  refine g_ifN (pc' := 6) X0 hx hby own_d5_3 rfl (tlt (g1 : (0 : Int32) < (cmpValue (FP.dcmp d (0 : UInt64)) .l))).2.2.2 rfl ?_
  refine g_dloadN (pc' := 7) X0 hx hby (v := d) own_d5_6 rfl rfl ?_
  refine g_callS (argsL := [(.double d)]) (pc' := 10) X0 hx hby (by rw [hml]; rfl) hZ hown e0 (own_rm6 l Z a0 hw [] d  h0 n0 Z0 (fA)) (hw _ (List.mem_of_getElem? (i := 31) rfl)) (hw _ (List.mem_of_getElem? (i := 32) rfl)) (hw _ (List.mem_of_getElem? (i := 33) rfl)) (hw _ (List.mem_of_getElem? (i := 34) rfl)) (by decide) own_pd0 rfl rfl (W := 0) rfl (by decide) (by decide) (by decide) (by decide) own_d5_7 rfl ?_
  intro T1 v1 L1 X1 qq1
  obtain ⟨rfl, n1, e1⟩ := qq1
  have N1 := Fr.app N0 n1
  show Gf p e below P T1 m 10 #[.val (.ref sn), .val (.double d), .second] [(.int (0 : Int32))]
  refine g_ifY (pc' := 28) X1 hx hby own_d5_10 rfl (teq (by decide : (0 : Int32) = (0 : Int32))).1 (by decide) (by decide) ?_
  refine g_dloadN (pc' := 29) X1 hx hby (v := d) own_d5_28 rfl rfl ?_
  exact g_retV X1 hx hby hf hlk hret own_d5_29 rfl rfl (Or.inr (Or.inr (Or.inl ⟨rfl, rfl, _, rfl⟩))) (by decide) (by decide) e1 ⟨rfl, N1, rfl⟩
theorem own_d2_0 : decode prog_77_method_1_code 0 = .ok (.aload_n 0, 1) := by decide +kernel
theorem own_d2_1 : decode prog_77_method_1_code 1 = .ok (.invokespecial 1, 3) := by decide +kernel
theorem own_d2_4 : decode prog_77_method_1_code 4 = .ok (.ldc 7, 2) := by decide +kernel
theorem own_d2_6 : decode prog_77_method_1_code 6 = .ok (.dload_n 1, 1) := by decide +kernel
theorem own_d2_7 : decode prog_77_method_1_code 7 = .ok (.invokestatic 9, 3) := by decide +kernel
theorem own_d2_10 : decode prog_77_method_1_code 10 = .ok (.pop2, 1) := by decide +kernel
theorem own_d2_11 : decode prog_77_method_1_code 11 = .ok (.iload_n 3, 1) := by decide +kernel
theorem own_d2_12 : decode prog_77_method_1_code 12 = .ok (.iconst 1, 1) := by decide +kernel
theorem own_d2_13 : decode prog_77_method_1_code 13 = .ok (.if_icmp .ge 17, 3) := by decide +kernel
theorem own_d2_30 : decode prog_77_method_1_code 30 = .ok (.ldc 24, 2) := by decide +kernel
theorem own_d2_32 : decode prog_77_method_1_code 32 = .ok (.dload 4, 2) := by decide +kernel
theorem own_d2_34 : decode prog_77_method_1_code 34 = .ok (.invokestatic 9, 3) := by decide +kernel
theorem own_d2_37 : decode prog_77_method_1_code 37 = .ok (.pop2, 1) := by decide +kernel
theorem own_d2_38 : decode prog_77_method_1_code 38 = .ok (.iload_n 3, 1) := by decide +kernel
theorem own_d2_39 : decode prog_77_method_1_code 39 = .ok (.i2d, 1) := by decide +kernel
theorem own_d2_40 : decode prog_77_method_1_code 40 = .ok (.dload 4, 2) := by decide +kernel
theorem own_d2_42 : decode prog_77_method_1_code 42 = .ok (.dmul, 1) := by decide +kernel
theorem own_d2_43 : decode prog_77_method_1_code 43 = .ok (.invokestatic 26, 3) := by decide +kernel
theorem own_d2_46 : decode prog_77_method_1_code 46 = .ok (.ifCond .eq 19, 3) := by decide +kernel
theorem own_d2_65 : decode prog_77_method_1_code 65 = .ok (.aload_n 0, 1) := by decide +kernel
theorem own_d2_66 : decode prog_77_method_1_code 66 = .ok (.dload_n 1, 1) := by decide +kernel
theorem own_d2_67 : decode prog_77_method_1_code 67 = .ok (.putfield 35, 3) := by decide +kernel
theorem own_d2_70 : decode prog_77_method_1_code 70 = .ok (.aload_n 0, 1) := by decide +kernel
theorem own_d2_71 : decode prog_77_method_1_code 71 = .ok (.iload_n 3, 1) := by decide +kernel
theorem own_d2_72 : decode prog_77_method_1_code 72 = .ok (.putfield 41, 3) := by decide +kernel
theorem own_d2_75 : decode prog_77_method_1_code 75 = .ok (.aload_n 0, 1) := by decide +kernel
theorem own_d2_76 : decode prog_77_method_1_code 76 = .ok (.dload 4, 2) := by decide +kernel
theorem own_d2_78 : decode prog_77_method_1_code 78 = .ok (.putfield 45, 3) := by decide +kernel
theorem own_d2_81 : decode prog_77_method_1_code 81 = .ok (.return_, 1) := by decide +kernel
def own_Q2 (Z : State) (a : Addr) (le : UInt64) (ln : Int32) (lw : UInt64) (h0 : Heap) (n0 : Nat) (v : Option Value) (h : Heap) (L : List Loc) : Prop := v = none ∧ Fr n0 L ∧ Keep h0 h [a] ∧ Exa Z h a "com/example/automedon/automedon/road/StraightRoad" ∧ Fld Z h a "com/example/automedon/automedon/road/StraightRoad" "length" "D" (.double le) ∧ Fld Z h a "com/example/automedon/automedon/road/StraightRoad" "lanes" "I" (.int ln)
set_option maxRecDepth 65536 in
set_option maxHeartbeats 40000000 in
theorem own_rm2 (l : Launch) (Z : State) (a0 : Array Value) (hw : ∀ d ∈ tables_1, d.before a0 Z = true) (ws : List Jvm.Cond) (a : Addr) (le : UInt64) (ln : Int32) (lw : UInt64) (h0 : Heap) (n0 : Nat) (Z0 : n0 ≤ h0.size) (c0 : Exa Z h0 a "com/example/automedon/automedon/road/StraightRoad") (c1 : Fld Z h0 a "com/example/automedon/automedon/road/StraightRoad" "length" "D" (.double (0 : UInt64))) (c2 : Fld Z h0 a "com/example/automedon/automedon/road/StraightRoad" "lanes" "I" (.int (0 : Int32))) (c3 : Fld Z h0 a "com/example/automedon/automedon/road/StraightRoad" "laneWidth" "D" (.double (0 : UInt64))) (c4 : n0 ≤ a) (fA : Jvm.FP.Core.DFin le) (g1 : (0 : Int32) < cmpValue (FP.dcmp le 0) .l) (fB : Jvm.FP.Core.DFin lw) (g2 : (0 : Int32) < cmpValue (FP.dcmp lw 0) .l) (fC : Jvm.FP.Core.DFin (FP.dmul (FP.i2d ln) lw)) (g3 : ¬ ln < (1 : Int32)) :
    ConW l Z (⟨"com/example/automedon/automedon/road/StraightRoad", "<init>", "(DID)V"⟩ : MethodName) prog_77_method_1_code 6 none ws ({ frames := 3, cells := 4, slots := 92, locals := 40 } : Room) #[(.ref a), (.double le), (.int ln), (.double lw)] h0 (own_Q2 Z a le ln lw h0 n0) := by
  refine ConW.start #[.val (.ref a), .val (.double le), .second, .val (.int ln), .val (.double lw), .second] (plainFor_of_name own_pn3) (fun m => by first | (refine own_ef ?_; exact rfl) | (simp [entryFrame, mkF, argsToLocals, Value.category]; done) | rfl) ?_
  intro p e s m below meth c s₁ P X0 hx hby hml hret hlk hown hnm hZ e0 hf hS
  have hk : 0 ≤ h0.size := Nat.zero_le _
  have hml : c.maxLocals = 6 := hml
  have N0 := Fr.nil n0
  have K0 : Keep h0 h0 [a] := Keep.refl _ _
  refine g_aloadN (pc' := 1) X0 hx hby (v := (.ref a)) own_d2_0 rfl rfl rfl ?_
  refine g_init (argsL := []) (pc' := 4) X0 hx hby (by rw [hml]; rfl) hZ hown rfl e0 (own_rm3 l Z a0 hw [] a  h0 n0 Z0) (hw _ (List.mem_of_getElem? (i := 11) rfl)) (hw _ (List.mem_of_getElem? (i := 12) rfl)) (hw _ (List.mem_of_getElem? (i := 14) rfl)) (hw _ (List.mem_of_getElem? (i := 15) rfl)) (by decide) own_pd1 rfl rfl (W := 0) rfl (by decide) (by decide) (by decide) (by decide) own_d2_1 rfl ?_
  intro T1 v1 L1 X1 qq1
  obtain ⟨rfl, n1, e1⟩ := qq1
  have N1 := Fr.app N0 n1
  show Gf p e below P T1 m 4 #[.val (.ref a), .val (.double le), .second, .val (.int ln), .val (.double lw), .second] []
  have hsa2 : ∀ d ∈ Bundle.stringAtoms, d.before a0 Z = true := fun d hd => hw d ((by decide +kernel : ∀ d ∈ Bundle.stringAtoms, d ∈ tables_1) d hd)
  refine g_ldcS (pc' := 6) X1 hx hby hZ hown (n := 44) (hw _ (List.mem_of_getElem? (i := 19) rfl)) hsa2 e1 hS hk own_d2_4 rfl (by decide +kernel) (by decide) (by decide) (by decide) ?_
  intro sc2 T2 h2 k1 X2 e2 E2 hS hk hZ hown
  have f3 := c0.ext E2
  have f4 := c1.ext E2
  have f5 := c2.ext E2
  have f6 := c3.ext E2
  have z2 := Nat.le_trans Z0 E2.1
  have K2 := K0.ext E2
  refine g_dloadN (pc' := 7) X2 hx hby (v := le) own_d2_6 rfl rfl ?_
  refine g_callS (argsL := [(.ref sc2), (.double le)]) (pc' := 10) X2 hx hby (by rw [hml]; rfl) hZ hown e2 (own_rm5 l Z a0 hw [] sc2 le  h2 n0 z2 (fA) (g1)) (hw _ (List.mem_of_getElem? (i := 27) rfl)) (hw _ (List.mem_of_getElem? (i := 28) rfl)) (hw _ (List.mem_of_getElem? (i := 29) rfl)) (hw _ (List.mem_of_getElem? (i := 30) rfl)) (by decide) own_pd2 rfl rfl (W := 0) rfl (by decide) (by decide) (by decide) (by decide) own_d2_7 rfl ?_
  intro T7 v7 L7 X7 qq7
  obtain ⟨rfl, n7, e7⟩ := qq7
  have N7 := Fr.app N1 n7
  show Gf p e below P T7 m 10 #[.val (.ref a), .val (.double le), .second, .val (.int ln), .val (.double lw), .second] [(.double le)]
  refine g_pop2D (pc' := 11) X7 hx hby own_d2_10 rfl rfl ?_
  refine g_iloadN (pc' := 12) X7 hx hby (v := ln) own_d2_11 rfl rfl ?_
  refine g_iconst (pc' := 13) (v := (1 : Int32)) X7 hx hby own_d2_12 rfl rfl ?_
  refine g_icY (pc' := 30) X7 hx hby own_d2_13 rfl (flt (g3 : ¬ (ln < (1 : Int32)))).2.1 (by decide) (by decide) ?_
  have hsa8 : ∀ d ∈ Bundle.stringAtoms, d.before a0 Z = true := fun d hd => hw d ((by decide +kernel : ∀ d ∈ Bundle.stringAtoms, d ∈ tables_1) d hd)
  refine g_ldcS (pc' := 32) X7 hx hby hZ hown (n := 40) (hw _ (List.mem_of_getElem? (i := 39) rfl)) hsa8 e7 hS hk own_d2_30 rfl (by decide +kernel) (by decide) (by decide) (by decide) ?_
  intro sc8 T8 h8 k1 X8 e8 E8 hS hk hZ hown
  have f9 := f3.ext E8
  have f10 := f4.ext E8
  have f11 := f5.ext E8
  have f12 := f6.ext E8
  have z8 := Nat.le_trans z2 E8.1
  have K8 := K2.ext E8
  refine g_dload (pc' := 34) X8 hx hby (v := lw) own_d2_32 rfl rfl ?_
  refine g_callS (argsL := [(.ref sc8), (.double lw)]) (pc' := 37) X8 hx hby (by rw [hml]; rfl) hZ hown e8 (own_rm5 l Z a0 hw [] sc8 lw  h8 n0 z8 (fB) (g2)) (hw _ (List.mem_of_getElem? (i := 27) rfl)) (hw _ (List.mem_of_getElem? (i := 28) rfl)) (hw _ (List.mem_of_getElem? (i := 29) rfl)) (hw _ (List.mem_of_getElem? (i := 30) rfl)) (by decide) own_pd2 rfl rfl (W := 0) rfl (by decide) (by decide) (by decide) (by decide) own_d2_34 rfl ?_
  intro T13 v13 L13 X13 qq13
  obtain ⟨rfl, n13, e13⟩ := qq13
  have N13 := Fr.app N7 n13
  show Gf p e below P T13 m 37 #[.val (.ref a), .val (.double le), .second, .val (.int ln), .val (.double lw), .second] [(.double lw)]
  refine g_pop2D (pc' := 38) X13 hx hby own_d2_37 rfl rfl ?_
  refine g_iloadN (pc' := 39) X13 hx hby (v := ln) own_d2_38 rfl rfl ?_
  refine g_i2d (pc' := 40) (v := (FP.i2d ln)) X13 hx hby own_d2_39 rfl rfl rfl ?_
  refine g_dload (pc' := 42) X13 hx hby (v := lw) own_d2_40 rfl rfl ?_
  refine g_dmul (pc' := 43) (v := (FP.dmul (FP.i2d ln) lw)) X13 hx hby own_d2_42 rfl (nn64 fC.ne_nan) rfl rfl ?_
  refine g_callS (argsL := [(.double (FP.dmul (FP.i2d ln) lw))]) (pc' := 46) X13 hx hby (by rw [hml]; rfl) hZ hown e13 (own_rm6 l Z a0 hw [] (FP.dmul (FP.i2d ln) lw)  h8 n0 z8 (fC)) (hw _ (List.mem_of_getElem? (i := 40) rfl)) (hw _ (List.mem_of_getElem? (i := 32) rfl)) (hw _ (List.mem_of_getElem? (i := 33) rfl)) (hw _ (List.mem_of_getElem? (i := 34) rfl)) (by decide) own_pd0 rfl rfl (W := 0) rfl (by decide) (by decide) (by decide) (by decide) own_d2_43 rfl ?_
  intro T14 v14 L14 X14 qq14
  obtain ⟨rfl, n14, e14⟩ := qq14
  have N14 := Fr.app N13 n14
  show Gf p e below P T14 m 46 #[.val (.ref a), .val (.double le), .second, .val (.int ln), .val (.double lw), .second] [(.int (0 : Int32))]
  refine g_ifY (pc' := 65) X14 hx hby own_d2_46 rfl (teq (by decide : (0 : Int32) = (0 : Int32))).1 (by decide) (by decide) ?_
  refine g_aloadN (pc' := 66) X14 hx hby (v := (.ref a)) own_d2_65 rfl rfl rfl ?_
  refine g_dloadN (pc' := 67) X14 hx hby (v := le) own_d2_66 rfl rfl ?_
  refine g_putF (pc' := 70) X14 hx hby hZ hown (host := "") (Or.inl (hw _ (List.mem_of_getElem? (i := 41) rfl))) Via.refl e14 f10 f9 (Or.inr ⟨(hw _ (List.mem_of_getElem? (i := 42) rfl)), rfl, hnm⟩) (hw _ (List.mem_of_getElem? (i := 6) rfl)) (ty := .double) own_fd0 rfl rfl rfl own_d2_67 rfl N14 c4 ?_
  intro T15 h15 X15 e15 W15 N15
  have f16 := f9.wr W15
  have f17 := f10.same W15
  have f18 := f11.other W15 (Or.inr (slot_ne (Or.inr (hw _ (List.mem_of_getElem? (i := 44) rfl))) (Or.inr (hw _ (List.mem_of_getElem? (i := 42) rfl))) own_nes0 own_fd1 own_fd0))
  have f19 := f12.other W15 (Or.inr (slot_ne (Or.inr (hw _ (List.mem_of_getElem? (i := 46) rfl))) (Or.inr (hw _ (List.mem_of_getElem? (i := 42) rfl))) own_nes1 own_fd0 own_fd0))
  have z15 := Nat.le_trans z8 (Keep.of_wr W15).1
  have hk := Nat.le_trans hk (Keep.of_wr W15).1
  have K15 := K8.wr W15 (Or.inl (List.mem_of_getElem? (i := 0) rfl))
  refine g_aloadN (pc' := 71) X15 hx hby (v := (.ref a)) own_d2_70 rfl rfl rfl ?_
  refine g_iloadN (pc' := 72) X15 hx hby (v := ln) own_d2_71 rfl rfl ?_
  refine g_putF (pc' := 75) X15 hx hby hZ hown (host := "") (Or.inl (hw _ (List.mem_of_getElem? (i := 43) rfl))) Via.refl e15 f18 f16 (Or.inr ⟨(hw _ (List.mem_of_getElem? (i := 44) rfl)), rfl, hnm⟩) (hw _ (List.mem_of_getElem? (i := 6) rfl)) (ty := .int) own_fd1 rfl rfl rfl own_d2_72 rfl N15 c4 ?_
  intro T20 h20 X20 e20 W20 N20
  have f21 := f16.wr W20
  have f22 := f17.other W20 (Or.inr (slot_ne (Or.inr (hw _ (List.mem_of_getElem? (i := 42) rfl))) (Or.inr (hw _ (List.mem_of_getElem? (i := 44) rfl))) own_nes2 own_fd0 own_fd1))
  have f23 := f18.same W20
  have f24 := f19.other W20 (Or.inr (slot_ne (Or.inr (hw _ (List.mem_of_getElem? (i := 46) rfl))) (Or.inr (hw _ (List.mem_of_getElem? (i := 44) rfl))) own_nes3 own_fd0 own_fd1))
  have z20 := Nat.le_trans z15 (Keep.of_wr W20).1
  have hk := Nat.le_trans hk (Keep.of_wr W20).1
  have K20 := K15.wr W20 (Or.inl (List.mem_of_getElem? (i := 0) rfl))
  refine g_aloadN (pc' := 76) X20 hx hby (v := (.ref a)) own_d2_75 rfl rfl rfl ?_
  refine g_dload (pc' := 78) X20 hx hby (v := lw) own_d2_76 rfl rfl ?_
  refine g_putF (pc' := 81) X20 hx hby hZ hown (host := "") (Or.inl (hw _ (List.mem_of_getElem? (i := 45) rfl))) Via.refl e20 f24 f21 (Or.inr ⟨(hw _ (List.mem_of_getElem? (i := 46) rfl)), rfl, hnm⟩) (hw _ (List.mem_of_getElem? (i := 6) rfl)) (ty := .double) own_fd0 rfl rfl rfl own_d2_78 rfl N20 c4 ?_
  intro T25 h25 X25 e25 W25 N25
  have f26 := f21.wr W25
  have f27 := f22.other W25 (Or.inr (slot_ne (Or.inr (hw _ (List.mem_of_getElem? (i := 42) rfl))) (Or.inr (hw _ (List.mem_of_getElem? (i := 46) rfl))) own_nes4 own_fd0 own_fd0))
  have f28 := f23.other W25 (Or.inr (slot_ne (Or.inr (hw _ (List.mem_of_getElem? (i := 44) rfl))) (Or.inr (hw _ (List.mem_of_getElem? (i := 46) rfl))) own_nes5 own_fd1 own_fd0))
  have f29 := f24.same W25
  have z25 := Nat.le_trans z20 (Keep.of_wr W25).1
  have hk := Nat.le_trans hk (Keep.of_wr W25).1
  have K25 := K20.wr W25 (Or.inl (List.mem_of_getElem? (i := 0) rfl))
  exact g_retW X25 hx hby hS hk hf hlk hret own_d2_81 rfl (by decide) (by decide) e25 ⟨rfl, N25, K25, f26, f27, f28⟩
theorem own_d1_0 : decode jdk_29_method_65_code 0 = .ok (.iload_n 0, 1) := by decide +kernel
theorem own_d1_1 : decode jdk_29_method_65_code 1 = .ok (.iload_n 1, 1) := by decide +kernel
theorem own_d1_2 : decode jdk_29_method_65_code 2 = .ok (.if_icmp .lt 7, 3) := by decide +kernel
theorem own_d1_5 : decode jdk_29_method_65_code 5 = .ok (.iload_n 0, 1) := by decide +kernel
theorem own_d1_6 : decode jdk_29_method_65_code 6 = .ok (.goto 4, 3) := by decide +kernel
theorem own_d1_9 : decode jdk_29_method_65_code 9 = .ok (.iload_n 1, 1) := by decide +kernel
theorem own_d1_10 : decode jdk_29_method_65_code 10 = .ok (.ireturn, 1) := by decide +kernel
def own_Q1 (Z : State) (x : Int32) (y : Int32) (h0 : Heap) (n0 : Nat) (v : Option Value) (h : Heap) (L : List Loc) : Prop := v = some (.int (if x < y then y else x)) ∧ Fr n0 L ∧ h = h0
set_option maxRecDepth 65536 in
set_option maxHeartbeats 40000000 in
theorem own_rm1 (l : Launch) (Z : State) (a0 : Array Value) (hw : ∀ d ∈ tables_1, d.before a0 Z = true) (ws : List Jvm.Cond) (x : Int32) (y : Int32) (h0 : Heap) (n0 : Nat) (Z0 : n0 ≤ h0.size) :
    Con l Z (⟨"java/lang/Math", "max", "(II)I"⟩ : MethodName) jdk_29_method_65_code 2 (some .int) ws ({ frames := 0, cells := 0, slots := 0, locals := 0 } : Room) #[(.int x), (.int y)] h0 (own_Q1 Z x y h0 n0) := by
  refine Con.start #[.val (.int x), .val (.int y)] own_pn4 (fun m => by first | (refine own_ef ?_; exact rfl) | (simp [entryFrame, mkF, argsToLocals, Value.category]; done) | rfl) ?_
  intro p e s m below meth c s₁ P X0 hx hby hml hret hlk hown hnm hZ e0 hf
  have hml : c.maxLocals = 2 := hml
  have N0 := Fr.nil n0
  refine g_iloadN (pc' := 1) X0 hx hby (v := x) own_d1_0 rfl rfl ?_
  refine g_iloadN (pc' := 2) X0 hx hby (v := y) own_d1_1 rfl rfl ?_
  by_cases hc2 : x < y
  · refine g_icY (pc' := 9) X0 hx hby own_d1_2 rfl (tlt hc2).1 (by decide) (by decide) ?_
    refine g_iloadN (pc' := 10) X0 hx hby (v := y) own_d1_9 rfl rfl ?_
    exact g_retV X0 hx hby hf hlk hret own_d1_10 rfl rfl (Or.inl ⟨rfl, Or.inl rfl, _, rfl⟩) (by decide) (by decide) e0 ⟨(by simp only [if_pos hc2] <;> rfl), N0, rfl⟩
  · refine g_icN (pc' := 5) X0 hx hby own_d1_2 rfl (flt hc2).1 rfl ?_
    refine g_iloadN (pc' := 6) X0 hx hby (v := x) own_d1_5 rfl rfl ?_
    refine g_goto (pc' := 10) X0 hx hby own_d1_6 (by decide) (by decide) ?_
    exact g_retV X0 hx hby hf hlk hret own_d1_10 rfl rfl (Or.inl ⟨rfl, Or.inl rfl, _, rfl⟩) (by decide) (by decide) e0 ⟨(by simp only [if_neg hc2] <;> rfl), N0, rfl⟩
theorem own_d8_0 : decode method_3_code 0 = .ok (.iload_n 0, 1) := by decide +kernel
theorem own_d8_1 : decode method_3_code 1 = .ok (.bipush 7, 2) := by decide +kernel
theorem own_d8_3 : decode method_3_code 3 = .ok (.iand, 1) := by decide +kernel
theorem own_d8_4 : decode method_3_code 4 = .ok (.istore_n 3, 1) := by decide +kernel
theorem own_d8_5 : decode method_3_code 5 = .ok (.iload_n 3, 1) := by decide +kernel
theorem own_d8_6 : decode method_3_code 6 = .ok (.ifCond .ne 5, 3) := by decide +kernel
theorem own_d8_9 : decode method_3_code 9 = .ok (.iload_n 1, 1) := by decide +kernel
theorem own_d8_10 : decode method_3_code 10 = .ok (.ireturn, 1) := by decide +kernel
theorem own_d8_11 : decode method_3_code 11 = .ok (.iload_n 3, 1) := by decide +kernel
theorem own_d8_12 : decode method_3_code 12 = .ok (.iconst 1, 1) := by decide +kernel
theorem own_d8_13 : decode method_3_code 13 = .ok (.if_icmp .ne 7, 3) := by decide +kernel
theorem own_d8_16 : decode method_3_code 16 = .ok (.iload_n 2, 1) := by decide +kernel
theorem own_d8_17 : decode method_3_code 17 = .ok (.iconst 1, 1) := by decide +kernel
theorem own_d8_18 : decode method_3_code 18 = .ok (.isub, 1) := by decide +kernel
theorem own_d8_19 : decode method_3_code 19 = .ok (.ireturn, 1) := by decide +kernel
theorem own_d8_20 : decode method_3_code 20 = .ok (.iload_n 3, 1) := by decide +kernel
theorem own_d8_21 : decode method_3_code 21 = .ok (.iconst 2, 1) := by decide +kernel
theorem own_d8_22 : decode method_3_code 22 = .ok (.if_icmp .ne 5, 3) := by decide +kernel
theorem own_d8_25 : decode method_3_code 25 = .ok (.iload_n 2, 1) := by decide +kernel
theorem own_d8_26 : decode method_3_code 26 = .ok (.ireturn, 1) := by decide +kernel
theorem own_d8_27 : decode method_3_code 27 = .ok (.iload_n 3, 1) := by decide +kernel
theorem own_d8_28 : decode method_3_code 28 = .ok (.iconst 3, 1) := by decide +kernel
theorem own_d8_29 : decode method_3_code 29 = .ok (.if_icmp .ne 5, 3) := by decide +kernel
theorem own_d8_32 : decode method_3_code 32 = .ok (.iconst (-1), 1) := by decide +kernel
theorem own_d8_33 : decode method_3_code 33 = .ok (.ireturn, 1) := by decide +kernel
theorem own_d8_34 : decode method_3_code 34 = .ok (.iload_n 3, 1) := by decide +kernel
theorem own_d8_35 : decode method_3_code 35 = .ok (.iconst 4, 1) := by decide +kernel
theorem own_d8_36 : decode method_3_code 36 = .ok (.if_icmp .ne 5, 3) := by decide +kernel
theorem own_d8_39 : decode method_3_code 39 = .ok (.iconst 0, 1) := by decide +kernel
theorem own_d8_40 : decode method_3_code 40 = .ok (.ireturn, 1) := by decide +kernel
theorem own_d8_41 : decode method_3_code 41 = .ok (.iload_n 3, 1) := by decide +kernel
theorem own_d8_42 : decode method_3_code 42 = .ok (.iconst 5, 1) := by decide +kernel
theorem own_d8_43 : decode method_3_code 43 = .ok (.if_icmp .ne 6, 3) := by decide +kernel
theorem own_d8_46 : decode method_3_code 46 = .ok (.ldc 9, 2) := by decide +kernel
theorem own_d8_48 : decode method_3_code 48 = .ok (.ireturn, 1) := by decide +kernel
theorem own_d8_49 : decode method_3_code 49 = .ok (.iload_n 3, 1) := by decide +kernel
theorem own_d8_50 : decode method_3_code 50 = .ok (.bipush 6, 2) := by decide +kernel
theorem own_d8_52 : decode method_3_code 52 = .ok (.if_icmp .ne 13, 3) := by decide +kernel
theorem own_d8_55 : decode method_3_code 55 = .ok (.iload_n 2, 1) := by decide +kernel
theorem own_d8_56 : decode method_3_code 56 = .ok (.iconst 1, 1) := by decide +kernel
theorem own_d8_57 : decode method_3_code 57 = .ok (.isub, 1) := by decide +kernel
theorem own_d8_58 : decode method_3_code 58 = .ok (.iload_n 1, 1) := by decide +kernel
theorem own_d8_59 : decode method_3_code 59 = .ok (.sipush 255, 3) := by decide +kernel
theorem own_d8_62 : decode method_3_code 62 = .ok (.iand, 1) := by decide +kernel
theorem own_d8_63 : decode method_3_code 63 = .ok (.isub, 1) := by decide +kernel
theorem own_d8_64 : decode method_3_code 64 = .ok (.ireturn, 1) := by decide +kernel
theorem own_d8_65 : decode method_3_code 65 = .ok (.iload_n 2, 1) := by decide +kernel
theorem own_d8_66 : decode method_3_code 66 = .ok (.iload_n 1, 1) := by decide +kernel
theorem own_d8_67 : decode method_3_code 67 = .ok (.sipush 255, 3) := by decide +kernel
theorem own_d8_70 : decode method_3_code 70 = .ok (.iand, 1) := by decide +kernel
theorem own_d8_71 : decode method_3_code 71 = .ok (.iadd, 1) := by decide +kernel
theorem own_d8_72 : decode method_3_code 72 = .ok (.ireturn, 1) := by decide +kernel
def own_Q8 (Z : State) (se : Int32) (ra : Int32) (ln : Int32) (h0 : Heap) (n0 : Nat) (v : Option Value) (h : Heap) (L : List Loc) : Prop := ∃ (r : Int32), v = some (.int r) ∧ Fr n0 L ∧ h = h0
set_option maxRecDepth 65536 in
set_option maxHeartbeats 40000000 in
theorem own_rm8 (l : Launch) (Z : State) (a0 : Array Value) (hw : ∀ d ∈ tables_1, d.before a0 Z = true) (ws : List Jvm.Cond) (se : Int32) (ra : Int32) (ln : Int32) (h0 : Heap) (n0 : Nat) (Z0 : n0 ≤ h0.size) :
    Con l Z (⟨"com/example/automedon/automedon/road/StraightRoadHasLanePinLaw", "pick", "(III)I"⟩ : MethodName) method_3_code 4 (some .int) ws ({ frames := 0, cells := 0, slots := 0, locals := 0 } : Room) #[(.int se), (.int ra), (.int ln)] h0 (own_Q8 Z se ra ln h0 n0) := by
  refine Con.start #[.val (.int se), .val (.int ra), .val (.int ln), .unset] (plainFor_of_name own_pn5) (fun m => by first | (refine own_ef ?_; exact rfl) | (simp [entryFrame, mkF, argsToLocals, Value.category]; done) | rfl) ?_
  intro p e s m below meth c s₁ P X0 hx hby hml hret hlk hown hnm hZ e0 hf
  have hml : c.maxLocals = 4 := hml
  have N0 := Fr.nil n0
  refine g_iloadN (pc' := 1) X0 hx hby (v := se) own_d8_0 rfl rfl ?_
  refine g_bipush (pc' := 3) (v := (7 : Int32)) X0 hx hby own_d8_1 rfl rfl ?_
  obtain ⟨x3_3, h_x3_3⟩ : ∃ z : Int32, se &&& (7 : Int32) = z := ⟨_, rfl⟩
  refine g_iand (pc' := 4) (v := x3_3) X0 hx hby own_d8_3 rfl h_x3_3 rfl ?_
  refine g_istoreN (pc' := 5) (Ls' := #[.val (.int se), .val (.int ra), .val (.int ln), .val (.int x3_3)]) X0 hx hby own_d8_4 rfl rfl rfl ?_
  refine g_iloadN (pc' := 6) X0 hx hby (v := x3_3) own_d8_5 rfl rfl ?_
  by_cases hc6 : x3_3 = (0 : Int32)
  · refine g_ifN (pc' := 9) X0 hx hby own_d8_6 rfl (teq hc6).2 rfl ?_
    refine g_iloadN (pc' := 10) X0 hx hby (v := ra) own_d8_9 rfl rfl ?_
    exact g_retV X0 hx hby hf hlk hret own_d8_10 rfl rfl (Or.inl ⟨rfl, Or.inl rfl, _, rfl⟩) (by decide) (by decide) e0 ⟨ra, rfl, N0, rfl⟩
  · refine g_ifY (pc' := 11) X0 hx hby own_d8_6 rfl (feq hc6).2 (by decide) (by decide) ?_
    refine g_iloadN (pc' := 12) X0 hx hby (v := x3_3) own_d8_11 rfl rfl ?_
    refine g_iconst (pc' := 13) (v := (1 : Int32)) X0 hx hby own_d8_12 rfl rfl ?_
    by_cases hc13 : x3_3 = (1 : Int32)
    · refine g_icN (pc' := 16) X0 hx hby own_d8_13 rfl (teq hc13).2 rfl ?_
      refine g_iloadN (pc' := 17) X0 hx hby (v := ln) own_d8_16 rfl rfl ?_
      refine g_iconst (pc' := 18) (v := (1 : Int32)) X0 hx hby own_d8_17 rfl rfl ?_
      refine g_isub (pc' := 19) (v := (ln - (1 : Int32))) X0 hx hby own_d8_18 rfl rfl rfl ?_
      exact g_retV X0 hx hby hf hlk hret own_d8_19 rfl rfl (Or.inl ⟨rfl, Or.inl rfl, _, rfl⟩) (by decide) (by decide) e0 ⟨(ln - (1 : Int32)), rfl, N0, rfl⟩
    · refine g_icY (pc' := 20) X0 hx hby own_d8_13 rfl (feq hc13).2 (by decide) (by decide) ?_
      refine g_iloadN (pc' := 21) X0 hx hby (v := x3_3) own_d8_20 rfl rfl ?_
      refine g_iconst (pc' := 22) (v := (2 : Int32)) X0 hx hby own_d8_21 rfl rfl ?_
      by_cases hc22 : x3_3 = (2 : Int32)
      · refine g_icN (pc' := 25) X0 hx hby own_d8_22 rfl (teq hc22).2 rfl ?_
        refine g_iloadN (pc' := 26) X0 hx hby (v := ln) own_d8_25 rfl rfl ?_
        exact g_retV X0 hx hby hf hlk hret own_d8_26 rfl rfl (Or.inl ⟨rfl, Or.inl rfl, _, rfl⟩) (by decide) (by decide) e0 ⟨ln, rfl, N0, rfl⟩
      · refine g_icY (pc' := 27) X0 hx hby own_d8_22 rfl (feq hc22).2 (by decide) (by decide) ?_
        refine g_iloadN (pc' := 28) X0 hx hby (v := x3_3) own_d8_27 rfl rfl ?_
        refine g_iconst (pc' := 29) (v := (3 : Int32)) X0 hx hby own_d8_28 rfl rfl ?_
        by_cases hc29 : x3_3 = (3 : Int32)
        · refine g_icN (pc' := 32) X0 hx hby own_d8_29 rfl (teq hc29).2 rfl ?_
          refine g_iconst (pc' := 33) (v := (-1 : Int32)) X0 hx hby own_d8_32 rfl rfl ?_
          exact g_retV X0 hx hby hf hlk hret own_d8_33 rfl rfl (Or.inl ⟨rfl, Or.inl rfl, _, rfl⟩) (by decide) (by decide) e0 ⟨(-1 : Int32), rfl, N0, rfl⟩
        · refine g_icY (pc' := 34) X0 hx hby own_d8_29 rfl (feq hc29).2 (by decide) (by decide) ?_
          refine g_iloadN (pc' := 35) X0 hx hby (v := x3_3) own_d8_34 rfl rfl ?_
          refine g_iconst (pc' := 36) (v := (4 : Int32)) X0 hx hby own_d8_35 rfl rfl ?_
          by_cases hc36 : x3_3 = (4 : Int32)
          · refine g_icN (pc' := 39) X0 hx hby own_d8_36 rfl (teq hc36).2 rfl ?_
            refine g_iconst (pc' := 40) (v := (0 : Int32)) X0 hx hby own_d8_39 rfl rfl ?_
            exact g_retV X0 hx hby hf hlk hret own_d8_40 rfl rfl (Or.inl ⟨rfl, Or.inl rfl, _, rfl⟩) (by decide) (by decide) e0 ⟨(0 : Int32), rfl, N0, rfl⟩
          · refine g_icY (pc' := 41) X0 hx hby own_d8_36 rfl (feq hc36).2 (by decide) (by decide) ?_
            refine g_iloadN (pc' := 42) X0 hx hby (v := x3_3) own_d8_41 rfl rfl ?_
            refine g_iconst (pc' := 43) (v := (5 : Int32)) X0 hx hby own_d8_42 rfl rfl ?_
            by_cases hc43 : x3_3 = (5 : Int32)
            · refine g_icN (pc' := 46) X0 hx hby own_d8_43 rfl (teq hc43).2 rfl ?_
              refine g_ldcI (pc' := 48) X0 hx hby hZ hown (hw _ (List.mem_of_getElem? (i := 59) rfl)) own_d8_46 rfl ?_
              exact g_retV X0 hx hby hf hlk hret own_d8_48 rfl rfl (Or.inl ⟨rfl, Or.inl rfl, _, rfl⟩) (by decide) (by decide) e0 ⟨(-2147483648 : Int32), rfl, N0, rfl⟩
            · refine g_icY (pc' := 49) X0 hx hby own_d8_43 rfl (feq hc43).2 (by decide) (by decide) ?_
              refine g_iloadN (pc' := 50) X0 hx hby (v := x3_3) own_d8_49 rfl rfl ?_
              refine g_bipush (pc' := 52) (v := (6 : Int32)) X0 hx hby own_d8_50 rfl rfl ?_
              by_cases hc52 : x3_3 = (6 : Int32)
              · refine g_icN (pc' := 55) X0 hx hby own_d8_52 rfl (teq hc52).2 rfl ?_
                refine g_iloadN (pc' := 56) X0 hx hby (v := ln) own_d8_55 rfl rfl ?_
                refine g_iconst (pc' := 57) (v := (1 : Int32)) X0 hx hby own_d8_56 rfl rfl ?_
                refine g_isub (pc' := 58) (v := (ln - (1 : Int32))) X0 hx hby own_d8_57 rfl rfl rfl ?_
                refine g_iloadN (pc' := 59) X0 hx hby (v := ra) own_d8_58 rfl rfl ?_
                refine g_sipush (pc' := 62) (v := (255 : Int32)) X0 hx hby own_d8_59 rfl rfl ?_
                refine g_iand (pc' := 63) (v := (ra &&& (255 : Int32))) X0 hx hby own_d8_62 rfl rfl rfl ?_
                refine g_isub (pc' := 64) (v := ((ln - (1 : Int32)) - (ra &&& (255 : Int32)))) X0 hx hby own_d8_63 rfl rfl rfl ?_
                exact g_retV X0 hx hby hf hlk hret own_d8_64 rfl rfl (Or.inl ⟨rfl, Or.inl rfl, _, rfl⟩) (by decide) (by decide) e0 ⟨((ln - (1 : Int32)) - (ra &&& (255 : Int32))), rfl, N0, rfl⟩
              · refine g_icY (pc' := 65) X0 hx hby own_d8_52 rfl (feq hc52).2 (by decide) (by decide) ?_
                refine g_iloadN (pc' := 66) X0 hx hby (v := ln) own_d8_65 rfl rfl ?_
                refine g_iloadN (pc' := 67) X0 hx hby (v := ra) own_d8_66 rfl rfl ?_
                refine g_sipush (pc' := 70) (v := (255 : Int32)) X0 hx hby own_d8_67 rfl rfl ?_
                refine g_iand (pc' := 71) (v := (ra &&& (255 : Int32))) X0 hx hby own_d8_70 rfl rfl rfl ?_
                refine g_iadd (pc' := 72) (v := (ln + (ra &&& (255 : Int32)))) X0 hx hby own_d8_71 rfl rfl rfl ?_
                exact g_retV X0 hx hby hf hlk hret own_d8_72 rfl rfl (Or.inl ⟨rfl, Or.inl rfl, _, rfl⟩) (by decide) (by decide) e0 ⟨(ln + (ra &&& (255 : Int32))), rfl, N0, rfl⟩
theorem own_d9_0 : decode prog_77_method_2_code 0 = .ok (.iload_n 1, 1) := by decide +kernel
theorem own_d9_1 : decode prog_77_method_2_code 1 = .ok (.ifCond .lt 15, 3) := by decide +kernel
theorem own_d9_4 : decode prog_77_method_2_code 4 = .ok (.iload_n 1, 1) := by decide +kernel
theorem own_d9_5 : decode prog_77_method_2_code 5 = .ok (.aload_n 0, 1) := by decide +kernel
theorem own_d9_6 : decode prog_77_method_2_code 6 = .ok (.getfield 41, 3) := by decide +kernel
theorem own_d9_9 : decode prog_77_method_2_code 9 = .ok (.if_icmp .ge 7, 3) := by decide +kernel
theorem own_d9_12 : decode prog_77_method_2_code 12 = .ok (.iconst 1, 1) := by decide +kernel
theorem own_d9_13 : decode prog_77_method_2_code 13 = .ok (.goto 4, 3) := by decide +kernel
theorem own_d9_16 : decode prog_77_method_2_code 16 = .ok (.iconst 0, 1) := by decide +kernel
theorem own_d9_17 : decode prog_77_method_2_code 17 = .ok (.ireturn, 1) := by decide +kernel
def own_Q9 (Z : State) (a : Addr) (la : Int32) (ln : Int32) (h0 : Heap) (n0 : Nat) (v : Option Value) (h : Heap) (L : List Loc) : Prop := v = some (.int (if la < (0 : Int32) then (0 : Int32) else if la < ln then (1 : Int32) else (0 : Int32))) ∧ Fr n0 L ∧ h = h0
set_option maxRecDepth 65536 in
set_option maxHeartbeats 40000000 in
theorem own_rm9 (l : Launch) (Z : State) (a0 : Array Value) (hw : ∀ d ∈ tables_1, d.before a0 Z = true) (ws : List Jvm.Cond) (a : Addr) (la : Int32) (ln : Int32) (h0 : Heap) (n0 : Nat) (Z0 : n0 ≤ h0.size) (c0 : Fld Z h0 a "com/example/automedon/automedon/road/StraightRoad" "lanes" "I" (.int ln)) :
    Con l Z (⟨"com/example/automedon/automedon/road/StraightRoad", "hasLane", "(I)Z"⟩ : MethodName) prog_77_method_2_code 2 (some .boolean) ws ({ frames := 0, cells := 0, slots := 0, locals := 0 } : Room) #[(.ref a), (.int la)] h0 (own_Q9 Z a la ln h0 n0) := by
  refine Con.start #[.val (.ref a), .val (.int la)] (plainFor_of_name own_pn3) (fun m => by first | (refine own_ef ?_; exact rfl) | (simp [entryFrame, mkF, argsToLocals, Value.category]; done) | rfl) ?_
  intro p e s m below meth c s₁ P X0 hx hby hml hret hlk hown hnm hZ e0 hf
  have hml : c.maxLocals = 2 := hml
  have N0 := Fr.nil n0
  refine g_iloadN (pc' := 1) X0 hx hby (v := la) own_d9_0 rfl rfl ?_
  by_cases hc1 : la < (0 : Int32)
  · refine g_ifY (pc' := 16) X0 hx hby own_d9_1 rfl (tlt hc1).1 (by decide) (by decide) ?_
    refine g_iconst (pc' := 17) (v := (0 : Int32)) X0 hx hby own_d9_16 rfl rfl ?_
    exact g_retZ X0 hx hby hf hlk hret own_d9_17 rfl (by simp) rfl (by decide) (by decide) e0 ⟨(by simp only [if_pos hc1] <;> rfl), N0, rfl⟩
  · refine g_ifN (pc' := 4) X0 hx hby own_d9_1 rfl (flt hc1).1 rfl ?_
    refine g_iloadN (pc' := 5) X0 hx hby (v := la) own_d9_4 rfl rfl ?_
    refine g_aloadN (pc' := 6) X0 hx hby (v := (.ref a)) own_d9_5 rfl rfl rfl ?_
    refine g_getF (pc' := 9) X0 hx hby hZ hown (host := "") (Or.inl (hw _ (List.mem_of_getElem? (i := 43) rfl))) Via.refl e0 c0 rfl own_d9_6 rfl ?_
    intro T1 X1 e1
    by_cases hc9 : la < ln
    · refine g_icN (pc' := 12) X1 hx hby own_d9_9 rfl (tlt hc9).2.1 rfl ?_
      refine g_iconst (pc' := 13) (v := (1 : Int32)) X1 hx hby own_d9_12 rfl rfl ?_
      refine g_goto (pc' := 17) X1 hx hby own_d9_13 (by decide) (by decide) ?_
      exact g_retZ X1 hx hby hf hlk hret own_d9_17 rfl (by simp) rfl (by decide) (by decide) e1 ⟨(by simp only [if_neg hc1, if_pos hc9] <;> rfl), N0, rfl⟩
    · refine g_icY (pc' := 16) X1 hx hby own_d9_9 rfl (flt hc9).2.1 (by decide) (by decide) ?_
      refine g_iconst (pc' := 17) (v := (0 : Int32)) X1 hx hby own_d9_16 rfl rfl ?_
      exact g_retZ X1 hx hby hf hlk hret own_d9_17 rfl (by simp) rfl (by decide) (by decide) e1 ⟨(by simp only [if_neg hc1, if_neg hc9] <;> rfl), N0, rfl⟩
theorem own_d10_0 : decode method_2_code 0 = .ok (.iload_n 0, 1) := by decide +kernel
theorem own_d10_1 : decode method_2_code 1 = .ok (.i2l, 1) := by decide +kernel
theorem own_d10_2 : decode method_2_code 2 = .ok (.lstore_n 2, 1) := by decide +kernel
theorem own_d10_3 : decode method_2_code 3 = .ok (.lload_n 2, 1) := by decide +kernel
theorem own_d10_4 : decode method_2_code 4 = .ok (.lconst 0, 1) := by decide +kernel
theorem own_d10_5 : decode method_2_code 5 = .ok (.lcmp, 1) := by decide +kernel
theorem own_d10_6 : decode method_2_code 6 = .ok (.ifCond .lt 16, 3) := by decide +kernel
theorem own_d10_9 : decode method_2_code 9 = .ok (.lload_n 2, 1) := by decide +kernel
theorem own_d10_10 : decode method_2_code 10 = .ok (.iload_n 1, 1) := by decide +kernel
theorem own_d10_11 : decode method_2_code 11 = .ok (.i2l, 1) := by decide +kernel
theorem own_d10_12 : decode method_2_code 12 = .ok (.lconst 1, 1) := by decide +kernel
theorem own_d10_13 : decode method_2_code 13 = .ok (.lsub, 1) := by decide +kernel
theorem own_d10_14 : decode method_2_code 14 = .ok (.lcmp, 1) := by decide +kernel
theorem own_d10_15 : decode method_2_code 15 = .ok (.ifCond .gt 7, 3) := by decide +kernel
theorem own_d10_18 : decode method_2_code 18 = .ok (.iconst 1, 1) := by decide +kernel
theorem own_d10_19 : decode method_2_code 19 = .ok (.goto 4, 3) := by decide +kernel
theorem own_d10_22 : decode method_2_code 22 = .ok (.iconst 0, 1) := by decide +kernel
theorem own_d10_23 : decode method_2_code 23 = .ok (.ireturn, 1) := by decide +kernel
def own_Q10 (Z : State) (la : Int32) (ln : Int32) (h0 : Heap) (n0 : Nat) (v : Option Value) (h : Heap) (L : List Loc) : Prop := v = some (.int (if lcmpW la.toInt64 (0 : Int64) < (0 : Int32) then (0 : Int32) else if (0 : Int32) < lcmpW la.toInt64 (ln.toInt64 - (1 : Int64)) then (0 : Int32) else (1 : Int32))) ∧ Fr n0 L ∧ h = h0
set_option maxRecDepth 65536 in
set_option maxHeartbeats 40000000 in
theorem own_rm10 (l : Launch) (Z : State) (a0 : Array Value) (hw : ∀ d ∈ tables_1, d.before a0 Z = true) (ws : List Jvm.Cond) (la : Int32) (ln : Int32) (h0 : Heap) (n0 : Nat) (Z0 : n0 ≤ h0.size) :
    Con l Z (⟨"com/example/automedon/automedon/road/StraightRoadHasLanePinLaw", "expected", "(II)Z"⟩ : MethodName) method_2_code 4 (some .boolean) ws ({ frames := 0, cells := 0, slots := 0, locals := 0 } : Room) #[(.int la), (.int ln)] h0 (own_Q10 Z la ln h0 n0) := by
  refine Con.start #[.val (.int la), .val (.int ln), .unset, .unset] (plainFor_of_name own_pn5) (fun m => by first | (refine own_ef ?_; exact rfl) | (simp [entryFrame, mkF, argsToLocals, Value.category]; done) | rfl) ?_
  intro p e s m below meth c s₁ P X0 hx hby hml hret hlk hown hnm hZ e0 hf
  have hml : c.maxLocals = 4 := hml
  have N0 := Fr.nil n0
  refine g_iloadN (pc' := 1) X0 hx hby (v := la) own_d10_0 rfl rfl ?_
  obtain ⟨x2_1, h_x2_1⟩ : ∃ z : Int64, la.toInt64 = z := ⟨_, rfl⟩
  refine g_i2l (pc' := 2) (v := x2_1) X0 hx hby own_d10_1 rfl h_x2_1 rfl ?_
  refine g_lstoreN (pc' := 3) (Ls' := #[.val (.int la), .val (.int ln), .val (.long x2_1), .second]) X0 hx hby own_d10_2 rfl rfl rfl ?_
  refine g_lloadN (pc' := 4) X0 hx hby (v := x2_1) own_d10_3 rfl rfl ?_
  refine g_lconst (pc' := 5) (v := (0 : Int64)) X0 hx hby own_d10_4 rfl rfl ?_
  refine g_lcmp (pc' := 6) (v := (lcmpW x2_1 (0 : Int64))) X0 hx hby own_d10_5 rfl rfl rfl ?_
  by_cases hc6 : (lcmpW x2_1 (0 : Int64)) < (0 : Int32)
  · refine g_ifY (pc' := 22) X0 hx hby own_d10_6 rfl (tlt hc6).1 (by decide) (by decide) ?_
    refine g_iconst (pc' := 23) (v := (0 : Int32)) X0 hx hby own_d10_22 rfl rfl ?_
    exact g_retZ X0 hx hby hf hlk hret own_d10_23 rfl (by simp) rfl (by decide) (by decide) e0 ⟨(by subst h_x2_1; simp only [if_pos hc6] <;> rfl), N0, rfl⟩
  · refine g_ifN (pc' := 9) X0 hx hby own_d10_6 rfl (flt hc6).1 rfl ?_
    refine g_lloadN (pc' := 10) X0 hx hby (v := x2_1) own_d10_9 rfl rfl ?_
    refine g_iloadN (pc' := 11) X0 hx hby (v := ln) own_d10_10 rfl rfl ?_
    refine g_i2l (pc' := 12) (v := (ln.toInt64)) X0 hx hby own_d10_11 rfl rfl rfl ?_
    refine g_lconst (pc' := 13) (v := (1 : Int64)) X0 hx hby own_d10_12 rfl rfl ?_
    refine g_lsub (pc' := 14) (v := ((ln.toInt64) - (1 : Int64))) X0 hx hby own_d10_13 rfl rfl rfl ?_
    refine g_lcmp (pc' := 15) (v := (lcmpW x2_1 ((ln.toInt64) - (1 : Int64)))) X0 hx hby own_d10_14 rfl rfl rfl ?_
    by_cases hc15 : (0 : Int32) < (lcmpW x2_1 ((ln.toInt64) - (1 : Int64)))
    · refine g_ifY (pc' := 22) X0 hx hby own_d10_15 rfl (tlt hc15).2.2.1 (by decide) (by decide) ?_
      refine g_iconst (pc' := 23) (v := (0 : Int32)) X0 hx hby own_d10_22 rfl rfl ?_
      exact g_retZ X0 hx hby hf hlk hret own_d10_23 rfl (by simp) rfl (by decide) (by decide) e0 ⟨(by subst h_x2_1; simp only [if_neg hc6, if_pos hc15] <;> rfl), N0, rfl⟩
    · refine g_ifN (pc' := 18) X0 hx hby own_d10_15 rfl (flt hc15).2.2.1 rfl ?_
      refine g_iconst (pc' := 19) (v := (1 : Int32)) X0 hx hby own_d10_18 rfl rfl ?_
      refine g_goto (pc' := 23) X0 hx hby own_d10_19 (by decide) (by decide) ?_
      exact g_retZ X0 hx hby hf hlk hret own_d10_23 rfl (by simp) rfl (by decide) (by decide) e0 ⟨(by subst h_x2_1; simp only [if_neg hc6, if_neg hc15] <;> rfl), N0, rfl⟩
theorem own_i32 (x : Int32) : -2147483648 ≤ x.toInt ∧ x.toInt ≤ 2147483647 := by
  have h1 := x.le_toInt
  have h2 := x.toInt_lt
  constructor <;> omega
theorem own_m8 (x : Int32) : 0 ≤ (x &&& (255 : Int32)).toInt ∧ (x &&& (255 : Int32)).toInt ≤ 255 := by
  rw [Jvm.Kit.i32_mask x 255 (k := 8) (by decide) (by decide)]; omega
theorem own_s (x : Int32) : Rv (FP.dadd (4607182418800017408 : UInt64) (FP.i2d (x &&& (255 : Int32)))) (1 + (x &&& (255 : Int32)).toInt) 1 := by
  have := own_m8 x
  obtain ⟨V, e⟩ := ex_rv (1 + (x &&& (255 : Int32)).toInt) 0 (by omega) (by decide)
  exact rv_add (by decide) rv_one (rv_i2d _) e
theorem own_n1 (x : Int32) : Jvm.Free.Fl.NoNaN64 (FP.dadd (4607182418800017408 : UInt64) (FP.i2d (x &&& (255 : Int32)))) := rv_nn (own_s x)
theorem own_pre {n ln le0 w0 : Int32} {le lw : UInt64} (h1 : (if (1 : Int32) < (n &&& (2147483647 : Int32)) then (n &&& (2147483647 : Int32)) else (1 : Int32)) = ln) (h2 : FP.dadd (4607182418800017408 : UInt64) (FP.i2d (le0 &&& (255 : Int32))) = le) (h3 : FP.dadd (4607182418800017408 : UInt64) (FP.i2d (w0 &&& (255 : Int32))) = lw) :
    Jvm.FP.Core.DFin le ∧ (0 : Int32) < cmpValue (FP.dcmp le 0) .l ∧ Jvm.FP.Core.DFin lw ∧ (0 : Int32) < cmpValue (FP.dcmp lw 0) .l ∧ Jvm.FP.Core.DFin (FP.dmul (FP.i2d ln) lw) ∧ ¬ ln < (1 : Int32) := by
  have b1 := own_m8 le0
  have b2 := own_m8 w0
  have r1 := own_s le0
  have r2 := own_s w0
  rw [h2] at r1
  rw [h3] at r2
  have e1 : (1 : Int32).toInt = 1 := rfl
  have hl : 1 ≤ ln.toInt := by
    rw [← h1]
    split
    · rename_i q; rw [Int32.lt_iff_toInt_lt, e1] at q; omega
    · exact Int.le_of_eq e1.symm
  have hi := own_i32 ln
  have bp : 0 ≤ ln.toInt * (1 + (w0 &&& (255 : Int32)).toInt) ∧ ln.toInt * (1 + (w0 &&& (255 : Int32)).toInt) ≤ 2147483647 * 256 := ⟨Int.mul_nonneg (by omega) (by omega), Int.mul_le_mul hi.2 (by omega) (by omega) (by omega)⟩
  obtain ⟨V, e⟩ := ex_rv (ln.toInt * (1 + (w0 &&& (255 : Int32)).toInt)) 0 (by omega) (by decide)
  have r3 := rv_mul (d := 1) (d' := 1) (by decide) (by decide) (rv_i2d ln) r2 e
  exact ⟨r1.1, own_pos (by decide) r1 (by omega), r2.1, own_pos (by decide) r2 (by omega), r3.1, fun q => by rw [Int32.lt_iff_toInt_lt, e1] at q; omega⟩
theorem own_eq {la ln g1 g2 : Int32} (h : ¬ ln < (1 : Int32)) (h1 : (if la < (0 : Int32) then (0 : Int32) else if la < ln then (1 : Int32) else (0 : Int32)) = g1)
    (h2 : (if lcmpW la.toInt64 (0 : Int64) < (0 : Int32) then (0 : Int32) else if (0 : Int32) < lcmpW la.toInt64 (ln.toInt64 - (1 : Int64)) then (0 : Int32) else (1 : Int32)) = g2) : g1 = g2 := by
  have e1 : (1 : Int32).toInt = 1 := rfl
  have e2 : (1 : Int64).toInt = 1 := rfl
  have hl := own_i32 ln
  have k1 : (lcmpW la.toInt64 (0 : Int64) < (0 : Int32)) = (la < (0 : Int32)) := by
    have z6 : (0 : Int64).toInt = 0 := rfl
    have z3 : (0 : Int32).toInt = 0 := rfl
    rw [eq_iff_iff, lcW, lc_lt, Int64.lt_iff_toInt_lt, Int32.lt_iff_toInt_lt, Int32.toInt_toInt64, z6, z3]
  have k2 : ((0 : Int32) < lcmpW la.toInt64 (ln.toInt64 - (1 : Int64))) = ¬ la < ln := by
    rw [eq_iff_iff, lcW, lc_gt, Int64.lt_iff_toInt_lt, Int32.lt_iff_toInt_lt, Int32.toInt_toInt64, Jvm.Kit.i64_sub (by rw [Int32.toInt_toInt64, e2]; omega) (by rw [Int32.toInt_toInt64, e2]; omega), Int32.toInt_toInt64, e2]
    omega
  rw [← h1, ← h2]
  simp only [k1, k2]
  by_cases q1 : la < (0 : Int32)
  · rw [if_pos q1, if_pos q1]
  · rw [if_neg q1, if_neg q1]
    by_cases q2 : la < ln
    · rw [if_pos q2, if_neg (not_not_intro q2)]
    · rw [if_neg q2, if_pos q2]
theorem own_a3 {ln g : Int32} (h : ¬ ln < (1 : Int32)) (h1 : (if (0 : Int32) < (0 : Int32) then (0 : Int32) else if (0 : Int32) < ln then (1 : Int32) else (0 : Int32)) = g) : ¬ (g = (0 : Int32)) := by
  have e1 : (1 : Int32).toInt = 1 := rfl
  rw [if_neg (by decide), if_pos (by rw [Int32.lt_iff_toInt_lt] at h ⊢; rw [e1] at h; show (0 : Int) < _; omega)] at h1
  rw [← h1]; decide
theorem own_a4 {ln g : Int32} (h : ¬ ln < (1 : Int32)) (h1 : (if (ln - (1 : Int32)) < (0 : Int32) then (0 : Int32) else if (ln - (1 : Int32)) < ln then (1 : Int32) else (0 : Int32)) = g) : ¬ (g = (0 : Int32)) := by
  have e1 : (1 : Int32).toInt = 1 := rfl
  have hl := own_i32 ln
  rw [Int32.lt_iff_toInt_lt, e1] at h
  have e : (ln - (1 : Int32)).toInt = ln.toInt - 1 := by rw [Jvm.Kit.i32_sub (by rw [e1]; omega) (by rw [e1]; omega), e1]
  rw [if_neg (by rw [Int32.lt_iff_toInt_lt, e]; show ¬ _ < (0 : Int); omega), if_pos (by rw [Int32.lt_iff_toInt_lt, e]; omega)] at h1
  rw [← h1]; decide
theorem own_a5 {ln g : Int32} (h1 : (if (-1 : Int32) < (0 : Int32) then (0 : Int32) else if (-1 : Int32) < ln then (1 : Int32) else (0 : Int32)) = g) : g = (0 : Int32) := by
  rw [if_pos (by decide)] at h1; exact h1.symm
theorem own_a6 {ln g : Int32} (h1 : (if ln < (0 : Int32) then (0 : Int32) else if ln < ln then (1 : Int32) else (0 : Int32)) = g) : g = (0 : Int32) := by
  rw [← h1]
  split
  · rfl
  · rw [if_neg (fun q => by rw [Int32.lt_iff_toInt_lt] at q; omega)]

def own_Q0 (Z : State) (n : Int32) (ra : Int32) (se : Int32) (le0 : Int32) (w0 : Int32) (h0 : Heap) (n0 : Nat) (v : Option Value) (h : Heap) (L : List Loc) : Prop := v = some (.int (1 : Int32)) ∧ Fr n0 L ∧ Keep h0 h []
set_option maxRecDepth 65536 in
set_option maxHeartbeats 40000000 in
theorem own_rm0 (l : Launch) (Z : State) (a0 : Array Value) (hw : ∀ d ∈ tables_1, d.before a0 Z = true) (ws : List Jvm.Cond) (n : Int32) (ra : Int32) (se : Int32) (le0 : Int32) (w0 : Int32) (h0 : Heap) (n0 : Nat) (Z0 : n0 ≤ h0.size) :
    ConW l Z x code maxLocals ret ws room_1 #[(.int n), (.int ra), (.int se), (.int le0), (.int w0)] h0 (own_Q0 Z n ra se le0 w0 h0 n0) := by
  refine ConW.start #[.val (.int n), .val (.int ra), .val (.int se), .val (.int le0), .val (.int w0), .unset, .unset, .unset, .unset, .unset, .unset, .unset, .unset, .unset, .unset, .unset, .unset] (plainFor_of_name own_pn5) (fun m => by first | (refine own_ef ?_; exact rfl) | (simp [entryFrame, mkF, argsToLocals, Value.category, maxLocals]; done) | rfl) ?_
  intro p e s m below meth c s₁ P X0 hx hby hml hret hlk hown hnm hZ e0 hf hS
  have hk : 0 ≤ h0.size := Nat.zero_le _
  have hml : c.maxLocals = 17 := hml
  have N0 := Fr.nil n0
  have hret : meth.sig.returnType = some .boolean := hret
  have K0 : Keep h0 h0 [] := Keep.refl _ _
  refine g_iconst (pc' := 1) (v := (1 : Int32)) X0 hx hby at_0 rfl rfl ?_
  refine g_iloadN (pc' := 2) X0 hx hby (v := n) at_1 rfl rfl ?_
  refine g_ldcI (pc' := 4) X0 hx hby hZ hown (hw _ (List.mem_of_getElem? (i := 0) rfl)) at_2 rfl ?_
  refine g_iand (pc' := 5) (v := (n &&& (2147483647 : Int32))) X0 hx hby at_4 rfl rfl rfl ?_
  refine g_callS (argsL := [(.int (1 : Int32)), (.int (n &&& (2147483647 : Int32)))]) (pc' := 8) X0 hx hby (by rw [hml]; rfl) hZ hown e0 (own_rm1 l Z a0 hw [] (1 : Int32) (n &&& (2147483647 : Int32))  h0 n0 Z0) (hw _ (List.mem_of_getElem? (i := 1) rfl)) (hw _ (List.mem_of_getElem? (i := 2) rfl)) (hw _ (List.mem_of_getElem? (i := 3) rfl)) (hw _ (List.mem_of_getElem? (i := 4) rfl)) (by decide) own_pd3 rfl rfl (W := 0) rfl (by decide) (by decide) (by decide) (by decide) at_5 rfl ?_
  intro T1 v1 L1 X1 qq1
  obtain ⟨rfl, n1, e1⟩ := qq1
  have N1 := Fr.app N0 n1
  obtain ⟨ln, h_ln⟩ : ∃ z : Int32, (if (1 : Int32) < (n &&& (2147483647 : Int32)) then (n &&& (2147483647 : Int32)) else (1 : Int32)) = z := ⟨_, rfl⟩
  rw [h_ln]
  show Gf p e below P T1 m 8 #[.val (.int n), .val (.int ra), .val (.int se), .val (.int le0), .val (.int w0), .unset, .unset, .unset, .unset, .unset, .unset, .unset, .unset, .unset, .unset, .unset, .unset] [(.int ln)]
  refine g_istore (pc' := 10) (Ls' := #[.val (.int n), .val (.int ra), .val (.int se), .val (.int le0), .val (.int w0), .val (.int ln), .unset, .unset, .unset, .unset, .unset, .unset, .unset, .unset, .unset, .unset, .unset]) X1 hx hby at_8 rfl rfl rfl ?_
  refine g_dconst1 (pc' := 11) (v := (4607182418800017408 : UInt64)) X1 hx hby at_10 rfl rfl ?_
  refine g_iloadN (pc' := 12) X1 hx hby (v := le0) at_11 rfl rfl ?_
  refine g_sipush (pc' := 15) (v := (255 : Int32)) X1 hx hby at_12 rfl rfl ?_
  refine g_iand (pc' := 16) (v := (le0 &&& (255 : Int32))) X1 hx hby at_15 rfl rfl rfl ?_
  refine g_i2d (pc' := 17) (v := (FP.i2d (le0 &&& (255 : Int32)))) X1 hx hby at_16 rfl rfl rfl ?_
  obtain ⟨le, h_le⟩ : ∃ z : UInt64, FP.dadd (4607182418800017408 : UInt64) (FP.i2d (le0 &&& (255 : Int32))) = z := ⟨_, rfl⟩
  refine g_dadd (pc' := 18) (v := le) X1 hx hby at_17 rfl (own_n1 _) h_le rfl ?_
  refine g_dstore (pc' := 20) (Ls' := #[.val (.int n), .val (.int ra), .val (.int se), .val (.int le0), .val (.int w0), .val (.int ln), .val (.double le), .second, .unset, .unset, .unset, .unset, .unset, .unset, .unset, .unset, .unset]) X1 hx hby at_18 rfl rfl rfl ?_
  refine g_dconst1 (pc' := 21) (v := (4607182418800017408 : UInt64)) X1 hx hby at_20 rfl rfl ?_
  refine g_iload (pc' := 23) X1 hx hby (v := w0) at_21 rfl rfl ?_
  refine g_sipush (pc' := 26) (v := (255 : Int32)) X1 hx hby at_23 rfl rfl ?_
  refine g_iand (pc' := 27) (v := (w0 &&& (255 : Int32))) X1 hx hby at_26 rfl rfl rfl ?_
  refine g_i2d (pc' := 28) (v := (FP.i2d (w0 &&& (255 : Int32)))) X1 hx hby at_27 rfl rfl rfl ?_
  obtain ⟨lw, h_lw⟩ : ∃ z : UInt64, FP.dadd (4607182418800017408 : UInt64) (FP.i2d (w0 &&& (255 : Int32))) = z := ⟨_, rfl⟩
  refine g_dadd (pc' := 29) (v := lw) X1 hx hby at_28 rfl (own_n1 _) h_lw rfl ?_
  refine g_dstore (pc' := 31) (Ls' := #[.val (.int n), .val (.int ra), .val (.int se), .val (.int le0), .val (.int w0), .val (.int ln), .val (.double le), .second, .val (.double lw), .second, .unset, .unset, .unset, .unset, .unset, .unset, .unset]) X1 hx hby at_29 rfl rfl rfl ?_
  refine g_new (pc' := 34) X1 hx hby hZ hown (hw _ (List.mem_of_getElem? (i := 5) rfl)) (hw _ (List.mem_of_getElem? (i := 6) rfl)) (hw _ (List.mem_of_getElem? (i := 7) rfl)) e1 at_31 rfl (by decide) (by decide) ?_
  intro T2 h2 o2 X2 e2 E2 A2 D2 q2
  have ge2 : n0 ≤ o2 := by rw [q2]; exact Z0
  have kp2 : h0.size ≤ o2 := by rw [q2]; exact K0.1
  have f3 : Fld Z h2 o2 "com/example/automedon/automedon/road/StraightRoad" "length" "D" (.double (0 : UInt64)) := D2 (Or.inr (hw _ (List.mem_of_getElem? (i := 42) rfl))) (ty := .double) own_fd0
  have f4 : Fld Z h2 o2 "com/example/automedon/automedon/road/StraightRoad" "lanes" "I" (.int (0 : Int32)) := D2 (Or.inr (hw _ (List.mem_of_getElem? (i := 44) rfl))) (ty := .int) own_fd1
  have f5 : Fld Z h2 o2 "com/example/automedon/automedon/road/StraightRoad" "laneWidth" "D" (.double (0 : UInt64)) := D2 (Or.inr (hw _ (List.mem_of_getElem? (i := 46) rfl))) (ty := .double) own_fd0
  have z2 := Nat.le_trans Z0 E2.1
  have hk := Nat.le_trans hk E2.1
  have K2 := K0.ext E2
  obtain ⟨u1, u2, u3, u4, u5, u6⟩ := own_pre h_ln h_le h_lw
  refine g_dup (pc' := 35) X2 hx hby at_34 rfl rfl rfl ?_
  refine g_dload (pc' := 37) X2 hx hby (v := le) at_35 rfl rfl ?_
  refine g_iload (pc' := 39) X2 hx hby (v := ln) at_37 rfl rfl ?_
  refine g_dload (pc' := 41) X2 hx hby (v := lw) at_39 rfl rfl ?_
  refine g_initW (argsL := [(.double le), (.int ln), (.double lw)]) (pc' := 44) X2 hx hby (by rw [hml]; rfl) hZ hown hS hk rfl e2 (own_rm2 l Z a0 hw [] o2 le ln lw  h2 n0 z2 A2 f3 f4 f5 ge2 (u1) (u2) (u3) (u4) (u5) (u6)) (hw _ (List.mem_of_getElem? (i := 8) rfl)) (hw _ (List.mem_of_getElem? (i := 9) rfl)) (hw _ (List.mem_of_getElem? (i := 7) rfl)) (hw _ (List.mem_of_getElem? (i := 10) rfl)) (by decide) own_pd4 rfl rfl (W := 1) rfl (by decide) (by decide) (by decide) (by decide) at_41 rfl ?_
  intro T6 v6 L6 X6 qq6 hS hZ hown
  obtain ⟨h6, e6⟩ : ∃ h, T6.heap = h := ⟨_, rfl⟩
  rw [e6] at qq6 hS
  have hk : h6.size ≤ h6.size := Nat.le_refl _
  obtain ⟨rfl, n6, k6, p6_0, p6_1, p6_2⟩ := qq6
  have f7 := A2.keep k6
  have z6 := Nat.le_trans z2 k6.1
  have K6 := K2.trans k6 (allS (Or.inr kp2) all0)
  have N6 := Fr.app N1 n6
  show Gf p e below P T6 m 44 #[.val (.int n), .val (.int ra), .val (.int se), .val (.int le0), .val (.int w0), .val (.int ln), .val (.double le), .second, .val (.double lw), .second, .unset, .unset, .unset, .unset, .unset, .unset, .unset] [(.ref o2)]
  refine g_astore (pc' := 46) (Ls' := #[.val (.int n), .val (.int ra), .val (.int se), .val (.int le0), .val (.int w0), .val (.int ln), .val (.double le), .second, .val (.double lw), .second, .val (.ref o2), .unset, .unset, .unset, .unset, .unset, .unset]) X6 hx hby at_44 rfl rfl rfl rfl ?_
  refine g_iloadN (pc' := 47) X6 hx hby (v := se) at_46 rfl rfl ?_
  refine g_iloadN (pc' := 48) X6 hx hby (v := ra) at_47 rfl rfl ?_
  refine g_iload (pc' := 50) X6 hx hby (v := ln) at_48 rfl rfl ?_
  refine g_callS (argsL := [(.int se), (.int ra), (.int ln)]) (pc' := 53) X6 hx hby (by rw [hml]; rfl) hZ hown e6 (own_rm8 l Z a0 hw [] se ra ln  h6 n0 z6) (hw _ (List.mem_of_getElem? (i := 47) rfl)) (hw _ (List.mem_of_getElem? (i := 48) rfl)) (hw _ (List.mem_of_getElem? (i := 49) rfl)) (hw _ (List.mem_of_getElem? (i := 50) rfl)) (by decide) own_pd5 rfl rfl (W := 0) rfl (by decide) (by decide) (by decide) (by decide) at_50 rfl ?_
  intro T11 v11 L11 X11 qq11
  obtain ⟨la, rfl, n11, e11⟩ := qq11
  have N11 := Fr.app N6 n11
  show Gf p e below P T11 m 53 #[.val (.int n), .val (.int ra), .val (.int se), .val (.int le0), .val (.int w0), .val (.int ln), .val (.double le), .second, .val (.double lw), .second, .val (.ref o2), .unset, .unset, .unset, .unset, .unset, .unset] [(.int la)]
  refine g_istore (pc' := 55) (Ls' := #[.val (.int n), .val (.int ra), .val (.int se), .val (.int le0), .val (.int w0), .val (.int ln), .val (.double le), .second, .val (.double lw), .second, .val (.ref o2), .val (.int la), .unset, .unset, .unset, .unset, .unset]) X11 hx hby at_53 rfl rfl rfl ?_
  refine g_aload (pc' := 57) X11 hx hby (v := (.ref o2)) at_55 rfl rfl rfl ?_
  refine g_iload (pc' := 59) X11 hx hby (v := la) at_57 rfl rfl ?_
  refine g_virt (argsL := [(.int la)]) (pc' := 62) X11 hx hby (by rw [hml]; rfl) hZ hown e11 (own_rm9 l Z a0 hw [] o2 la ln h6 n0 z6 p6_2) (hw _ (List.mem_of_getElem? (i := 51) rfl)) (hw _ (List.mem_of_getElem? (i := 52) rfl)) (hw _ (List.mem_of_getElem? (i := 54) rfl)) (hw _ (List.mem_of_getElem? (i := 53) rfl)) (hw _ (List.mem_of_getElem? (i := 7) rfl)) (hw _ (List.mem_of_getElem? (i := 55) rfl)) (by decide) p6_0 own_pd6 rfl rfl (W := 0) rfl (by decide) (by decide) (by decide) (by decide) at_59 rfl ?_
  intro T12 v12 L12 X12 qq12
  obtain ⟨rfl, n12, e12⟩ := qq12
  have N12 := Fr.app N11 n12
  obtain ⟨g1, h_g1⟩ : ∃ z : Int32, (if la < (0 : Int32) then (0 : Int32) else if la < ln then (1 : Int32) else (0 : Int32)) = z := ⟨_, rfl⟩
  rw [h_g1]
  show Gf p e below P T12 m 62 #[.val (.int n), .val (.int ra), .val (.int se), .val (.int le0), .val (.int w0), .val (.int ln), .val (.double le), .second, .val (.double lw), .second, .val (.ref o2), .val (.int la), .unset, .unset, .unset, .unset, .unset] [(.int g1)]
  refine g_iload (pc' := 64) X12 hx hby (v := la) at_62 rfl rfl ?_
  refine g_iload (pc' := 66) X12 hx hby (v := ln) at_64 rfl rfl ?_
  refine g_callS (argsL := [(.int la), (.int ln)]) (pc' := 69) X12 hx hby (by rw [hml]; rfl) hZ hown e12 (own_rm10 l Z a0 hw [] la ln  h6 n0 z6) (hw _ (List.mem_of_getElem? (i := 56) rfl)) (hw _ (List.mem_of_getElem? (i := 57) rfl)) (hw _ (List.mem_of_getElem? (i := 49) rfl)) (hw _ (List.mem_of_getElem? (i := 58) rfl)) (by decide) own_pd7 rfl rfl (W := 1) rfl (by decide) (by decide) (by decide) (by decide) at_66 rfl ?_
  intro T13 v13 L13 X13 qq13
  obtain ⟨rfl, n13, e13⟩ := qq13
  have N13 := Fr.app N12 n13
  obtain ⟨g2, h_g2⟩ : ∃ z : Int32, (if lcmpW la.toInt64 (0 : Int64) < (0 : Int32) then (0 : Int32) else if (0 : Int32) < lcmpW la.toInt64 (ln.toInt64 - (1 : Int64)) then (0 : Int32) else (1 : Int32)) = z := ⟨_, rfl⟩
  rw [h_g2]
  show Gf p e below P T13 m 69 #[.val (.int n), .val (.int ra), .val (.int se), .val (.int le0), .val (.int w0), .val (.int ln), .val (.double le), .second, .val (.double lw), .second, .val (.ref o2), .val (.int la), .unset, .unset, .unset, .unset, .unset] [(.int g2), (.int g1)]
  refine g_icN (pc' := 72) X13 hx hby at_69 rfl (teq (own_eq u6 h_g1 h_g2 : g1 = g2)).2 rfl ?_
  refine g_iconst (pc' := 73) (v := (1 : Int32)) X13 hx hby at_72 rfl rfl ?_
  refine g_goto (pc' := 77) X13 hx hby at_73 (by decide) (by decide) ?_
  refine g_istore (pc' := 79) (Ls' := #[.val (.int n), .val (.int ra), .val (.int se), .val (.int le0), .val (.int w0), .val (.int ln), .val (.double le), .second, .val (.double lw), .second, .val (.ref o2), .val (.int la), .val (.int (1 : Int32)), .unset, .unset, .unset, .unset]) X13 hx hby at_77 rfl rfl rfl ?_
  refine g_aload (pc' := 81) X13 hx hby (v := (.ref o2)) at_79 rfl rfl rfl ?_
  refine g_iconst (pc' := 82) (v := (0 : Int32)) X13 hx hby at_81 rfl rfl ?_
  refine g_virt (argsL := [(.int (0 : Int32))]) (pc' := 85) X13 hx hby (by rw [hml]; rfl) hZ hown e13 (own_rm9 l Z a0 hw [] o2 (0 : Int32) ln h6 n0 z6 p6_2) (hw _ (List.mem_of_getElem? (i := 51) rfl)) (hw _ (List.mem_of_getElem? (i := 52) rfl)) (hw _ (List.mem_of_getElem? (i := 54) rfl)) (hw _ (List.mem_of_getElem? (i := 53) rfl)) (hw _ (List.mem_of_getElem? (i := 7) rfl)) (hw _ (List.mem_of_getElem? (i := 55) rfl)) (by decide) p6_0 own_pd6 rfl rfl (W := 0) rfl (by decide) (by decide) (by decide) (by decide) at_82 rfl ?_
  intro T14 v14 L14 X14 qq14
  obtain ⟨rfl, n14, e14⟩ := qq14
  have N14 := Fr.app N13 n14
  obtain ⟨g3, h_g3⟩ : ∃ z : Int32, (if (0 : Int32) < (0 : Int32) then (0 : Int32) else if (0 : Int32) < ln then (1 : Int32) else (0 : Int32)) = z := ⟨_, rfl⟩
  rw [h_g3]
  show Gf p e below P T14 m 85 #[.val (.int n), .val (.int ra), .val (.int se), .val (.int le0), .val (.int w0), .val (.int ln), .val (.double le), .second, .val (.double lw), .second, .val (.ref o2), .val (.int la), .val (.int (1 : Int32)), .unset, .unset, .unset, .unset] [(.int g3)]
  refine g_istore (pc' := 87) (Ls' := #[.val (.int n), .val (.int ra), .val (.int se), .val (.int le0), .val (.int w0), .val (.int ln), .val (.double le), .second, .val (.double lw), .second, .val (.ref o2), .val (.int la), .val (.int (1 : Int32)), .val (.int g3), .unset, .unset, .unset]) X14 hx hby at_85 rfl rfl rfl ?_
  refine g_aload (pc' := 89) X14 hx hby (v := (.ref o2)) at_87 rfl rfl rfl ?_
  refine g_iload (pc' := 91) X14 hx hby (v := ln) at_89 rfl rfl ?_
  refine g_iconst (pc' := 92) (v := (1 : Int32)) X14 hx hby at_91 rfl rfl ?_
  refine g_isub (pc' := 93) (v := (ln - (1 : Int32))) X14 hx hby at_92 rfl rfl rfl ?_
  refine g_virt (argsL := [(.int (ln - (1 : Int32)))]) (pc' := 96) X14 hx hby (by rw [hml]; rfl) hZ hown e14 (own_rm9 l Z a0 hw [] o2 (ln - (1 : Int32)) ln h6 n0 z6 p6_2) (hw _ (List.mem_of_getElem? (i := 51) rfl)) (hw _ (List.mem_of_getElem? (i := 52) rfl)) (hw _ (List.mem_of_getElem? (i := 54) rfl)) (hw _ (List.mem_of_getElem? (i := 53) rfl)) (hw _ (List.mem_of_getElem? (i := 7) rfl)) (hw _ (List.mem_of_getElem? (i := 55) rfl)) (by decide) p6_0 own_pd6 rfl rfl (W := 0) rfl (by decide) (by decide) (by decide) (by decide) at_93 rfl ?_
  intro T15 v15 L15 X15 qq15
  obtain ⟨rfl, n15, e15⟩ := qq15
  have N15 := Fr.app N14 n15
  obtain ⟨g4, h_g4⟩ : ∃ z : Int32, (if (ln - (1 : Int32)) < (0 : Int32) then (0 : Int32) else if (ln - (1 : Int32)) < ln then (1 : Int32) else (0 : Int32)) = z := ⟨_, rfl⟩
  rw [h_g4]
  show Gf p e below P T15 m 96 #[.val (.int n), .val (.int ra), .val (.int se), .val (.int le0), .val (.int w0), .val (.int ln), .val (.double le), .second, .val (.double lw), .second, .val (.ref o2), .val (.int la), .val (.int (1 : Int32)), .val (.int g3), .unset, .unset, .unset] [(.int g4)]
  refine g_istore (pc' := 98) (Ls' := #[.val (.int n), .val (.int ra), .val (.int se), .val (.int le0), .val (.int w0), .val (.int ln), .val (.double le), .second, .val (.double lw), .second, .val (.ref o2), .val (.int la), .val (.int (1 : Int32)), .val (.int g3), .val (.int g4), .unset, .unset]) X15 hx hby at_96 rfl rfl rfl ?_
  refine g_aload (pc' := 100) X15 hx hby (v := (.ref o2)) at_98 rfl rfl rfl ?_
  refine g_iconst (pc' := 101) (v := (-1 : Int32)) X15 hx hby at_100 rfl rfl ?_
  refine g_virt (argsL := [(.int (-1 : Int32))]) (pc' := 104) X15 hx hby (by rw [hml]; rfl) hZ hown e15 (own_rm9 l Z a0 hw [] o2 (-1 : Int32) ln h6 n0 z6 p6_2) (hw _ (List.mem_of_getElem? (i := 51) rfl)) (hw _ (List.mem_of_getElem? (i := 52) rfl)) (hw _ (List.mem_of_getElem? (i := 54) rfl)) (hw _ (List.mem_of_getElem? (i := 53) rfl)) (hw _ (List.mem_of_getElem? (i := 7) rfl)) (hw _ (List.mem_of_getElem? (i := 55) rfl)) (by decide) p6_0 own_pd6 rfl rfl (W := 0) rfl (by decide) (by decide) (by decide) (by decide) at_101 rfl ?_
  intro T16 v16 L16 X16 qq16
  obtain ⟨rfl, n16, e16⟩ := qq16
  have N16 := Fr.app N15 n16
  obtain ⟨g5, h_g5⟩ : ∃ z : Int32, (if (-1 : Int32) < (0 : Int32) then (0 : Int32) else if (-1 : Int32) < ln then (1 : Int32) else (0 : Int32)) = z := ⟨_, rfl⟩
  rw [h_g5]
  show Gf p e below P T16 m 104 #[.val (.int n), .val (.int ra), .val (.int se), .val (.int le0), .val (.int w0), .val (.int ln), .val (.double le), .second, .val (.double lw), .second, .val (.ref o2), .val (.int la), .val (.int (1 : Int32)), .val (.int g3), .val (.int g4), .unset, .unset] [(.int g5)]
  refine g_ifN (pc' := 107) X16 hx hby at_104 rfl (teq (own_a5 h_g5 : g5 = (0 : Int32))).2 rfl ?_
  refine g_iconst (pc' := 108) (v := (1 : Int32)) X16 hx hby at_107 rfl rfl ?_
  refine g_goto (pc' := 112) X16 hx hby at_108 (by decide) (by decide) ?_
  refine g_istore (pc' := 114) (Ls' := #[.val (.int n), .val (.int ra), .val (.int se), .val (.int le0), .val (.int w0), .val (.int ln), .val (.double le), .second, .val (.double lw), .second, .val (.ref o2), .val (.int la), .val (.int (1 : Int32)), .val (.int g3), .val (.int g4), .val (.int (1 : Int32)), .unset]) X16 hx hby at_112 rfl rfl rfl ?_
  refine g_aload (pc' := 116) X16 hx hby (v := (.ref o2)) at_114 rfl rfl rfl ?_
  refine g_iload (pc' := 118) X16 hx hby (v := ln) at_116 rfl rfl ?_
  refine g_virt (argsL := [(.int ln)]) (pc' := 121) X16 hx hby (by rw [hml]; rfl) hZ hown e16 (own_rm9 l Z a0 hw [] o2 ln ln h6 n0 z6 p6_2) (hw _ (List.mem_of_getElem? (i := 51) rfl)) (hw _ (List.mem_of_getElem? (i := 52) rfl)) (hw _ (List.mem_of_getElem? (i := 54) rfl)) (hw _ (List.mem_of_getElem? (i := 53) rfl)) (hw _ (List.mem_of_getElem? (i := 7) rfl)) (hw _ (List.mem_of_getElem? (i := 55) rfl)) (by decide) p6_0 own_pd6 rfl rfl (W := 0) rfl (by decide) (by decide) (by decide) (by decide) at_118 rfl ?_
  intro T17 v17 L17 X17 qq17
  obtain ⟨rfl, n17, e17⟩ := qq17
  have N17 := Fr.app N16 n17
  obtain ⟨g6, h_g6⟩ : ∃ z : Int32, (if ln < (0 : Int32) then (0 : Int32) else if ln < ln then (1 : Int32) else (0 : Int32)) = z := ⟨_, rfl⟩
  rw [h_g6]
  show Gf p e below P T17 m 121 #[.val (.int n), .val (.int ra), .val (.int se), .val (.int le0), .val (.int w0), .val (.int ln), .val (.double le), .second, .val (.double lw), .second, .val (.ref o2), .val (.int la), .val (.int (1 : Int32)), .val (.int g3), .val (.int g4), .val (.int (1 : Int32)), .unset] [(.int g6)]
  refine g_ifN (pc' := 124) X17 hx hby at_121 rfl (teq (own_a6 h_g6 : g6 = (0 : Int32))).2 rfl ?_
  refine g_iconst (pc' := 125) (v := (1 : Int32)) X17 hx hby at_124 rfl rfl ?_
  refine g_goto (pc' := 129) X17 hx hby at_125 (by decide) (by decide) ?_
  refine g_istore (pc' := 131) (Ls' := #[.val (.int n), .val (.int ra), .val (.int se), .val (.int le0), .val (.int w0), .val (.int ln), .val (.double le), .second, .val (.double lw), .second, .val (.ref o2), .val (.int la), .val (.int (1 : Int32)), .val (.int g3), .val (.int g4), .val (.int (1 : Int32)), .val (.int (1 : Int32))]) X17 hx hby at_129 rfl rfl rfl ?_
  refine g_iload (pc' := 133) X17 hx hby (v := (1 : Int32)) at_131 rfl rfl ?_
  refine g_ifN (pc' := 136) X17 hx hby at_133 rfl (feq (by decide : ¬ ((1 : Int32) = (0 : Int32)))).1 rfl ?_
  refine g_iload (pc' := 138) X17 hx hby (v := g3) at_136 rfl rfl ?_
  refine g_ifN (pc' := 141) X17 hx hby at_138 rfl (feq (own_a3 u6 h_g3 : ¬ (g3 = (0 : Int32)))).1 rfl ?_
  refine g_iload (pc' := 143) X17 hx hby (v := g4) at_141 rfl rfl ?_
  refine g_ifN (pc' := 146) X17 hx hby at_143 rfl (feq (own_a4 u6 h_g4 : ¬ (g4 = (0 : Int32)))).1 rfl ?_
  refine g_iload (pc' := 148) X17 hx hby (v := (1 : Int32)) at_146 rfl rfl ?_
  refine g_ifN (pc' := 151) X17 hx hby at_148 rfl (feq (by decide : ¬ ((1 : Int32) = (0 : Int32)))).1 rfl ?_
  refine g_iload (pc' := 153) X17 hx hby (v := (1 : Int32)) at_151 rfl rfl ?_
  refine g_ifN (pc' := 156) X17 hx hby at_153 rfl (feq (by decide : ¬ ((1 : Int32) = (0 : Int32)))).1 rfl ?_
  refine g_iconst (pc' := 157) (v := (1 : Int32)) X17 hx hby at_156 rfl rfl ?_
  refine g_goto (pc' := 161) X17 hx hby at_157 (by decide) (by decide) ?_
  exact g_retZW X17 hx hby hS hk hf hlk hret at_161 rfl (by simp) rfl (by decide) (by decide) e17 ⟨rfl, N17, K6⟩
theorem comes_1 {Post : Tables → Env → Array Value → State → Outcome → State → Prop} (hpost : ∀ tb e args s v u, (limb_1_1.after args s (.returned v) u = true ∧ limb_1_2.after args s (.returned v) u = true ∧ True) → ReturnedEndW s (.returned v) u (Jvm.fieldLocs frame_1_writes args s ++ Jvm.arrayLocs frame_1_arrays args s ++ Jvm.staticLocs frame_1_statics s) 16 2176 → Post tb e args s (.returned v) u) :
    ArmFor flags0 classFile x code maxLocals ret World_1 tables_1 room_1 Calls_1 rest_1 Pre_1 Post := by
  intro l hfl _ _ p e ha hc hk s m args below hf hA hF happ hP
  obtain ⟨hcalls, hrest, hpre⟩ := hP
  obtain ⟨-, -, -, hnamed, -, -, -, hat⟩ := (Spec.applies_iff hf).mp happ
  obtain ⟨hg, hn⟩ := and_e (Cond.before_iff.mp (show (Jvm.Cond.and given_1 narrow_1).before args s = true from hpre))
  obtain ⟨h1, g0⟩ := and_e hg
  obtain ⟨w0, w1, w2, w3, w4, rfl⟩ : ∃ w0 w1 w2 w3 w4 : Value, args = #[w0, w1, w2, w3, w4] := by
    have hs : args.size = 5 := by simpa [Cond.value, given_1] using h1
    obtain ⟨L⟩ := args
    match L, hs with
    | [w0, w1, w2, w3, w4], _ => exact ⟨w0, w1, w2, w3, w4, rfl⟩
  have hw := fun d (hd : d ∈ tables_1) => atoms_spec (ws := Jvm.Cond.code x code maxLocals ret :: tables_1) hat d (List.mem_cons_of_mem _ hd)
  have hfit : Fit s := fun {y c} hc i hi => by
    obtain ⟨ha, rfl⟩ := Array.getElem?_eq_some_iff.mp hc
    have q := List.all_eq_true.mp ((Array.all_eq_true_iff_forall_mem.mp hF) _ (Array.getElem_mem ha)) i (List.mem_range.mpr hi)
    simpa [Array.getElem?_eq_getElem hi] using q
  obtain ⟨t0, g1⟩ := and_e g0
  obtain ⟨i0, e0⟩ := is_v t0
  obtain rfl : w0 = (.int i0) := Option.some.inj e0
  obtain ⟨t1, g2⟩ := and_e g1
  obtain ⟨i1, e1⟩ := is_v t1
  obtain rfl : w1 = (.int i1) := Option.some.inj e1
  obtain ⟨t2, g3⟩ := and_e g2
  obtain ⟨i2, e2⟩ := is_v t2
  obtain rfl : w2 = (.int i2) := Option.some.inj e2
  obtain ⟨t3, g4⟩ := and_e g3
  obtain ⟨i3, e3⟩ := is_v t3
  obtain rfl : w3 = (.int i3) := Option.some.inj e3
  have t4 := g4
  obtain ⟨i4, e4⟩ := is_v t4
  obtain rfl : w4 = (.int i4) := Option.some.inj e4
  obtain ⟨n, o, h1, h2, h3, _, L, rfl, ⟨rfl, N, _⟩, hq⟩ := own_rm0 l s _ hw tables_1 i0 i1 i2 i3 i4 s.heap s.heap.size (Nat.le_refl _)  p e ha hc hk s m _ below hf ((Spec.applies_iff_loose hf).mp happ).1 ⟨rfl, State.Warmed39.refl s, rfl⟩ trivial
  refine ⟨n, _, h1, h2, h3, hpost _ _ _ _ _ _ ⟨Cond.after_iff.mpr rfl, Cond.after_iff.mpr (eq_i res_at (Term.int_eval (1)) rfl), trivial⟩ ⟨hq.1, hq.2.1, hq.2.2.1, (hq.2.2.2.sift fun y hy => Or.inr (N y hy)).mono (by decide) (by decide)⟩⟩
theorem main_1_1 : Claimed_1_1 := comes_1 fun _ _ _ _ _ _ h hF => ⟨h.1, hF⟩
theorem main_1_2 : Claimed_1_2 := comes_1 fun _ _ _ _ _ _ h hF => ⟨h.2.1, hF⟩
end Jvm.Pilot.@@N@@
namespace Jvm.Pilot.@@N@@
open Jvm Jvm.ClassFile Sem Op Lib Jvm.Free Jvm.Stand Jvm.Pilot.@@N@@.Jvm.D
/-! MADE BY PROGRAM (witnessworld.py) out of the Statement's table words and the real class files: 20 classes; the members and pool entries that the words name. The judged class is class 1, her method 3. -/
namespace start1
open Jvm.ClassFile
def u (s : String) : CpInfo := .utf8 (stringToUtf16 s)
/-- a pool by its gaps: so many unusable entries, then the entry; so many at the end -/
def gap : Nat → List CpInfo → List CpInfo
  | 0, r => r
  | n + 1, r => .unusable :: gap n r
def poolList (es : List (Nat × CpInfo)) (last : Nat) : List CpInfo := es.foldr (fun e r => gap e.1 (e.2 :: r)) (gap last [])
def pool (es : List (Nat × CpInfo)) (last : Nat) : Array CpInfo := ⟨poolList es last⟩
def fileOf (pool : Array CpInfo) (this : Nat) (attrs : Array Attribute := #[]) (ms : Array MethodInfo := #[]) (fl : Nat := 33) (sup : Nat := 0) (ifs : Array Nat := #[]) (fds : Array FieldInfo := #[]) : ClassFile where
  minorVersion := 0
  majorVersion := 65
  constantPool := pool
  accessFlags := fl
  thisClass := this
  superClass := sup
  interfaces := ifs
  fields := fds
  methods := ms
  attributes := attrs
def plain (name : String) (sup : Option ClassId) : Class where
  name := name
  kind := .ordinary
  loader := none
  accessFlags := 33
  super := sup
  interfaces := #[]
  cf := none
  fields := #[]
  methods := #[]
  instanceTypes := #[]
  staticTypes := #[]
  resolved := #[]
  callSites := []
  init := .initialized
  statics := none
  mirror := none

def pool0 : Array CpInfo := pool [(5, u "<init>"), (0, u "()V"), (1, .class_ 10), (1, u "java/lang/Object")] 113

def k0c0 : Code := { maxStack := 0, maxLocals := 1, code := object_method_1_code, exceptionTable := #[], attributes := #[] }
def k0m0 : Method := { name := "<init>", desc := "()V", sig := { parameters := [], returnType := none }, accessFlags := 1, code := some k0c0 }
/-- java/lang/Object -/
def k0 : Class := { plain "java/lang/Object" none with
  accessFlags := 33
  interfaces := #[]
  cf := some (fileOf pool0 8 #[] #[{ accessFlags := 1, nameIndex := 5, descriptorIndex := 6, attributes := #[] }] 33 0 #[] #[])
  fields := #[]
  methods := #[k0m0]
  instanceTypes := #[]
  staticTypes := #[]
  resolved := Array.replicate 124 none
  statics := none }

def pool1 : Array CpInfo := pool [(2, .class_ 4), (1, u "java/lang/Object"), (0, u "<init>"), (0, u "()V"), (2, .integer 2147483648), (0, .integer 2147483647), (0, .methodref 12 13), (0, .class_ 14), (0, .nameAndType 15 16), (0, u "java/lang/Math"), (0, u "max"), (0, u "(II)I"), (0, .class_ 18), (0, u "com/example/automedon/automedon/road/StraightRoad"), (0, .methodref 17 20), (0, .nameAndType 5 21), (0, u "(DID)V"), (0, .methodref 23 24), (0, .class_ 25), (0, .nameAndType 26 27), (0, u "com/example/automedon/automedon/road/StraightRoadHasLanePinLaw"), (0, u "pick"), (0, u "(III)I"), (0, .methodref 17 29), (0, .nameAndType 30 31), (0, u "hasLane"), (0, u "(I)Z"), (0, .methodref 23 33), (0, .nameAndType 34 35), (0, u "expected"), (0, u "(II)Z"), (3, u "law"), (0, u "(IIIII)Z")] 2

def k1m0 : Method := { name := "<init>", desc := "()V", sig := { parameters := [], returnType := none }, accessFlags := 2, code := none }
def k1c1 : Code := { maxStack := 6, maxLocals := 4, code := method_2_code, exceptionTable := #[], attributes := #[] }
def k1m1 : Method := { name := "expected", desc := "(II)Z", sig := { parameters := [.int, .int], returnType := some .boolean }, accessFlags := 10, code := some k1c1 }
def k1c2 : Code := { maxStack := 3, maxLocals := 4, code := method_3_code, exceptionTable := #[], attributes := #[] }
def k1m2 : Method := { name := "pick", desc := "(III)I", sig := { parameters := [.int, .int, .int], returnType := some .int }, accessFlags := 10, code := some k1c2 }
def k1c3 : Code := { maxStack := 7, maxLocals := 17, code := code, exceptionTable := #[], attributes := #[] }
def k1m3 : Method := { name := "law", desc := "(IIIII)Z", sig := { parameters := [.int, .int, .int, .int, .int], returnType := some .boolean }, accessFlags := 9, code := some k1c3 }
/-- com/example/automedon/automedon/road/StraightRoadHasLanePinLaw -/
def k1 : Class := { plain "com/example/automedon/automedon/road/StraightRoadHasLanePinLaw" (some 0) with
  accessFlags := 49
  interfaces := #[]
  cf := some (fileOf pool1 23 #[] #[{ accessFlags := 2, nameIndex := 5, descriptorIndex := 6, attributes := #[] }, { accessFlags := 10, nameIndex := 34, descriptorIndex := 35, attributes := #[] }, { accessFlags := 10, nameIndex := 26, descriptorIndex := 27, attributes := #[] }, { accessFlags := 9, nameIndex := 39, descriptorIndex := 40, attributes := #[] }] 49 2 #[] #[])
  fields := #[]
  methods := #[k1m0, k1m1, k1m2, k1m3]
  instanceTypes := #[]
  staticTypes := #[]
  resolved := Array.replicate 43 none
  statics := none }

def pool2 : Array CpInfo := pool [(1, .class_ 2), (0, u "java/lang/Math"), (1, .class_ 6), (1, u "java/lang/Object"), (0, u "<init>"), (0, u "()V"), (5, u "(D)D"), (83, .class_ 100), (1, u "java/lang/Math$RandomNumberGeneratorHolder"), (23, u "abs"), (47, u "negativeZeroFloatBits"), (0, u "J"), (2, u "negativeZeroDoubleBits"), (21, u "max"), (46, u "$assertionsDisabled"), (0, u "Z"), (88, u "(II)I"), (2, u "twoToTheDoubleScaleDown"), (0, u "D"), (4, u "twoToTheDoubleScaleUp"), (9, u "E"), (3, u "PI"), (2, u "TAU"), (2, u "DEGREES_TO_RADIANS"), (0, u "RADIANS_TO_DEGREES")] 94

def k2m0 : Method := { name := "<init>", desc := "()V", sig := { parameters := [], returnType := none }, accessFlags := 2, code := none }
def k2c1 : Code := { maxStack := 4, maxLocals := 2, code := jdk_29_method_64_code, exceptionTable := #[], attributes := #[] }
def k2m1 : Method := { name := "abs", desc := "(D)D", sig := { parameters := [.double], returnType := some .double }, accessFlags := 9, code := some k2c1 }
def k2c2 : Code := { maxStack := 2, maxLocals := 2, code := jdk_29_method_65_code, exceptionTable := #[], attributes := #[] }
def k2m2 : Method := { name := "max", desc := "(II)I", sig := { parameters := [.int, .int], returnType := some .int }, accessFlags := 9, code := some k2c2 }
/-- java/lang/Math -/
def k2 : Class := { plain "java/lang/Math" (some 0) with
  accessFlags := 49
  interfaces := #[]
  cf := some (fileOf pool2 1 #[.nestMembers #[98]] #[{ accessFlags := 2, nameIndex := 7, descriptorIndex := 8, attributes := #[] }, { accessFlags := 9, nameIndex := 124, descriptorIndex := 14, attributes := #[] }, { accessFlags := 9, nameIndex := 198, descriptorIndex := 335, attributes := #[] }] 49 4 #[] #[{ accessFlags := 25, nameIndex := 354, descriptorIndex := 339, attributes := #[] }, { accessFlags := 25, nameIndex := 358, descriptorIndex := 339, attributes := #[] }, { accessFlags := 25, nameIndex := 361, descriptorIndex := 339, attributes := #[] }, { accessFlags := 26, nameIndex := 364, descriptorIndex := 339, attributes := #[] }, { accessFlags := 26, nameIndex := 365, descriptorIndex := 339, attributes := #[] }, { accessFlags := 26, nameIndex := 172, descriptorIndex := 173, attributes := #[] }, { accessFlags := 26, nameIndex := 176, descriptorIndex := 173, attributes := #[] }, { accessFlags := 8, nameIndex := 344, descriptorIndex := 339, attributes := #[] }, { accessFlags := 8, nameIndex := 338, descriptorIndex := 339, attributes := #[] }, { accessFlags := 4120, nameIndex := 245, descriptorIndex := 246, attributes := #[] }])
  fields := #[{ name := "E", type := .double, accessFlags := 25, slot := 0, constantValue := 0 }, { name := "PI", type := .double, accessFlags := 25, slot := 1, constantValue := 0 }, { name := "TAU", type := .double, accessFlags := 25, slot := 2, constantValue := 0 }, { name := "DEGREES_TO_RADIANS", type := .double, accessFlags := 26, slot := 3, constantValue := 0 }, { name := "RADIANS_TO_DEGREES", type := .double, accessFlags := 26, slot := 4, constantValue := 0 }, { name := "negativeZeroFloatBits", type := .long, accessFlags := 26, slot := 5, constantValue := 0 }, { name := "negativeZeroDoubleBits", type := .long, accessFlags := 26, slot := 6, constantValue := 0 }, { name := "twoToTheDoubleScaleUp", type := .double, accessFlags := 8, slot := 7, constantValue := 0 }, { name := "twoToTheDoubleScaleDown", type := .double, accessFlags := 8, slot := 8, constantValue := 0 }, { name := "$assertionsDisabled", type := .boolean, accessFlags := 4120, slot := 9, constantValue := 0 }]
  methods := #[k2m0, k2m1, k2m2]
  instanceTypes := #[]
  staticTypes := #[.double, .double, .double, .double, .double, .long, .long, .double, .double, .boolean]
  resolved := Array.replicate 460 none
  statics := none }

def pool3 : Array CpInfo := pool [(1, .methodref 2 3), (0, .class_ 4), (0, .nameAndType 5 6), (0, u "java/lang/Object"), (0, u "<init>"), (0, u "()V"), (0, .class_ 8), (0, u "java/lang/Record")] 13

def k3c0 : Code := { maxStack := 1, maxLocals := 1, code := jdk_30_method_1_code, exceptionTable := #[], attributes := #[] }
def k3m0 : Method := { name := "<init>", desc := "()V", sig := { parameters := [], returnType := none }, accessFlags := 4, code := some k3c0 }
/-- java/lang/Record -/
def k3 : Class := { plain "java/lang/Record" (some 0) with
  accessFlags := 1057
  interfaces := #[]
  cf := some (fileOf pool3 7 #[] #[{ accessFlags := 4, nameIndex := 5, descriptorIndex := 6, attributes := #[] }] 1057 2 #[] #[])
  fields := #[]
  methods := #[k3m0]
  instanceTypes := #[]
  staticTypes := #[]
  resolved := Array.replicate 22 none
  statics := none }

def pool4 : Array CpInfo := pool [(1, .class_ 2), (0, u "com/example/automedon/automedon/road/Link"), (0, .class_ 4), (0, u "java/lang/Object")] 9

/-- com/example/automedon/automedon/road/Link -/
def k4 : Class := { plain "com/example/automedon/automedon/road/Link" (some 0) with
  accessFlags := 1537
  interfaces := #[]
  cf := some (fileOf pool4 1 #[] #[] 1537 3 #[] #[])
  fields := #[]
  methods := #[]
  instanceTypes := #[]
  staticTypes := #[]
  resolved := Array.replicate 14 none
  statics := none }

def pool5 : Array CpInfo := pool [(1, .methodref 2 3), (0, .class_ 4), (0, .nameAndType 5 6), (0, u "java/lang/Record"), (0, u "<init>"), (0, u "()V"), (0, .string 8), (0, u "road length"), (0, .methodref 10 11), (0, .class_ 12), (0, .nameAndType 13 14), (0, u "com/example/automedon/automedon/check/Require"), (0, u "positive"), (0, u "(Ljava/lang/String;D)D"), (9, .string 25), (0, u "lane width"), (0, .methodref 27 28), (0, .class_ 29), (0, .nameAndType 30 31), (0, u "java/lang/Double"), (0, u "isInfinite"), (0, u "(D)Z"), (3, .fieldref 36 37), (0, .class_ 38), (0, .nameAndType 39 40), (0, u "com/example/automedon/automedon/road/StraightRoad"), (0, u "length"), (0, u "D"), (0, .fieldref 36 42), (0, .nameAndType 43 44), (0, u "lanes"), (0, u "I"), (0, .fieldref 36 46), (0, .nameAndType 47 40), (0, u "laneWidth"), (2, u "hasLane"), (0, u "(I)Z"), (28, .class_ 81), (0, u "com/example/automedon/automedon/road/Link"), (0, u "(DID)V")] 46

def k5c0 : Code := { maxStack := 5, maxLocals := 6, code := prog_77_method_1_code, exceptionTable := #[], attributes := #[] }
def k5m0 : Method := { name := "<init>", desc := "(DID)V", sig := { parameters := [.double, .int, .double], returnType := none }, accessFlags := 1, code := some k5c0 }
def k5c1 : Code := { maxStack := 2, maxLocals := 2, code := prog_77_method_2_code, exceptionTable := #[], attributes := #[] }
def k5m1 : Method := { name := "hasLane", desc := "(I)Z", sig := { parameters := [.int], returnType := some .boolean }, accessFlags := 1, code := some k5c1 }
/-- com/example/automedon/automedon/road/StraightRoad -/
def k5 : Class := { plain "com/example/automedon/automedon/road/StraightRoad" (some 3) with
  accessFlags := 49
  interfaces := #[4]
  cf := some (fileOf pool5 36 #[] #[{ accessFlags := 1, nameIndex := 5, descriptorIndex := 82, attributes := #[] }, { accessFlags := 1, nameIndex := 50, descriptorIndex := 51, attributes := #[] }] 49 2 #[80] #[{ accessFlags := 18, nameIndex := 39, descriptorIndex := 40, attributes := #[] }, { accessFlags := 18, nameIndex := 43, descriptorIndex := 44, attributes := #[] }, { accessFlags := 18, nameIndex := 47, descriptorIndex := 40, attributes := #[] }])
  fields := #[{ name := "length", type := .double, accessFlags := 18, slot := 0, constantValue := 0 }, { name := "lanes", type := .int, accessFlags := 18, slot := 1, constantValue := 0 }, { name := "laneWidth", type := .double, accessFlags := 18, slot := 2, constantValue := 0 }]
  methods := #[k5m0, k5m1]
  instanceTypes := #[.double, .int, .double]
  staticTypes := #[]
  resolved := Array.replicate 129 none
  statics := none }

def pool6 : Array CpInfo := pool [(1, .class_ 2), (0, u "java/io/Serializable"), (0, .class_ 4), (0, u "java/lang/Object")] 2

/-- java/io/Serializable -/
def k6 : Class := { plain "java/io/Serializable" (some 0) with
  accessFlags := 1537
  interfaces := #[]
  cf := some (fileOf pool6 1 #[] #[] 1537 3 #[] #[])
  fields := #[]
  methods := #[]
  instanceTypes := #[]
  staticTypes := #[]
  resolved := Array.replicate 7 none
  statics := none }

def pool7 : Array CpInfo := pool [(1, .class_ 2), (0, u "java/lang/Comparable"), (0, .class_ 4), (0, u "java/lang/Object")] 7

/-- java/lang/Comparable -/
def k7 : Class := { plain "java/lang/Comparable" (some 0) with
  accessFlags := 1537
  interfaces := #[]
  cf := some (fileOf pool7 1 #[] #[] 1537 3 #[] #[])
  fields := #[]
  methods := #[]
  instanceTypes := #[]
  staticTypes := #[]
  resolved := Array.replicate 12 none
  statics := none }

def pool8 : Array CpInfo := pool [(2, .class_ 4), (1, u "java/lang/CharSequence"), (42, .class_ 48), (0, u "java/lang/CharSequence$1CodePointIterator"), (10, .class_ 60), (0, u "java/lang/CharSequence$1CharIterator"), (5, .class_ 67), (0, u "java/lang/Object")] 63

/-- java/lang/CharSequence -/
def k8 : Class := { plain "java/lang/CharSequence" (some 0) with
  accessFlags := 1537
  interfaces := #[]
  cf := some (fileOf pool8 2 #[.nestMembers #[47, 59]] #[] 1537 66 #[] #[])
  fields := #[]
  methods := #[]
  instanceTypes := #[]
  staticTypes := #[]
  resolved := Array.replicate 131 none
  statics := none }

def pool9 : Array CpInfo := pool [(1, .class_ 2), (0, u "java/lang/constant/Constable"), (0, .class_ 4), (0, u "java/lang/Object")] 6

/-- java/lang/constant/Constable -/
def k9 : Class := { plain "java/lang/constant/Constable" (some 0) with
  accessFlags := 1537
  interfaces := #[]
  cf := some (fileOf pool9 1 #[] #[] 1537 3 #[] #[])
  fields := #[]
  methods := #[]
  instanceTypes := #[]
  staticTypes := #[]
  resolved := Array.replicate 11 none
  statics := none }

def pool10 : Array CpInfo := pool [(1, .class_ 2), (0, u "java/lang/constant/ConstantDesc"), (0, .class_ 4), (0, u "java/lang/Object")] 32

/-- java/lang/constant/ConstantDesc -/
def k10 : Class := { plain "java/lang/constant/ConstantDesc" (some 0) with
  accessFlags := 1537
  interfaces := #[]
  cf := some (fileOf pool10 1 #[] #[] 1537 3 #[] #[])
  fields := #[]
  methods := #[]
  instanceTypes := #[]
  staticTypes := #[]
  resolved := Array.replicate 37 none
  statics := none }

def pool11 : Array CpInfo := pool [(2, .class_ 4), (1, u "java/lang/Object"), (0, u "<init>"), (0, u "()V"), (3, .class_ 12), (1, u "java/lang/String"), (0, u "value"), (0, u "[B"), (2, u "coder"), (0, u "B"), (2, u "hash"), (0, u "I"), (2, u "hashIsZero"), (0, u "Z"), (13, u "COMPACT_STRINGS"), (534, .class_ 576), (0, u "java/lang/CharSequence"), (22, u "CASE_INSENSITIVE_ORDER"), (0, u "Ljava/util/Comparator;"), (500, u "serialPersistentFields"), (0, u "[Ljava/io/ObjectStreamField;"), (0, .class_ 1104), (0, u "java/lang/String$CaseInsensitiveComparator"), (1, .class_ 1107), (0, u "java/io/Serializable"), (0, .class_ 1109), (0, u "java/lang/Comparable"), (0, .class_ 1111), (0, u "java/lang/constant/Constable"), (0, .class_ 1113), (0, u "java/lang/constant/ConstantDesc"), (2, u "serialVersionUID"), (0, u "J"), (3, u "REPL"), (0, u "C"), (2, u "LATIN1"), (1, u "UTF16")] 323

def k11m0 : Method := { name := "<init>", desc := "()V", sig := { parameters := [], returnType := none }, accessFlags := 1, code := none }
/-- java/lang/String -/
def k11 : Class := { plain "java/lang/String" (some 0) with
  accessFlags := 49
  interfaces := #[6, 7, 8, 9, 10]
  cf := some (fileOf pool11 10 #[.nestMembers #[1103]] #[{ accessFlags := 1, nameIndex := 5, descriptorIndex := 6, attributes := #[] }] 49 2 #[1106, 1108, 575, 1110, 1112] #[{ accessFlags := 18, nameIndex := 13, descriptorIndex := 14, attributes := #[] }, { accessFlags := 18, nameIndex := 17, descriptorIndex := 18, attributes := #[] }, { accessFlags := 2, nameIndex := 21, descriptorIndex := 22, attributes := #[] }, { accessFlags := 2, nameIndex := 25, descriptorIndex := 26, attributes := #[] }, { accessFlags := 26, nameIndex := 1116, descriptorIndex := 1117, attributes := #[] }, { accessFlags := 24, nameIndex := 40, descriptorIndex := 26, attributes := #[] }, { accessFlags := 26, nameIndex := 1101, descriptorIndex := 1102, attributes := #[] }, { accessFlags := 26, nameIndex := 1121, descriptorIndex := 1122, attributes := #[] }, { accessFlags := 25, nameIndex := 599, descriptorIndex := 600, attributes := #[] }, { accessFlags := 24, nameIndex := 1125, descriptorIndex := 18, attributes := #[] }, { accessFlags := 24, nameIndex := 1127, descriptorIndex := 18, attributes := #[] }])
  fields := #[{ name := "value", type := (.array .byte), accessFlags := 18, slot := 0, constantValue := 0 }, { name := "coder", type := .byte, accessFlags := 18, slot := 1, constantValue := 0 }, { name := "hash", type := .int, accessFlags := 2, slot := 2, constantValue := 0 }, { name := "hashIsZero", type := .boolean, accessFlags := 2, slot := 3, constantValue := 0 }, { name := "serialVersionUID", type := .long, accessFlags := 26, slot := 0, constantValue := 0 }, { name := "COMPACT_STRINGS", type := .boolean, accessFlags := 24, slot := 1, constantValue := 0 }, { name := "serialPersistentFields", type := (.array (.object "java/io/ObjectStreamField")), accessFlags := 26, slot := 2, constantValue := 0 }, { name := "REPL", type := .char, accessFlags := 26, slot := 3, constantValue := 0 }, { name := "CASE_INSENSITIVE_ORDER", type := (.object "java/util/Comparator"), accessFlags := 25, slot := 4, constantValue := 0 }, { name := "LATIN1", type := .byte, accessFlags := 24, slot := 5, constantValue := 0 }, { name := "UTF16", type := .byte, accessFlags := 24, slot := 6, constantValue := 0 }]
  methods := #[k11m0]
  instanceTypes := #[(.array .byte), .byte, .int, .boolean]
  staticTypes := #[.long, .boolean, (.array (.object "java/io/ObjectStreamField")), .char, (.object "java/util/Comparator"), .byte, .byte]
  resolved := Array.replicate 1451 none
  statics := none }

def pool12 : Array CpInfo := pool [(2, .class_ 4), (1, u "java/lang/Object"), (0, u "<init>"), (0, u "()V"), (0, .methodref 8 9), (0, .class_ 10), (0, .nameAndType 11 12), (0, u "java/lang/Double"), (0, u "isInfinite"), (0, u "(D)Z"), (10, .class_ 24), (0, u "com/example/automedon/automedon/check/Require"), (2, u "positive"), (0, u "(Ljava/lang/String;D)D")] 21

def k12m0 : Method := { name := "<init>", desc := "()V", sig := { parameters := [], returnType := none }, accessFlags := 2, code := none }
def k12c1 : Code := { maxStack := 5, maxLocals := 3, code := prog_2_method_2_code, exceptionTable := #[], attributes := #[] }
def k12m1 : Method := { name := "positive", desc := "(Ljava/lang/String;D)D", sig := { parameters := [(.object "java/lang/String"), .double], returnType := some .double }, accessFlags := 9, code := some k12c1 }
/-- com/example/automedon/automedon/check/Require -/
def k12 : Class := { plain "com/example/automedon/automedon/check/Require" (some 0) with
  accessFlags := 49
  interfaces := #[]
  cf := some (fileOf pool12 23 #[] #[{ accessFlags := 2, nameIndex := 5, descriptorIndex := 6, attributes := #[] }, { accessFlags := 9, nameIndex := 27, descriptorIndex := 28, attributes := #[] }] 49 2 #[] #[])
  fields := #[]
  methods := #[k12m0, k12m1]
  instanceTypes := #[]
  staticTypes := #[]
  resolved := Array.replicate 50 none
  statics := none }

def pool13 : Array CpInfo := pool [(2, .class_ 4), (1, u "java/lang/Object"), (0, u "<init>"), (0, u "()V"), (1, .class_ 10), (1, u "java/lang/Number"), (2, .class_ 14), (0, u "java/io/Serializable"), (0, u "serialVersionUID"), (0, u "J")] 20

def k13m0 : Method := { name := "<init>", desc := "()V", sig := { parameters := [], returnType := none }, accessFlags := 1, code := none }
/-- java/lang/Number -/
def k13 : Class := { plain "java/lang/Number" (some 0) with
  accessFlags := 1057
  interfaces := #[6]
  cf := some (fileOf pool13 8 #[] #[{ accessFlags := 1, nameIndex := 5, descriptorIndex := 6, attributes := #[] }] 1057 2 #[13] #[{ accessFlags := 26, nameIndex := 15, descriptorIndex := 16, attributes := #[] }])
  fields := #[{ name := "serialVersionUID", type := .long, accessFlags := 26, slot := 0, constantValue := 0 }]
  methods := #[k13m0]
  instanceTypes := #[]
  staticTypes := #[.long]
  resolved := Array.replicate 37 none
  statics := none }

def pool14 : Array CpInfo := pool [(1, .class_ 2), (0, u "java/lang/Double"), (11, u "(D)Z"), (8, .class_ 25), (1, u "java/lang/Math"), (12, .methodref 23 39), (0, .nameAndType 40 41), (0, u "abs"), (0, u "(D)D"), (69, .double 9218868437227405311), (2, .class_ 116), (1, u "java/lang/Number"), (3, u "value"), (0, u "D"), (5, u "isInfinite"), (45, u "TYPE"), (0, u "Ljava/lang/Class;"), (0, .class_ 176), (0, u "java/lang/Comparable"), (0, .class_ 178), (0, u "java/lang/constant/Constable"), (0, .class_ 180), (0, u "java/lang/constant/ConstantDesc"), (0, u "POSITIVE_INFINITY"), (3, u "NEGATIVE_INFINITY"), (2, u "NaN"), (2, u "MAX_VALUE"), (0, u "MIN_NORMAL"), (0, u "MIN_VALUE"), (2, u "SIZE"), (0, u "I"), (1, u "PRECISION"), (1, u "MAX_EXPONENT"), (1, u "MIN_EXPONENT"), (1, u "BYTES"), (3, u "serialVersionUID"), (0, u "J")] 79

def k14c0 : Code := { maxStack := 4, maxLocals := 2, code := jdk_117_method_7_code, exceptionTable := #[], attributes := #[] }
def k14m0 : Method := { name := "isInfinite", desc := "(D)Z", sig := { parameters := [.double], returnType := some .boolean }, accessFlags := 9, code := some k14c0 }
/-- java/lang/Double -/
def k14 : Class := { plain "java/lang/Double" (some 13) with
  accessFlags := 49
  interfaces := #[7, 9, 10]
  cf := some (fileOf pool14 1 #[] #[{ accessFlags := 9, nameIndex := 127, descriptorIndex := 14, attributes := #[] }] 49 114 #[175, 177, 179] #[{ accessFlags := 25, nameIndex := 181, descriptorIndex := 121, attributes := #[] }, { accessFlags := 25, nameIndex := 185, descriptorIndex := 121, attributes := #[] }, { accessFlags := 25, nameIndex := 188, descriptorIndex := 121, attributes := #[] }, { accessFlags := 25, nameIndex := 191, descriptorIndex := 121, attributes := #[] }, { accessFlags := 25, nameIndex := 192, descriptorIndex := 121, attributes := #[] }, { accessFlags := 25, nameIndex := 193, descriptorIndex := 121, attributes := #[] }, { accessFlags := 25, nameIndex := 196, descriptorIndex := 197, attributes := #[] }, { accessFlags := 25, nameIndex := 199, descriptorIndex := 197, attributes := #[] }, { accessFlags := 25, nameIndex := 201, descriptorIndex := 197, attributes := #[] }, { accessFlags := 25, nameIndex := 203, descriptorIndex := 197, attributes := #[] }, { accessFlags := 25, nameIndex := 205, descriptorIndex := 197, attributes := #[] }, { accessFlags := 25, nameIndex := 173, descriptorIndex := 174, attributes := #[] }, { accessFlags := 18, nameIndex := 120, descriptorIndex := 121, attributes := #[] }, { accessFlags := 26, nameIndex := 209, descriptorIndex := 210, attributes := #[] }])
  fields := #[{ name := "POSITIVE_INFINITY", type := .double, accessFlags := 25, slot := 0, constantValue := 0 }, { name := "NEGATIVE_INFINITY", type := .double, accessFlags := 25, slot := 1, constantValue := 0 }, { name := "NaN", type := .double, accessFlags := 25, slot := 2, constantValue := 0 }, { name := "MAX_VALUE", type := .double, accessFlags := 25, slot := 3, constantValue := 0 }, { name := "MIN_NORMAL", type := .double, accessFlags := 25, slot := 4, constantValue := 0 }, { name := "MIN_VALUE", type := .double, accessFlags := 25, slot := 5, constantValue := 0 }, { name := "SIZE", type := .int, accessFlags := 25, slot := 6, constantValue := 0 }, { name := "PRECISION", type := .int, accessFlags := 25, slot := 7, constantValue := 0 }, { name := "MAX_EXPONENT", type := .int, accessFlags := 25, slot := 8, constantValue := 0 }, { name := "MIN_EXPONENT", type := .int, accessFlags := 25, slot := 9, constantValue := 0 }, { name := "BYTES", type := .int, accessFlags := 25, slot := 10, constantValue := 0 }, { name := "TYPE", type := (.object "java/lang/Class"), accessFlags := 25, slot := 11, constantValue := 0 }, { name := "value", type := .double, accessFlags := 18, slot := 0, constantValue := 0 }, { name := "serialVersionUID", type := .long, accessFlags := 26, slot := 12, constantValue := 0 }]
  methods := #[k14m0]
  instanceTypes := #[.double]
  staticTypes := #[.double, .double, .double, .double, .double, .double, .int, .int, .int, .int, .int, (.object "java/lang/Class"), .long]
  resolved := Array.replicate 290 none
  statics := none }

def pool15 : Array CpInfo := pool [(1, u "java/lang/Cloneable"), (0, .class_ 1), (0, u "java/lang/Object"), (0, .class_ 3)] 3

/-- java/lang/Cloneable -/
def k15 : Class := { plain "java/lang/Cloneable" (some 0) with
  accessFlags := 1537
  interfaces := #[]
  cf := some (fileOf pool15 2 #[] #[] 1537 4 #[] #[])
  fields := #[]
  methods := #[]
  instanceTypes := #[]
  staticTypes := #[]
  resolved := Array.replicate 8 none
  statics := none }

/-- the primitive byte -/
def k16 : Class := { plain "byte" none with kind := .primitive 'B', accessFlags := 0x411 }
/-- [B -/
def k17 : Class := { plain "[B" (some 0) with kind := .array 16 .byte, interfaces := #[15, 6], accessFlags := 1041 }

/-- the primitive int -/
def k18 : Class := { plain "int" none with kind := .primitive 'I', accessFlags := 0x411 }
/-- [I -/
def k19 : Class := { plain "[I" (some 0) with kind := .array 18 .int, interfaces := #[15, 6], accessFlags := 1041 }

def heap : Heap := #[]
def classes : Array Class := #[k0, k1, k2, k3, k4, k5, k6, k7, k8, k9, k10, k11, k12, k13, k14, k15, k16, k17, k18, k19]
def interned : List (Array UInt16 × Addr) := []
def slotsUsed : Nat := 0
def theMethod : MethodId := ⟨1, 3⟩
def args0 : Array Value := #[.int 5, .int 5, .int 5, .int 5, .int 5]
def aboutOver (below : List Frame) : State where
  vm := { classes := classes, interned := interned.toArray }
  heap := heap
  slotsUsed := slotsUsed
  threads := #[{ frames := .invoking theMethod args0 :: below }]
def below0 : List Frame := [.native { method := ⟨0, 0⟩, args := #[] }]
def about1 : State := aboutOver below0
def p0 : Program := .bare "" "" ""
def e0 : Env := launch0.env 0 0 0
theorem w_frames : about1.frames = Frame.invoking theMethod args0 :: below0 := rfl
set_option maxRecDepth 65536 in
theorem w_args : argsFit about1.vm theMethod args0 = true := by decide +kernel
set_option maxRecDepth 65536 in
theorem w_heap : heapFits about1 = true := by decide +kernel
set_option maxRecDepth 65536 in
theorem w_runnable : about1.curStatus? = some .runnable := by decide +kernel
set_option maxRecDepth 65536 in
theorem w_alone : about1.alone = true := by decide +kernel
set_option maxRecDepth 65536 in
theorem w_named : about1.methodNamed? x = some theMethod := by decide +kernel
set_option maxRecDepth 65536 in
theorem w_hears : about1.hears theMethod below0 = true := by decide +kernel
set_option maxRecDepth 65536 in
theorem w_ripe : about1.ripe theMethod args0 below0 = true := by decide +kernel
theorem w_running : about1.status = .running := rfl
set_option maxRecDepth 65536 in
theorem w_room : about1.hasRoom e0.platform room_1 = true :=
  launch0.hasRoom_least _ room_1 (by decide +kernel) (by decide +kernel) (by decide +kernel) (by decide +kernel) (by decide +kernel) (by decide +kernel)
theorem allAtoms_all (ts : List Jvm.Cond) (a : Array Jvm.Value) (st : Jvm.State) : (allAtoms ts).before a st = ts.all (fun c => c.before a st) := by
  induction ts with
  | nil => rfl
  | cons c t ih =>
    show (Jvm.Cond.and c (allAtoms t)).before a st = _
    rw [Jvm.Cond.before_and, ih, List.all_cons]
def words1 : List Jvm.Cond := Jvm.Cond.code x code maxLocals ret :: tables_1
/-- a 'code' word, met by the world's own term for the bytes: nothing is compared byte by byte -/
theorem code_word {y : MethodName} {bytes : ByteArray} {mx : Nat} {rt : Option FieldType} {a : Array Value} {s : State} {m : MethodId} {meth : Method} {c : Code} (h1 : s.methodNamed? y = some m) (h2 : s.vm.method? m = some meth) (h3 : meth.code = some c) (h4 : c.code = bytes)
    (h5 : (c.maxLocals == mx && c.exceptionTable.isEmpty && decide (c.maxStack ≤ mostOperands) && decide (meth.sig.returnType = rt) && !meth.locks && decide (parseMethodDescriptor y.desc = some meth.sig)) = true) : (Jvm.Cond.code y bytes mx rt).before a s = true := by
  simp only [Bool.and_eq_true, beq_iff_eq, Bool.not_eq_true', decide_eq_true_eq] at h5
  obtain ⟨⟨⟨⟨⟨g1, g2⟩, g3⟩, g4⟩, g5⟩, g6⟩ := h5
  simp [Cond.before, Cond.holds, Cond.value, h1, h2, h3, h4, g1, g2, g3, g4, g5, g6]
def isCode : Jvm.Cond → Bool
  | .code _ _ _ _ => true
  | _ => false
theorem all_split {L : List Jvm.Cond} {P : Jvm.Cond → Bool} (h1 : L.all (fun c => isCode c || P c) = true) (h2 : ∀ c ∈ L.filter isCode, P c = true) : L.all P = true := by
  refine List.all_eq_true.mpr fun c hc => ?_
  have h := List.all_eq_true.mp h1 c hc
  rcases Bool.eq_false_or_eq_true (isCode c) with hi | hi
  · exact h2 c (List.mem_filter.mpr ⟨hc, hi⟩)
  · simpa [hi] using h
set_option maxRecDepth 65536 in
theorem w_c0 : (Jvm.Cond.code x code maxLocals ret).before args0 about1 = true := code_word (m := ⟨1, 3⟩) (meth := k1m3) (c := k1c3) (by decide +kernel) rfl rfl rfl (by decide +kernel)
set_option maxRecDepth 65536 in
theorem w_c1 : (Jvm.Cond.code ({ cls := "java/lang/Math", name := "max", desc := "(II)I" } : Jvm.MethodName) jdk_29_method_65_code (2 : Nat) (Option.some Jvm.ClassFile.FieldType.int)).before args0 about1 = true := code_word (m := ⟨2, 2⟩) (meth := k2m2) (c := k2c2) (by decide +kernel) rfl rfl rfl (by decide +kernel)
set_option maxRecDepth 65536 in
theorem w_c2 : (Jvm.Cond.code ({ cls := "com/example/automedon/automedon/road/StraightRoad", name := "<init>", desc := "(DID)V" } : Jvm.MethodName) prog_77_method_1_code (6 : Nat) (Option.none : Option Jvm.ClassFile.FieldType)).before args0 about1 = true := code_word (m := ⟨5, 0⟩) (meth := k5m0) (c := k5c0) (by decide +kernel) rfl rfl rfl (by decide +kernel)
set_option maxRecDepth 65536 in
theorem w_c3 : (Jvm.Cond.code ({ cls := "java/lang/Record", name := "<init>", desc := "()V" } : Jvm.MethodName) jdk_30_method_1_code (1 : Nat) (Option.none : Option Jvm.ClassFile.FieldType)).before args0 about1 = true := code_word (m := ⟨3, 0⟩) (meth := k3m0) (c := k3c0) (by decide +kernel) rfl rfl rfl (by decide +kernel)
set_option maxRecDepth 65536 in
theorem w_c4 : (Jvm.Cond.code ({ cls := "java/lang/Object", name := "<init>", desc := "()V" } : Jvm.MethodName) object_method_1_code (1 : Nat) (Option.none : Option Jvm.ClassFile.FieldType)).before args0 about1 = true := code_word (m := ⟨0, 0⟩) (meth := k0m0) (c := k0c0) (by decide +kernel) rfl rfl rfl (by decide +kernel)
set_option maxRecDepth 65536 in
theorem w_c5 : (Jvm.Cond.code ({ cls := "com/example/automedon/automedon/check/Require", name := "positive", desc := "(Ljava/lang/String;D)D" } : Jvm.MethodName) prog_2_method_2_code (3 : Nat) (Option.some Jvm.ClassFile.FieldType.double)).before args0 about1 = true := code_word (m := ⟨12, 1⟩) (meth := k12m1) (c := k12c1) (by decide +kernel) rfl rfl rfl (by decide +kernel)
set_option maxRecDepth 65536 in
theorem w_c6 : (Jvm.Cond.code ({ cls := "java/lang/Double", name := "isInfinite", desc := "(D)Z" } : Jvm.MethodName) jdk_117_method_7_code (2 : Nat) (Option.some Jvm.ClassFile.FieldType.boolean)).before args0 about1 = true := code_word (m := ⟨14, 0⟩) (meth := k14m0) (c := k14c0) (by decide +kernel) rfl rfl rfl (by decide +kernel)
set_option maxRecDepth 65536 in
theorem w_c7 : (Jvm.Cond.code ({ cls := "java/lang/Math", name := "abs", desc := "(D)D" } : Jvm.MethodName) jdk_29_method_64_code (2 : Nat) (Option.some Jvm.ClassFile.FieldType.double)).before args0 about1 = true := code_word (m := ⟨2, 1⟩) (meth := k2m1) (c := k2c1) (by decide +kernel) rfl rfl rfl (by decide +kernel)
set_option maxRecDepth 65536 in
theorem w_c8 : (Jvm.Cond.code ({ cls := "com/example/automedon/automedon/road/StraightRoadHasLanePinLaw", name := "pick", desc := "(III)I" } : Jvm.MethodName) method_3_code (4 : Nat) (Option.some Jvm.ClassFile.FieldType.int)).before args0 about1 = true := code_word (m := ⟨1, 2⟩) (meth := k1m2) (c := k1c2) (by decide +kernel) rfl rfl rfl (by decide +kernel)
set_option maxRecDepth 65536 in
theorem w_c9 : (Jvm.Cond.code ({ cls := "com/example/automedon/automedon/road/StraightRoad", name := "hasLane", desc := "(I)Z" } : Jvm.MethodName) prog_77_method_2_code (2 : Nat) (Option.some Jvm.ClassFile.FieldType.boolean)).before args0 about1 = true := code_word (m := ⟨5, 1⟩) (meth := k5m1) (c := k5c1) (by decide +kernel) rfl rfl rfl (by decide +kernel)
set_option maxRecDepth 65536 in
theorem w_c10 : (Jvm.Cond.code ({ cls := "com/example/automedon/automedon/road/StraightRoadHasLanePinLaw", name := "expected", desc := "(II)Z" } : Jvm.MethodName) method_2_code (4 : Nat) (Option.some Jvm.ClassFile.FieldType.boolean)).before args0 about1 = true := code_word (m := ⟨1, 1⟩) (meth := k1m1) (c := k1c1) (by decide +kernel) rfl rfl rfl (by decide +kernel)
def codes1 : List Jvm.Cond := [Jvm.Cond.code x code maxLocals ret, Jvm.Cond.code ({ cls := "java/lang/Math", name := "max", desc := "(II)I" } : Jvm.MethodName) jdk_29_method_65_code (2 : Nat) (Option.some Jvm.ClassFile.FieldType.int), Jvm.Cond.code ({ cls := "com/example/automedon/automedon/road/StraightRoad", name := "<init>", desc := "(DID)V" } : Jvm.MethodName) prog_77_method_1_code (6 : Nat) (Option.none : Option Jvm.ClassFile.FieldType), Jvm.Cond.code ({ cls := "java/lang/Record", name := "<init>", desc := "()V" } : Jvm.MethodName) jdk_30_method_1_code (1 : Nat) (Option.none : Option Jvm.ClassFile.FieldType), Jvm.Cond.code ({ cls := "java/lang/Object", name := "<init>", desc := "()V" } : Jvm.MethodName) object_method_1_code (1 : Nat) (Option.none : Option Jvm.ClassFile.FieldType), Jvm.Cond.code ({ cls := "com/example/automedon/automedon/check/Require", name := "positive", desc := "(Ljava/lang/String;D)D" } : Jvm.MethodName) prog_2_method_2_code (3 : Nat) (Option.some Jvm.ClassFile.FieldType.double), Jvm.Cond.code ({ cls := "java/lang/Double", name := "isInfinite", desc := "(D)Z" } : Jvm.MethodName) jdk_117_method_7_code (2 : Nat) (Option.some Jvm.ClassFile.FieldType.boolean), Jvm.Cond.code ({ cls := "java/lang/Math", name := "abs", desc := "(D)D" } : Jvm.MethodName) jdk_29_method_64_code (2 : Nat) (Option.some Jvm.ClassFile.FieldType.double), Jvm.Cond.code ({ cls := "com/example/automedon/automedon/road/StraightRoadHasLanePinLaw", name := "pick", desc := "(III)I" } : Jvm.MethodName) method_3_code (4 : Nat) (Option.some Jvm.ClassFile.FieldType.int), Jvm.Cond.code ({ cls := "com/example/automedon/automedon/road/StraightRoad", name := "hasLane", desc := "(I)Z" } : Jvm.MethodName) prog_77_method_2_code (2 : Nat) (Option.some Jvm.ClassFile.FieldType.boolean), Jvm.Cond.code ({ cls := "com/example/automedon/automedon/road/StraightRoadHasLanePinLaw", name := "expected", desc := "(II)Z" } : Jvm.MethodName) method_2_code (4 : Nat) (Option.some Jvm.ClassFile.FieldType.boolean)]
set_option maxRecDepth 65536 in
theorem codes_eq : words1.filter isCode = codes1 := rfl
theorem w_codes : ∀ c ∈ words1.filter isCode, c.before args0 about1 = true := by
  rw [codes_eq]
  intro c hc
  simp only [codes1, List.mem_cons, List.not_mem_nil, or_false] at hc
  rcases hc with rfl | rfl | rfl | rfl | rfl | rfl | rfl | rfl | rfl | rfl | rfl
  · exact w_c0
  · exact w_c1
  · exact w_c2
  · exact w_c3
  · exact w_c4
  · exact w_c5
  · exact w_c6
  · exact w_c7
  · exact w_c8
  · exact w_c9
  · exact w_c10
set_option maxRecDepth 65536 in
theorem w_t1 : (words1.take 24).all (fun c => isCode c || c.before args0 about1) = true := by decide +kernel
set_option maxRecDepth 65536 in
theorem w_t2 : ((words1.drop 24).take 24).all (fun c => isCode c || c.before args0 about1) = true := by decide +kernel
set_option maxRecDepth 65536 in
theorem w_t3 : ((words1.drop 24).drop 24).all (fun c => isCode c || c.before args0 about1) = true := by decide +kernel
theorem w_tables : (allAtoms (Jvm.Cond.code x code maxLocals ret :: tables_1)).before args0 about1 = true := by
  rw [allAtoms_all]
  show words1.all (fun c => c.before args0 about1) = true
  refine all_split ?_ w_codes
  rw [← List.take_append_drop 24 words1, List.all_append, w_t1, ← List.take_append_drop 24 (words1.drop 24), List.all_append, w_t2, w_t3]
  rfl
set_option maxRecDepth 65536 in
theorem w_case : (Jvm.Cond.and given_1 narrow_1).before args0 about1 = true := by decide +kernel
theorem w_applies : (headSpec (Jvm.Cond.code x code maxLocals ret :: tables_1) room_1).applies x e0.platform about1 = true :=
  (Spec.applies_iff w_frames).mpr ⟨w_running, w_runnable, w_alone, w_named, w_hears, w_ripe, w_room, w_tables⟩
theorem atStart : AtStart classFile x code maxLocals ret World_1 tables_1 room_1 Calls_1 rest_1 Pre_1 launch0 p0 e0 about1 theMethod args0 below0 :=
  ⟨lists_1, trivial, launch0.admits_env _ _ _, launch0.least_env, fairChoices_fair.cas, fairChoices_fair.clock, w_frames, w_args, w_heap, w_applies, trivial, trivial, w_case⟩
end start1
theorem witness_1 : WitnessClaimed_1 := ⟨start1.p0, start1.e0, start1.about1, start1.theMethod, start1.args0, start1.below0, start1.atStart⟩
end Jvm.Pilot.@@N@@
