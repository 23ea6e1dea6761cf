import JvmDerived
import JvmDerived.Pilot.@@N@@Statement
import JvmDerived.Pilot.@@N@@Code
set_option linter.unusedVariables false
set_option linter.unusedSimpArgs false
@@BLOCK:NumsL.lean.txt@@
namespace Jvm.Own
open Jvm Jvm.ClassFile Sem Op Lib Jvm.Free Jvm.Stand Jvm.LawKit Jvm.RoadKit
/-- from A the run comes to the invocation's end, where P holds -/
def Go (p : Program) (e : Env) (below : List Frame) (P : Outcome → State → Prop) (A : State) : Prop := ∃ s₂ o, Steps p.tables e below A s₂ ∧ s₂.status = .running ∧ Ended s₂ below o ∧ P o s₂
def Gf (p : Program) (e : Env) (below : List Frame) (P : Outcome → State → Prop) (T : State) (m : MethodId) (pc : Nat) (Ls : Array Slot) (st : List Value) : Prop := Go p e below P (T.setTop (mkF m pc Ls st))
theorem Go.step {p : Program} {e : Env} {below : List Frame} {P : Outcome → State → Prop} {A B : State} (h : ∀ t, Steps p.tables e below B t → Steps p.tables e below A t) (g : Go p e below P B) : Go p e below P A := by
  obtain ⟨s2, o, h1, h2⟩ := g
  exact ⟨s2, o, h _ h1, h2⟩
section Steps1
variable {p : Program} {l : Launch} {e : Env} {R : Room} {s : State} {m : MethodId} {args : Array Value} {below : List Frame} {meth : Method} {c : Code} {T : State} {locs : List Loc} {cells slots : Nat} {P : Outcome → State → Prop} {code : ByteArray} {pc pc' : Nat} {Ls Ls' : Array Slot} {st st' : List Value}
theorem g_iloadN (X : Stand p l e R s m args below meth c T locs cells slots) (hx : p.tables.exec = Jvm.exec) (hby : c.code = code) {k : Fin 4} {v : Int32} (hd : decode code pc = .ok (.iload_n k, 1)) (hl : Ls[k.val]? = some (.val (.int v))) (hp : pc + 1 = pc') (g : Gf p e below P T m pc' Ls (.int v :: st)) : Gf p e below P T m pc Ls st := by
  subst hp
  exact Go.step (fun t k => XS.iloadN X.here hx rfl (hb hby hd) hl k) g
theorem g_iload (X : Stand p l e R s m args below meth c T locs cells slots) (hx : p.tables.exec = Jvm.exec) (hby : c.code = code) {k : Nat} {v : Int32} (hd : decode code pc = .ok (.iload k, 2)) (hl : Ls[k]? = some (.val (.int v))) (hp : pc + 2 = pc') (g : Gf p e below P T m pc' Ls (.int v :: st)) : Gf p e below P T m pc Ls st := by
  subst hp
  exact Go.step (fun t k => XS.iload X.here hx rfl (hb hby hd) hl k) g
theorem g_istoreN (X : Stand p l e R s m args below meth c T locs cells slots) (hx : p.tables.exec = Jvm.exec) (hby : c.code = code) {k : Fin 4} {v : Int32} (hd : decode code pc = .ok (.istore_n k, 1)) (hst : st = .int v :: st') (hl : storeLocals Ls k.val (.int v) = some Ls') (hp : pc + 1 = pc') (g : Gf p e below P T m pc' Ls' st') : Gf p e below P T m pc Ls st := by
  subst hp hst
  exact Go.step (fun t k => XS.istoreN X.here hx rfl (hb hby hd) rfl hl k) g
theorem g_istore (X : Stand p l e R s m args below meth c T locs cells slots) (hx : p.tables.exec = Jvm.exec) (hby : c.code = code) {k : Nat} {v : Int32} (hd : decode code pc = .ok (.istore k, 2)) (hst : st = .int v :: st') (hl : storeLocals Ls k (.int v) = some Ls') (hp : pc + 2 = pc') (g : Gf p e below P T m pc' Ls' st') : Gf p e below P T m pc Ls st := by
  subst hp hst
  exact Go.step (fun t k => XS.istore X.here hx rfl (hb hby hd) rfl hl k) g
theorem g_lloadN (X : Stand p l e R s m args below meth c T locs cells slots) (hx : p.tables.exec = Jvm.exec) (hby : c.code = code) {k : Fin 4} {v : Int64} (hd : decode code pc = .ok (.lload_n k, 1)) (hl : Ls[k.val]? = some (.val (.long v))) (hp : pc + 1 = pc') (g : Gf p e below P T m pc' Ls (.long v :: st)) : Gf p e below P T m pc Ls st := by
  subst hp
  exact Go.step (fun t k => XS.lloadN X.here hx rfl (hb hby hd) hl k) g
theorem g_lload (X : Stand p l e R s m args below meth c T locs cells slots) (hx : p.tables.exec = Jvm.exec) (hby : c.code = code) {k : Nat} {v : Int64} (hd : decode code pc = .ok (.lload k, 2)) (hl : Ls[k]? = some (.val (.long v))) (hp : pc + 2 = pc') (g : Gf p e below P T m pc' Ls (.long v :: st)) : Gf p e below P T m pc Ls st := by
  subst hp
  exact Go.step (fun t k => XS.lload X.here hx rfl (hb hby hd) hl k) g
theorem g_lstoreN (X : Stand p l e R s m args below meth c T locs cells slots) (hx : p.tables.exec = Jvm.exec) (hby : c.code = code) {k : Fin 4} {v : Int64} (hd : decode code pc = .ok (.lstore_n k, 1)) (hst : st = .long v :: st') (hl : storeLocals Ls k.val (.long v) = some Ls') (hp : pc + 1 = pc') (g : Gf p e below P T m pc' Ls' st') : Gf p e below P T m pc Ls st := by
  subst hp hst
  exact Go.step (fun t k => XS.lstoreN X.here hx rfl (hb hby hd) rfl hl k) g
theorem g_lstore (X : Stand p l e R s m args below meth c T locs cells slots) (hx : p.tables.exec = Jvm.exec) (hby : c.code = code) {k : Nat} {v : Int64} (hd : decode code pc = .ok (.lstore k, 2)) (hst : st = .long v :: st') (hl : storeLocals Ls k (.long v) = some Ls') (hp : pc + 2 = pc') (g : Gf p e below P T m pc' Ls' st') : Gf p e below P T m pc Ls st := by
  subst hp hst
  exact Go.step (fun t k => XS.lstore X.here hx rfl (hb hby hd) rfl hl k) g
theorem g_dloadN (X : Stand p l e R s m args below meth c T locs cells slots) (hx : p.tables.exec = Jvm.exec) (hby : c.code = code) {k : Fin 4} {v : UInt64} (hd : decode code pc = .ok (.dload_n k, 1)) (hl : Ls[k.val]? = some (.val (.double v))) (hp : pc + 1 = pc') (g : Gf p e below P T m pc' Ls (.double v :: st)) : Gf p e below P T m pc Ls st := by
  subst hp
  exact Go.step (fun t k => XS.dloadN X.here hx rfl (hb hby hd) hl k) g
theorem g_dload (X : Stand p l e R s m args below meth c T locs cells slots) (hx : p.tables.exec = Jvm.exec) (hby : c.code = code) {k : Nat} {v : UInt64} (hd : decode code pc = .ok (.dload k, 2)) (hl : Ls[k]? = some (.val (.double v))) (hp : pc + 2 = pc') (g : Gf p e below P T m pc' Ls (.double v :: st)) : Gf p e below P T m pc Ls st := by
  subst hp
  exact Go.step (fun t k => XS.dload X.here hx rfl (hb hby hd) hl k) g
theorem g_dstoreN (X : Stand p l e R s m args below meth c T locs cells slots) (hx : p.tables.exec = Jvm.exec) (hby : c.code = code) {k : Fin 4} {v : UInt64} (hd : decode code pc = .ok (.dstore_n k, 1)) (hst : st = .double v :: st') (hl : storeLocals Ls k.val (.double v) = some Ls') (hp : pc + 1 = pc') (g : Gf p e below P T m pc' Ls' st') : Gf p e below P T m pc Ls st := by
  subst hp hst
  exact Go.step (fun t k => XS.dstoreN X.here hx rfl (hb hby hd) rfl hl k) g
theorem g_dstore (X : Stand p l e R s m args below meth c T locs cells slots) (hx : p.tables.exec = Jvm.exec) (hby : c.code = code) {k : Nat} {v : UInt64} (hd : decode code pc = .ok (.dstore k, 2)) (hst : st = .double v :: st') (hl : storeLocals Ls k (.double v) = some Ls') (hp : pc + 2 = pc') (g : Gf p e below P T m pc' Ls' st') : Gf p e below P T m pc Ls st := by
  subst hp hst
  exact Go.step (fun t k => XS.dstore X.here hx rfl (hb hby hd) rfl hl k) g
theorem g_aloadN (X : Stand p l e R s m args below meth c T locs cells slots) (hx : p.tables.exec = Jvm.exec) (hby : c.code = code) {k : Fin 4} {v : Value} (hd : decode code pc = .ok (.aload_n k, 1)) (hl : Ls[k.val]? = some (.val v)) (hv : v.isRef = true) (hp : pc + 1 = pc') (g : Gf p e below P T m pc' Ls (v :: st)) : Gf p e below P T m pc Ls st := by
  subst hp
  exact Go.step (fun t k => XS.aloadN X.here hx rfl (hb hby hd) hl hv k) g
theorem g_aload (X : Stand p l e R s m args below meth c T locs cells slots) (hx : p.tables.exec = Jvm.exec) (hby : c.code = code) {k : Nat} {v : Value} (hd : decode code pc = .ok (.aload k, 2)) (hl : Ls[k]? = some (.val v)) (hv : v.isRef = true) (hp : pc + 2 = pc') (g : Gf p e below P T m pc' Ls (v :: st)) : Gf p e below P T m pc Ls st := by
  subst hp
  exact Go.step (fun t k => XS.aload X.here hx rfl (hb hby hd) hl hv k) g
theorem g_astoreN (X : Stand p l e R s m args below meth c T locs cells slots) (hx : p.tables.exec = Jvm.exec) (hby : c.code = code) {k : Fin 4} {v : Value} (hd : decode code pc = .ok (.astore_n k, 1)) (hst : st = v :: st') (hv : v.isRef = true) (hl : storeLocals Ls k.val v = some Ls') (hp : pc + 1 = pc') (g : Gf p e below P T m pc' Ls' st') : Gf p e below P T m pc Ls st := by
  subst hp hst
  exact Go.step (fun t k => XS.astoreN X.here hx rfl (hb hby hd) rfl hv hl k) g
theorem g_astore (X : Stand p l e R s m args below meth c T locs cells slots) (hx : p.tables.exec = Jvm.exec) (hby : c.code = code) {k : Nat} {v : Value} (hd : decode code pc = .ok (.astore k, 2)) (hst : st = v :: st') (hv : v.isRef = true) (hl : storeLocals Ls k v = some Ls') (hp : pc + 2 = pc') (g : Gf p e below P T m pc' Ls' st') : Gf p e below P T m pc Ls st := by
  subst hp hst
  exact Go.step (fun t k => XS.astore X.here hx rfl (hb hby hd) rfl hv hl k) g
theorem g_iconst (X : Stand p l e R s m args below meth c T locs cells slots) (hx : p.tables.exec = Jvm.exec) (hby : c.code = code) {i : Int} {v : Int32} (hd : decode code pc = .ok (.iconst i, 1)) (hv : Int32.ofInt i = v) (hp : pc + 1 = pc') (g : Gf p e below P T m pc' Ls (.int v :: st)) : Gf p e below P T m pc Ls st := by
  subst hp
  exact Go.step (fun t k => XS.iconst X.here hx rfl (hb hby hd) (by subst hv; exact k)) g
theorem g_bipush (X : Stand p l e R s m args below meth c T locs cells slots) (hx : p.tables.exec = Jvm.exec) (hby : c.code = code) {i : Int} {v : Int32} (hd : decode code pc = .ok (.bipush i, 2)) (hv : (Int8.ofInt i).toInt32 = v) (hp : pc + 2 = pc') (g : Gf p e below P T m pc' Ls (.int v :: st)) : Gf p e below P T m pc Ls st := by
  subst hp
  exact Go.step (fun t k => XS.bipush X.here hx rfl (hb hby hd) (by subst hv; exact k)) g
theorem g_sipush (X : Stand p l e R s m args below meth c T locs cells slots) (hx : p.tables.exec = Jvm.exec) (hby : c.code = code) {i : Int} {v : Int32} (hd : decode code pc = .ok (.sipush i, 3)) (hv : (Int16.ofInt i).toInt32 = v) (hp : pc + 3 = pc') (g : Gf p e below P T m pc' Ls (.int v :: st)) : Gf p e below P T m pc Ls st := by
  subst hp
  exact Go.step (fun t k => XS.sipush X.here hx rfl (hb hby hd) (by subst hv; exact k)) g
theorem g_lconst (X : Stand p l e R s m args below meth c T locs cells slots) (hx : p.tables.exec = Jvm.exec) (hby : c.code = code) {i : Fin 2} {v : Int64} (hd : decode code pc = .ok (.lconst i, 1)) (hv : Int64.ofInt i.val = v) (hp : pc + 1 = pc') (g : Gf p e below P T m pc' Ls (.long v :: st)) : Gf p e below P T m pc Ls st := by
  subst hp
  exact Go.step (fun t k => XS.lconst X.here hx rfl (hb hby hd) (by subst hv; exact k)) g
theorem g_dconst0 (X : Stand p l e R s m args below meth c T locs cells slots) (hx : p.tables.exec = Jvm.exec) (hby : c.code = code) {v : UInt64} (hd : decode code pc = .ok (.dconst 0, 1)) (hv : FP.dconst0 = v) (hp : pc + 1 = pc') (g : Gf p e below P T m pc' Ls (.double v :: st)) : Gf p e below P T m pc Ls st := by
  subst hp
  exact Go.step (fun t k => XS.dconst0 X.here hx rfl (hb hby hd) hv k) g
theorem g_dconst1 (X : Stand p l e R s m args below meth c T locs cells slots) (hx : p.tables.exec = Jvm.exec) (hby : c.code = code) {v : UInt64} (hd : decode code pc = .ok (.dconst 1, 1)) (hv : FP.dconst1 = v) (hp : pc + 1 = pc') (g : Gf p e below P T m pc' Ls (.double v :: st)) : Gf p e below P T m pc Ls st := by
  subst hp
  exact Go.step (fun t k => XS.dconst1 X.here hx rfl (hb hby hd) hv k) g
theorem g_aconst_null (X : Stand p l e R s m args below meth c T locs cells slots) (hx : p.tables.exec = Jvm.exec) (hby : c.code = code)  (hd : decode code pc = .ok (.aconst_null, 1)) (hp : pc + 1 = pc') (g : Gf p e below P T m pc' Ls (.null :: st)) : Gf p e below P T m pc Ls st := by
  subst hp
  exact Go.step (fun t k => XS.aconstNull X.here hx rfl (hb hby hd) k) g
theorem g_ldcI (X : Stand p l e R s m args below meth c T locs cells slots) (hx : p.tables.exec = Jvm.exec) (hby : c.code = code) {own : String} {a0 : Array Value} {Z : State} (hZ : Z.Warmed39 s.vm) (hown : s.vm.findClass own = some m.cls) {i : Nat} {v : Int32} (w : (Cond.constant own i v).before a0 Z = true) (hd : decode code pc = .ok (.ldc i, 2)) (hp : pc + 2 = pc') (g : Gf p e below P T m pc' Ls (.int v :: st)) : Gf p e below P T m pc Ls st := by
  subst hp
  exact Go.step (fun t k => X.ldcInt hx hown (mvT hZ w) (g := mkF m pc Ls st) rfl (hb hby hd) t k) g
theorem g_ldcJ (X : Stand p l e R s m args below meth c T locs cells slots) (hx : p.tables.exec = Jvm.exec) (hby : c.code = code) {own : String} {a0 : Array Value} {Z : State} (hZ : Z.Warmed39 s.vm) (hown : s.vm.findClass own = some m.cls) {i : Nat} {v : Int64} (w : (Cond.constantLong own i v).before a0 Z = true) (hd : decode code pc = .ok (.ldc2_w i, 3)) (hp : pc + 3 = pc') (g : Gf p e below P T m pc' Ls (.long v :: st)) : Gf p e below P T m pc Ls st := by
  subst hp
  exact Go.step (fun t k => X.ldc2Long hx hown (mvT hZ w) (g := mkF m pc Ls st) rfl (hb hby hd) t k) g
theorem g_ldcD (X : Stand p l e R s m args below meth c T locs cells slots) (hx : p.tables.exec = Jvm.exec) (hby : c.code = code) {own : String} {a0 : Array Value} {Z : State} (hZ : Z.Warmed39 s.vm) (hown : s.vm.findClass own = some m.cls) {i : Nat} {v : UInt64} (w : (Cond.constantDouble own i v).before a0 Z = true) (hd : decode code pc = .ok (.ldc2_w i, 3)) (hp : pc + 3 = pc') (g : Gf p e below P T m pc' Ls (.double v :: st)) : Gf p e below P T m pc Ls st := by
  subst hp
  exact Go.step (fun t k => X.ldc2DoubleC hx hown (mvT hZ w) (g := mkF m pc Ls st) rfl (hb hby hd) t k) g
theorem g_iadd (X : Stand p l e R s m args below meth c T locs cells slots) (hx : p.tables.exec = Jvm.exec) (hby : c.code = code) {x y v : Int32} (hd : decode code pc = .ok (.iadd, 1)) (hst : st = .int y :: .int x :: st') (hv : x + y = v) (hp : pc + 1 = pc') (g : Gf p e below P T m pc' Ls (.int v :: st')) : Gf p e below P T m pc Ls st := by
  subst hp hst
  exact Go.step (fun t k => XS.iadd X.here hx rfl (hb hby hd) rfl (by subst hv; exact k)) g
theorem g_isub (X : Stand p l e R s m args below meth c T locs cells slots) (hx : p.tables.exec = Jvm.exec) (hby : c.code = code) {x y v : Int32} (hd : decode code pc = .ok (.isub, 1)) (hst : st = .int y :: .int x :: st') (hv : x - y = v) (hp : pc + 1 = pc') (g : Gf p e below P T m pc' Ls (.int v :: st')) : Gf p e below P T m pc Ls st := by
  subst hp hst
  exact Go.step (fun t k => XS.isub X.here hx rfl (hb hby hd) rfl (by subst hv; exact k)) g
theorem g_imul (X : Stand p l e R s m args below meth c T locs cells slots) (hx : p.tables.exec = Jvm.exec) (hby : c.code = code) {x y v : Int32} (hd : decode code pc = .ok (.imul, 1)) (hst : st = .int y :: .int x :: st') (hv : x * y = v) (hp : pc + 1 = pc') (g : Gf p e below P T m pc' Ls (.int v :: st')) : Gf p e below P T m pc Ls st := by
  subst hp hst
  exact Go.step (fun t k => XS.imul X.here hx rfl (hb hby hd) rfl (by subst hv; exact k)) g
theorem g_iand (X : Stand p l e R s m args below meth c T locs cells slots) (hx : p.tables.exec = Jvm.exec) (hby : c.code = code) {x y v : Int32} (hd : decode code pc = .ok (.iand, 1)) (hst : st = .int y :: .int x :: st') (hv : x &&& y = v) (hp : pc + 1 = pc') (g : Gf p e below P T m pc' Ls (.int v :: st')) : Gf p e below P T m pc Ls st := by
  subst hp hst
  exact Go.step (fun t k => XS.iand X.here hx rfl (hb hby hd) rfl (by subst hv; exact k)) g
theorem g_ior (X : Stand p l e R s m args below meth c T locs cells slots) (hx : p.tables.exec = Jvm.exec) (hby : c.code = code) {x y v : Int32} (hd : decode code pc = .ok (.ior, 1)) (hst : st = .int y :: .int x :: st') (hv : x ||| y = v) (hp : pc + 1 = pc') (g : Gf p e below P T m pc' Ls (.int v :: st')) : Gf p e below P T m pc Ls st := by
  subst hp hst
  exact Go.step (fun t k => XS.ior X.here hx rfl (hb hby hd) rfl (by subst hv; exact k)) g
theorem g_ixor (X : Stand p l e R s m args below meth c T locs cells slots) (hx : p.tables.exec = Jvm.exec) (hby : c.code = code) {x y v : Int32} (hd : decode code pc = .ok (.ixor, 1)) (hst : st = .int y :: .int x :: st') (hv : x ^^^ y = v) (hp : pc + 1 = pc') (g : Gf p e below P T m pc' Ls (.int v :: st')) : Gf p e below P T m pc Ls st := by
  subst hp hst
  exact Go.step (fun t k => XS.ixor X.here hx rfl (hb hby hd) rfl (by subst hv; exact k)) g
theorem g_ishl (X : Stand p l e R s m args below meth c T locs cells slots) (hx : p.tables.exec = Jvm.exec) (hby : c.code = code) {x y v : Int32} (hd : decode code pc = .ok (.ishl, 1)) (hst : st = .int y :: .int x :: st') (hv : x <<< (y &&& 31) = v) (hp : pc + 1 = pc') (g : Gf p e below P T m pc' Ls (.int v :: st')) : Gf p e below P T m pc Ls st := by
  subst hp hst
  exact Go.step (fun t k => XS.ishl X.here hx rfl (hb hby hd) rfl (by subst hv; exact k)) g
theorem g_ishr (X : Stand p l e R s m args below meth c T locs cells slots) (hx : p.tables.exec = Jvm.exec) (hby : c.code = code) {x y v : Int32} (hd : decode code pc = .ok (.ishr, 1)) (hst : st = .int y :: .int x :: st') (hv : x >>> (y &&& 31) = v) (hp : pc + 1 = pc') (g : Gf p e below P T m pc' Ls (.int v :: st')) : Gf p e below P T m pc Ls st := by
  subst hp hst
  exact Go.step (fun t k => XS.ishr X.here hx rfl (hb hby hd) rfl (by subst hv; exact k)) g
theorem g_iushr (X : Stand p l e R s m args below meth c T locs cells slots) (hx : p.tables.exec = Jvm.exec) (hby : c.code = code) {x y v : Int32} (hd : decode code pc = .ok (.iushr, 1)) (hst : st = .int y :: .int x :: st') (hv : (x.toUInt32 >>> (y &&& 31).toUInt32).toInt32 = v) (hp : pc + 1 = pc') (g : Gf p e below P T m pc' Ls (.int v :: st')) : Gf p e below P T m pc Ls st := by
  subst hp hst
  exact Go.step (fun t k => XS.iushr X.here hx rfl (hb hby hd) rfl (by subst hv; exact k)) g
theorem g_ladd (X : Stand p l e R s m args below meth c T locs cells slots) (hx : p.tables.exec = Jvm.exec) (hby : c.code = code) {x y v : Int64} (hd : decode code pc = .ok (.ladd, 1)) (hst : st = .long y :: .long x :: st') (hv : x + y = v) (hp : pc + 1 = pc') (g : Gf p e below P T m pc' Ls (.long v :: st')) : Gf p e below P T m pc Ls st := by
  subst hp hst
  exact Go.step (fun t k => XS.ladd X.here hx rfl (hb hby hd) rfl (by subst hv; exact k)) g
theorem g_lsub (X : Stand p l e R s m args below meth c T locs cells slots) (hx : p.tables.exec = Jvm.exec) (hby : c.code = code) {x y v : Int64} (hd : decode code pc = .ok (.lsub, 1)) (hst : st = .long y :: .long x :: st') (hv : x - y = v) (hp : pc + 1 = pc') (g : Gf p e below P T m pc' Ls (.long v :: st')) : Gf p e below P T m pc Ls st := by
  subst hp hst
  exact Go.step (fun t k => XS.lsub X.here hx rfl (hb hby hd) rfl (by subst hv; exact k)) g
theorem g_lmul (X : Stand p l e R s m args below meth c T locs cells slots) (hx : p.tables.exec = Jvm.exec) (hby : c.code = code) {x y v : Int64} (hd : decode code pc = .ok (.lmul, 1)) (hst : st = .long y :: .long x :: st') (hv : x * y = v) (hp : pc + 1 = pc') (g : Gf p e below P T m pc' Ls (.long v :: st')) : Gf p e below P T m pc Ls st := by
  subst hp hst
  exact Go.step (fun t k => XS.lmul X.here hx rfl (hb hby hd) rfl (by subst hv; exact k)) g
theorem g_land (X : Stand p l e R s m args below meth c T locs cells slots) (hx : p.tables.exec = Jvm.exec) (hby : c.code = code) {x y v : Int64} (hd : decode code pc = .ok (.land, 1)) (hst : st = .long y :: .long x :: st') (hv : x &&& y = v) (hp : pc + 1 = pc') (g : Gf p e below P T m pc' Ls (.long v :: st')) : Gf p e below P T m pc Ls st := by
  subst hp hst
  exact Go.step (fun t k => XS.land X.here hx rfl (hb hby hd) rfl (by subst hv; exact k)) g
theorem g_lor (X : Stand p l e R s m args below meth c T locs cells slots) (hx : p.tables.exec = Jvm.exec) (hby : c.code = code) {x y v : Int64} (hd : decode code pc = .ok (.lor, 1)) (hst : st = .long y :: .long x :: st') (hv : x ||| y = v) (hp : pc + 1 = pc') (g : Gf p e below P T m pc' Ls (.long v :: st')) : Gf p e below P T m pc Ls st := by
  subst hp hst
  exact Go.step (fun t k => XS.lor X.here hx rfl (hb hby hd) rfl (by subst hv; exact k)) g
theorem g_lxor (X : Stand p l e R s m args below meth c T locs cells slots) (hx : p.tables.exec = Jvm.exec) (hby : c.code = code) {x y v : Int64} (hd : decode code pc = .ok (.lxor, 1)) (hst : st = .long y :: .long x :: st') (hv : x ^^^ y = v) (hp : pc + 1 = pc') (g : Gf p e below P T m pc' Ls (.long v :: st')) : Gf p e below P T m pc Ls st := by
  subst hp hst
  exact Go.step (fun t k => XS.lxor X.here hx rfl (hb hby hd) rfl (by subst hv; exact k)) g
theorem g_lshl (X : Stand p l e R s m args below meth c T locs cells slots) (hx : p.tables.exec = Jvm.exec) (hby : c.code = code) {x v : Int64} {y : Int32} (hd : decode code pc = .ok (.lshl, 1)) (hst : st = .int y :: .long x :: st') (hv : x <<< (y &&& 0x3f).toInt64 = v) (hp : pc + 1 = pc') (g : Gf p e below P T m pc' Ls (.long v :: st')) : Gf p e below P T m pc Ls st := by
  subst hp hst
  exact Go.step (fun t k => XS.lshl X.here hx rfl (hb hby hd) rfl (by subst hv; exact k)) g
theorem g_lshr (X : Stand p l e R s m args below meth c T locs cells slots) (hx : p.tables.exec = Jvm.exec) (hby : c.code = code) {x v : Int64} {y : Int32} (hd : decode code pc = .ok (.lshr, 1)) (hst : st = .int y :: .long x :: st') (hv : x >>> (y &&& 0x3f).toInt64 = v) (hp : pc + 1 = pc') (g : Gf p e below P T m pc' Ls (.long v :: st')) : Gf p e below P T m pc Ls st := by
  subst hp hst
  exact Go.step (fun t k => XS.lshr X.here hx rfl (hb hby hd) rfl (by subst hv; exact k)) g
theorem g_lushr (X : Stand p l e R s m args below meth c T locs cells slots) (hx : p.tables.exec = Jvm.exec) (hby : c.code = code) {x v : Int64} {y : Int32} (hd : decode code pc = .ok (.lushr, 1)) (hst : st = .int y :: .long x :: st') (hv : (x.toUInt64 >>> (y &&& 0x3f).toInt64.toUInt64).toInt64 = v) (hp : pc + 1 = pc') (g : Gf p e below P T m pc' Ls (.long v :: st')) : Gf p e below P T m pc Ls st := by
  subst hp hst
  exact Go.step (fun t k => XS.lushr X.here hx rfl (hb hby hd) rfl (by subst hv; exact k)) g
theorem g_irem (X : Stand p l e R s m args below meth c T locs cells slots) (hx : p.tables.exec = Jvm.exec) (hby : c.code = code) {x y v : Int32} (hd : decode code pc = .ok (.irem, 1)) (hst : st = .int y :: .int x :: st') (hy : y ≠ 0) (hv : x % y = v) (hp : pc + 1 = pc') (g : Gf p e below P T m pc' Ls (.int v :: st')) : Gf p e below P T m pc Ls st := by
  subst hp hst
  exact Go.step (fun t k => iremM X hx (g := mkF m pc Ls _) rfl (hb hby hd) rfl hy (by subst hv; exact k)) g
theorem g_idiv (X : Stand p l e R s m args below meth c T locs cells slots) (hx : p.tables.exec = Jvm.exec) (hby : c.code = code) {x y v : Int32} (hd : decode code pc = .ok (.idiv, 1)) (hst : st = .int y :: .int x :: st') (hy : y ≠ 0) (hv : x / y = v) (hp : pc + 1 = pc') (g : Gf p e below P T m pc' Ls (.int v :: st')) : Gf p e below P T m pc Ls st := by
  subst hp hst
  exact Go.step (fun t k => XS.idiv X.here hx rfl (hb hby hd) rfl hy (by subst hv; exact k)) g
theorem g_ineg (X : Stand p l e R s m args below meth c T locs cells slots) (hx : p.tables.exec = Jvm.exec) (hby : c.code = code) {x : Int32} {v : Int32} (hd : decode code pc = .ok (.ineg, 1)) (hst : st = .int x :: st') (hv : -x = v) (hp : pc + 1 = pc') (g : Gf p e below P T m pc' Ls (.int v :: st')) : Gf p e below P T m pc Ls st := by
  subst hp hst
  exact Go.step (fun t k => XS.ineg X.here hx rfl (hb hby hd) rfl (by subst hv; exact k)) g
theorem g_lneg (X : Stand p l e R s m args below meth c T locs cells slots) (hx : p.tables.exec = Jvm.exec) (hby : c.code = code) {x : Int64} {v : Int64} (hd : decode code pc = .ok (.lneg, 1)) (hst : st = .long x :: st') (hv : -x = v) (hp : pc + 1 = pc') (g : Gf p e below P T m pc' Ls (.long v :: st')) : Gf p e below P T m pc Ls st := by
  subst hp hst
  exact Go.step (fun t k => XS.lneg X.here hx rfl (hb hby hd) rfl (by subst hv; exact k)) g
theorem g_i2l (X : Stand p l e R s m args below meth c T locs cells slots) (hx : p.tables.exec = Jvm.exec) (hby : c.code = code) {x : Int32} {v : Int64} (hd : decode code pc = .ok (.i2l, 1)) (hst : st = .int x :: st') (hv : x.toInt64 = v) (hp : pc + 1 = pc') (g : Gf p e below P T m pc' Ls (.long v :: st')) : Gf p e below P T m pc Ls st := by
  subst hp hst
  exact Go.step (fun t k => XS.i2l X.here hx rfl (hb hby hd) rfl (by subst hv; exact k)) g
theorem g_l2i (X : Stand p l e R s m args below meth c T locs cells slots) (hx : p.tables.exec = Jvm.exec) (hby : c.code = code) {x : Int64} {v : Int32} (hd : decode code pc = .ok (.l2i, 1)) (hst : st = .long x :: st') (hv : x.toInt32 = v) (hp : pc + 1 = pc') (g : Gf p e below P T m pc' Ls (.int v :: st')) : Gf p e below P T m pc Ls st := by
  subst hp hst
  exact Go.step (fun t k => XS.l2i X.here hx rfl (hb hby hd) rfl (by subst hv; exact k)) g
theorem g_i2b (X : Stand p l e R s m args below meth c T locs cells slots) (hx : p.tables.exec = Jvm.exec) (hby : c.code = code) {x : Int32} {v : Int32} (hd : decode code pc = .ok (.i2b, 1)) (hst : st = .int x :: st') (hv : x.toInt8.toInt32 = v) (hp : pc + 1 = pc') (g : Gf p e below P T m pc' Ls (.int v :: st')) : Gf p e below P T m pc Ls st := by
  subst hp hst
  exact Go.step (fun t k => XS.i2b X.here hx rfl (hb hby hd) rfl (by subst hv; exact k)) g
theorem g_i2s (X : Stand p l e R s m args below meth c T locs cells slots) (hx : p.tables.exec = Jvm.exec) (hby : c.code = code) {x : Int32} {v : Int32} (hd : decode code pc = .ok (.i2s, 1)) (hst : st = .int x :: st') (hv : x.toInt16.toInt32 = v) (hp : pc + 1 = pc') (g : Gf p e below P T m pc' Ls (.int v :: st')) : Gf p e below P T m pc Ls st := by
  subst hp hst
  exact Go.step (fun t k => XS.i2s X.here hx rfl (hb hby hd) rfl (by subst hv; exact k)) g
theorem g_i2c (X : Stand p l e R s m args below meth c T locs cells slots) (hx : p.tables.exec = Jvm.exec) (hby : c.code = code) {x : Int32} {v : Int32} (hd : decode code pc = .ok (.i2c, 1)) (hst : st = .int x :: st') (hv : x.toUInt32.toUInt16.toUInt32.toInt32 = v) (hp : pc + 1 = pc') (g : Gf p e below P T m pc' Ls (.int v :: st')) : Gf p e below P T m pc Ls st := by
  subst hp hst
  exact Go.step (fun t k => XS.i2c X.here hx rfl (hb hby hd) rfl (by subst hv; exact k)) g
theorem g_lcmp (X : Stand p l e R s m args below meth c T locs cells slots) (hx : p.tables.exec = Jvm.exec) (hby : c.code = code) {x y : Int64} {v : Int32} (hd : decode code pc = .ok (.lcmp, 1)) (hst : st = .long y :: .long x :: st') (hv : lcmpW x y = v) (hp : pc + 1 = pc') (g : Gf p e below P T m pc' Ls (.int v :: st')) : Gf p e below P T m pc Ls st := by
  subst hp hst
  exact Go.step (fun t k => XS.lcmp X.here hx rfl (hb hby hd) rfl (by subst hv; exact k)) g
theorem g_i2d (X : Stand p l e R s m args below meth c T locs cells slots) (hx : p.tables.exec = Jvm.exec) (hby : c.code = code) {x : Int32} {v : UInt64} (hd : decode code pc = .ok (.i2d, 1)) (hst : st = .int x :: st') (hv : FP.i2d x = v) (hp : pc + 1 = pc') (g : Gf p e below P T m pc' Ls (.double v :: st')) : Gf p e below P T m pc Ls st := by
  subst hp hst
  exact Go.step (fun t k => XS.i2dS X.here hx rfl (hb hby hd) rfl hv k) g
theorem g_l2d (X : Stand p l e R s m args below meth c T locs cells slots) (hx : p.tables.exec = Jvm.exec) (hby : c.code = code) {x : Int64} {v : UInt64} (hd : decode code pc = .ok (.l2d, 1)) (hst : st = .long x :: st') (hv : FP.l2d x = v) (hp : pc + 1 = pc') (g : Gf p e below P T m pc' Ls (.double v :: st')) : Gf p e below P T m pc Ls st := by
  subst hp hst
  exact Go.step (fun t k => XS.l2dS X.here hx rfl (hb hby hd) rfl hv k) g
theorem g_d2i (X : Stand p l e R s m args below meth c T locs cells slots) (hx : p.tables.exec = Jvm.exec) (hby : c.code = code) {x : UInt64} {v : Int32} (hd : decode code pc = .ok (.d2i, 1)) (hst : st = .double x :: st') (hv : FP.d2i x = v) (hp : pc + 1 = pc') (g : Gf p e below P T m pc' Ls (.int v :: st')) : Gf p e below P T m pc Ls st := by
  subst hp hst
  exact Go.step (fun t k => XS.d2iS X.here hx rfl (hb hby hd) rfl hv k) g
theorem g_d2l (X : Stand p l e R s m args below meth c T locs cells slots) (hx : p.tables.exec = Jvm.exec) (hby : c.code = code) {x : UInt64} {v : Int64} (hd : decode code pc = .ok (.d2l, 1)) (hst : st = .double x :: st') (hv : FP.d2l x = v) (hp : pc + 1 = pc') (g : Gf p e below P T m pc' Ls (.long v :: st')) : Gf p e below P T m pc Ls st := by
  subst hp hst
  exact Go.step (fun t k => XS.d2lS X.here hx rfl (hb hby hd) rfl hv k) g
theorem g_dneg (X : Stand p l e R s m args below meth c T locs cells slots) (hx : p.tables.exec = Jvm.exec) (hby : c.code = code) {x : UInt64} {v : UInt64} (hd : decode code pc = .ok (.dneg, 1)) (hst : st = .double x :: st') (hv : FP.dneg x = v) (hp : pc + 1 = pc') (g : Gf p e below P T m pc' Ls (.double v :: st')) : Gf p e below P T m pc Ls st := by
  subst hp hst
  exact Go.step (fun t k => XS.dnegS X.here hx rfl (hb hby hd) rfl hv k) g
theorem g_dadd (X : Stand p l e R s m args below meth c T locs cells slots) (hx : p.tables.exec = Jvm.exec) (hby : c.code = code) {x y v : UInt64} (hd : decode code pc = .ok (.dadd, 1)) (hst : st = .double y :: .double x :: st') (hn : Jvm.Free.Fl.NoNaN64 (FP.dadd x y)) (hv : FP.dadd x y = v) (hp : pc + 1 = pc') (g : Gf p e below P T m pc' Ls (.double v :: st')) : Gf p e below P T m pc Ls st := by
  subst hp hst
  exact Go.step (fun t k => XS.daddS X.here hx rfl (hb hby hd) rfl hn hv k) g
theorem g_dsub (X : Stand p l e R s m args below meth c T locs cells slots) (hx : p.tables.exec = Jvm.exec) (hby : c.code = code) {x y v : UInt64} (hd : decode code pc = .ok (.dsub, 1)) (hst : st = .double y :: .double x :: st') (hn : Jvm.Free.Fl.NoNaN64 (FP.dsub x y)) (hv : FP.dsub x y = v) (hp : pc + 1 = pc') (g : Gf p e below P T m pc' Ls (.double v :: st')) : Gf p e below P T m pc Ls st := by
  subst hp hst
  exact Go.step (fun t k => XS.dsubS X.here hx rfl (hb hby hd) rfl hn hv k) g
theorem g_dmul (X : Stand p l e R s m args below meth c T locs cells slots) (hx : p.tables.exec = Jvm.exec) (hby : c.code = code) {x y v : UInt64} (hd : decode code pc = .ok (.dmul, 1)) (hst : st = .double y :: .double x :: st') (hn : Jvm.Free.Fl.NoNaN64 (FP.dmul x y)) (hv : FP.dmul x y = v) (hp : pc + 1 = pc') (g : Gf p e below P T m pc' Ls (.double v :: st')) : Gf p e below P T m pc Ls st := by
  subst hp hst
  exact Go.step (fun t k => XS.dmulS X.here hx rfl (hb hby hd) rfl hn hv k) g
theorem g_ddiv (X : Stand p l e R s m args below meth c T locs cells slots) (hx : p.tables.exec = Jvm.exec) (hby : c.code = code) {x y v : UInt64} (hd : decode code pc = .ok (.ddiv, 1)) (hst : st = .double y :: .double x :: st') (hn : Jvm.Free.Fl.NoNaN64 (FP.ddiv x y)) (hv : FP.ddiv x y = v) (hp : pc + 1 = pc') (g : Gf p e below P T m pc' Ls (.double v :: st')) : Gf p e below P T m pc Ls st := by
  subst hp hst
  exact Go.step (fun t k => XS.ddivS X.here hx rfl (hb hby hd) rfl hn hv k) g
theorem g_dcmp (X : Stand p l e R s m args below meth c T locs cells slots) (hx : p.tables.exec = Jvm.exec) (hby : c.code = code) {o : CmpOp} {x y : UInt64} {v : Int32} (hd : decode code pc = .ok (.dcmp o, 1)) (hst : st = .double y :: .double x :: st') (hv : cmpValue (FP.dcmp x y) o = v) (hp : pc + 1 = pc') (g : Gf p e below P T m pc' Ls (.int v :: st')) : Gf p e below P T m pc Ls st := by
  subst hp hst
  exact Go.step (fun t k => XS.dcmpS X.here hx rfl (hb hby hd) rfl hv k) g
theorem g_dup (X : Stand p l e R s m args below meth c T locs cells slots) (hx : p.tables.exec = Jvm.exec) (hby : c.code = code) {x : Value} (hd : decode code pc = .ok (.dup, 1)) (hst : st = x :: st') (hc : x.category = 1) (hp : pc + 1 = pc') (g : Gf p e below P T m pc' Ls (x :: x :: st')) : Gf p e below P T m pc Ls st := by
  subst hp hst
  exact Go.step (fun t k => XS.dup X.here hx rfl (hb hby hd) rfl hc k) g
theorem g_pop (X : Stand p l e R s m args below meth c T locs cells slots) (hx : p.tables.exec = Jvm.exec) (hby : c.code = code) {x : Value} (hd : decode code pc = .ok (.pop, 1)) (hst : st = x :: st') (hc : x.category = 1) (hp : pc + 1 = pc') (g : Gf p e below P T m pc' Ls st') : Gf p e below P T m pc Ls st := by
  subst hp hst
  exact Go.step (fun t k => XS.pop X.here hx rfl (hb hby hd) rfl hc k) g
theorem g_iinc (X : Stand p l e R s m args below meth c T locs cells slots) (hx : p.tables.exec = Jvm.exec) (hby : c.code = code) {n : Nat} {i : Int} {x : Int32} (hd : decode code pc = .ok (.iinc n i, 3)) (hl : Ls[n]? = some (.val (.int x))) (hl' : storeLocals Ls n (.int (x + Int32.ofInt i)) = some Ls') (hp : pc + 3 = pc') (g : Gf p e below P T m pc' Ls' st) : Gf p e below P T m pc Ls st := by
  subst hp
  exact Go.step (fun t k => XS.iinc X.here hx rfl (hb hby hd) hl hl' k) g
theorem g_goto (X : Stand p l e R s m args below meth c T locs cells slots) (hx : p.tables.exec = Jvm.exec) (hby : c.code = code) {o : Int} (hd : decode code pc = .ok (.goto o, 3)) (ho : 0 ≤ (pc : Int) + o) (hp : ((pc : Int) + o).toNat = pc') (g : Gf p e below P T m pc' Ls st) : Gf p e below P T m pc Ls st := Go.step (fun t k => XS.goto X.here hx rfl (pc0 := pc) (pc' := pc') rfl (hb hby hd) ho hp k) g
theorem g_ifY (X : Stand p l e R s m args below meth c T locs cells slots) (hx : p.tables.exec = Jvm.exec) (hby : c.code = code) {cd : ClassFile.Cond} {o : Int} {x : Int32} (hd : decode code pc = .ok (.ifCond cd o, 3)) (hst : st = .int x :: st') (hc : if_icmp.holds cd x 0 = true) (ho : 0 ≤ (pc : Int) + o) (hp : ((pc : Int) + o).toNat = pc') (g : Gf p e below P T m pc' Ls st') : Gf p e below P T m pc Ls st := by
  subst hst
  exact Go.step (fun t k => XS.ifYes X.here hx rfl (pc0 := pc) (pc' := pc') rfl (hb hby hd) rfl ((if0 _ _).trans hc) ho hp k) g
theorem g_ifN (X : Stand p l e R s m args below meth c T locs cells slots) (hx : p.tables.exec = Jvm.exec) (hby : c.code = code) {cd : ClassFile.Cond} {o : Int} {x : Int32} (hd : decode code pc = .ok (.ifCond cd o, 3)) (hst : st = .int x :: st') (hc : if_icmp.holds cd x 0 = false) (hp : pc + 3 = pc') (g : Gf p e below P T m pc' Ls st') : Gf p e below P T m pc Ls st := by
  subst hst hp
  exact Go.step (fun t k => XS.ifNo X.here hx rfl (hb hby hd) rfl ((if0 _ _).trans hc) k) g
theorem g_icY (X : Stand p l e R s m args below meth c T locs cells slots) (hx : p.tables.exec = Jvm.exec) (hby : c.code = code) {cd : ClassFile.Cond} {o : Int} {x y : Int32} (hd : decode code pc = .ok (.if_icmp cd o, 3)) (hst : st = .int y :: .int x :: st') (hc : if_icmp.holds cd x y = true) (ho : 0 ≤ (pc : Int) + o) (hp : ((pc : Int) + o).toNat = pc') (g : Gf p e below P T m pc' Ls st') : Gf p e below P T m pc Ls st := by
  subst hst
  exact Go.step (fun t k => XS.icmpYes X.here hx rfl (pc0 := pc) (pc' := pc') rfl (hb hby hd) rfl hc ho hp k) g
theorem g_icN (X : Stand p l e R s m args below meth c T locs cells slots) (hx : p.tables.exec = Jvm.exec) (hby : c.code = code) {cd : ClassFile.Cond} {o : Int} {x y : Int32} (hd : decode code pc = .ok (.if_icmp cd o, 3)) (hst : st = .int y :: .int x :: st') (hc : if_icmp.holds cd x y = false) (hp : pc + 3 = pc') (g : Gf p e below P T m pc' Ls st') : Gf p e below P T m pc Ls st := by
  subst hst hp
  exact Go.step (fun t k => XS.icmpNo X.here hx rfl (hb hby hd) rfl hc k) g
theorem g_nullY (X : Stand p l e R s m args below meth c T locs cells slots) (hx : p.tables.exec = Jvm.exec) (hby : c.code = code) {o : Int} (hd : decode code pc = .ok (.ifnull o, 3)) (hst : st = .null :: st') (ho : 0 ≤ (pc : Int) + o) (hp : ((pc : Int) + o).toNat = pc') (g : Gf p e below P T m pc' Ls st') : Gf p e below P T m pc Ls st := by
  subst hst
  exact Go.step (fun t k => XS.ifnullYes X.here hx rfl (pc0 := pc) (pc' := pc') rfl (hb hby hd) rfl ho hp k) g
theorem g_nullN (X : Stand p l e R s m args below meth c T locs cells slots) (hx : p.tables.exec = Jvm.exec) (hby : c.code = code) {o : Int} {b : Addr} (hd : decode code pc = .ok (.ifnull o, 3)) (hst : st = .ref b :: st') (hp : pc + 3 = pc') (g : Gf p e below P T m pc' Ls st') : Gf p e below P T m pc Ls st := by
  subst hst hp
  exact Go.step (fun t k => XS.ifnullNo X.here hx rfl (hb hby hd) rfl k) g
theorem g_nnY (X : Stand p l e R s m args below meth c T locs cells slots) (hx : p.tables.exec = Jvm.exec) (hby : c.code = code) {o : Int} {b : Addr} (hd : decode code pc = .ok (.ifnonnull o, 3)) (hst : st = .ref b :: st') (ho : 0 ≤ (pc : Int) + o) (hp : ((pc : Int) + o).toNat = pc') (g : Gf p e below P T m pc' Ls st') : Gf p e below P T m pc Ls st := by
  subst hst
  exact Go.step (fun t k => XS.ifnonnullYes X.here hx rfl (pc0 := pc) (pc' := pc') rfl (hb hby hd) rfl ho hp k) g
theorem g_nnN (X : Stand p l e R s m args below meth c T locs cells slots) (hx : p.tables.exec = Jvm.exec) (hby : c.code = code) {o : Int} (hd : decode code pc = .ok (.ifnonnull o, 3)) (hst : st = .null :: st') (hp : pc + 3 = pc') (g : Gf p e below P T m pc' Ls st') : Gf p e below P T m pc Ls st := by
  subst hst hp
  exact Go.step (fun t k => XS.ifnonnullNo X.here hx rfl (hb hby hd) rfl k) g
theorem g_acmp (X : Stand p l e R s m args below meth c T locs cells slots) (hx : p.tables.exec = Jvm.exec) (hby : c.code = code) {cd : ACond} {o : Int} {x y : Value} {same : Bool} (hd : decode code pc = .ok (.if_acmp cd o, 3)) (hst : st = y :: x :: st') (h1 : x.isRef = true) (h2 : y.isRef = true) (hq : decide (x = y) = same) (ho : 0 ≤ (pc : Int) + o) (hp : pc' = if acV cd same = true then ((pc : Int) + o).toNat else pc + 3) (g : Gf p e below P T m pc' Ls st') : Gf p e below P T m pc Ls st := by
  subst hst
  exact Go.step (fun t k => Jvm.RoadKit.acmp (g := mkF m pc Ls _) X hx rfl h1 h2 (pc0 := pc) (pc' := pc') rfl (hb hby hd) rfl hq ho hp k) g
/-! the returns -/
variable {Q : Option Value → Heap → List Loc → Prop} {rm : Room} {h : Heap}
def FinR (l : Launch) (s : State) (rm : Room) (Q : Option Value → Heap → List Loc → Prop) (P : Outcome → State → Prop) : Prop := ∀ o U, (∃ v L, o = .returned v ∧ Q v U.heap L ∧ FrameEnd s o U L rm.cells rm.slots) → P o U
theorem g_retV (X : Stand p l e R s m args below meth c T locs cells slots) (hx : p.tables.exec = Jvm.exec) (hby : c.code = code) (hf : FinR l s rm Q P) (hlk : meth.locks = false) {t : FieldType} {i : Instr} {w : Value} (hret : meth.sig.returnType = some t) (hd : decode code pc = .ok (i, 1)) (hst : st = w :: st') (hn : narrow t w = w)
    (hi : (i = .ireturn ∧ (t = .int ∨ t = .boolean ∨ t = .byte ∨ t = .char ∨ t = .short) ∧ ∃ z, w = .int z) ∨ (i = .lreturn ∧ t = .long ∧ ∃ z, w = .long z) ∨ (i = .dreturn ∧ t = .double ∧ ∃ z, w = .double z) ∨ (i = .freturn ∧ t = .float ∧ ∃ z, w = .float z) ∨ (i = .areturn ∧ t.isReference = true ∧ w.isRef = true))
    (hc : cells ≤ rm.cells) (hs : slots ≤ rm.slots) (eT : T.heap = h) (q : Q (some w) h locs) : Gf p e below P T m pc Ls st := by
  subst hst
  obtain ⟨fs, hr, hrun, hended, hW, hsame⟩ := X.leave (v := some w) (fun q => by rw [hret] at q; cases q) hlk
  exact ⟨_, _, retOut X hx hret hn hi (hb hby hd) hr, hrun, hended, hf _ _ ⟨_, _, rfl, by show Q (some w) T.heap locs; rw [eT]; exact q, ⟨_, rfl⟩, hW, hsame.mono hc hs⟩⟩
theorem g_retZ (X : Stand p l e R s m args below meth c T locs cells slots) (hx : p.tables.exec = Jvm.exec) (hby : c.code = code) (hf : FinR l s rm Q P) (hlk : meth.locks = false) {t : FieldType} {z w : Int32} (hret : meth.sig.returnType = some t) (hd : decode code pc = .ok (.ireturn, 1)) (hst : st = .int z :: st') (ht : t = .boolean ∨ t = .byte ∨ t = .char ∨ t = .short)
    (hw : nar t z = w) (hc : cells ≤ rm.cells) (hs : slots ≤ rm.slots) (eT : T.heap = h) (q : Q (some (.int w)) h locs) : Gf p e below P T m pc Ls st := by
  subst hst hw
  obtain ⟨fs, hr, hrun, hended, hW, hsame⟩ := X.leave (v := some (.int (nar t z))) (fun q => by rw [hret] at q; cases q) hlk
  exact ⟨_, _, retN X hx hret ht (hb hby hd) hr, hrun, hended, hf _ _ ⟨_, _, rfl, by show Q (some (.int (nar t z))) T.heap locs; rw [eT]; exact q, ⟨_, rfl⟩, hW, hsame.mono hc hs⟩⟩
theorem g_ret (X : Stand p l e R s m args below meth c T locs cells slots) (hx : p.tables.exec = Jvm.exec) (hby : c.code = code) (hf : FinR l s rm Q P) (hlk : meth.locks = false) (hret : meth.sig.returnType = none) (hd : decode code pc = .ok (.return_, 1)) (hst : st = [])
    (hc : cells ≤ rm.cells) (hs : slots ≤ rm.slots) (eT : T.heap = h) (q : Q none h locs) : Gf p e below P T m pc Ls st := by
  subst hst
  obtain ⟨fs, hr, hrun, hended, hW, hsame⟩ := X.leave (v := none) (fun _ => rfl) hlk
  exact ⟨_, _, X.returnOut hx hret (hb hby hd) hr, hrun, hended, hf _ _ ⟨_, _, rfl, by show Q none T.heap locs; rw [eT]; exact q, ⟨_, rfl⟩, hW, hsame.mono hc hs⟩⟩
/-! the heap -/
variable {Z : State} {a0 : Array Value} {own : String} {a : Addr}
theorem g_new (X : Stand p l e R s m args below meth c T locs cells slots) (hx : p.tables.exec = Jvm.exec) (hby : c.code = code) (hZ : Z.Warmed39 s.vm) (hown : s.vm.findClass own = some m.cls) {C : String} {i n : Nat} (w : (Cond.classLink own i C).before a0 Z = true) (wi : (Cond.instantiable C n).before a0 Z = true) (wz : (Cond.initialized C).before a0 Z = true) (eT : T.heap = h)
    (hd : decode code pc = .ok (.new i, 3)) (hp : pc + 3 = pc') (hc : cells + 1 ≤ R.cells) (hl : slots + n ≤ R.slots)
    (g : ∀ (T' : State) (h' : Heap) (a : Addr), Stand p l e R s m args below meth c T' locs (cells + 1) (slots + n) → T'.heap = h' → Ext h h' → Exa Z h' a C → (∀ {O nm d : String} {ty : FieldType}, Laid Z a0 C O nm d → parseFieldDescriptor d = some ty → Fld Z h' a O nm d (defaultValue ty)) → a = h.size → Gf p e below P T' m pc' Ls (.ref a :: st)) : Gf p e below P T m pc Ls st := by
  subst hp
  obtain ⟨T', h', X', e', E', A', D', -, st'⟩ := newO X hx hZ hown w wi wz eT (g := mkF m pc Ls st) rfl (hb hby hd) hc hl
  exact Go.step st' (g T' h' h.size X' e' E' A' D' rfl)
theorem g_initO (X : Stand p l e R s m args below meth c T locs cells slots) (hx : p.tables.exec = Jvm.exec) (hby : c.code = code) (hZ : Z.Warmed39 s.vm) (hown : s.vm.findClass own = some m.cls) {i : Nat} (w1 : (Cond.methodLink own i Lib.objectInit).before a0 Z = true) (w2 : (Cond.instanceMethod Lib.objectInit).before a0 Z = true) (w3 : (Cond.code Lib.objectInit ⟨#[0xb1]⟩ 1 none).before a0 Z = true) (eT : T.heap = h)
    (hsize : Ls.size = c.maxLocals) (hst : st = .ref a :: st') (hd : decode code pc = .ok (.invokespecial i, 3)) (hp : pc + 3 = pc') (hf : 1 ≤ R.frames) {W : Nat} (hW : 2 * 0 + (st'.map fun v => v.category).sum = W) (hl : W + 12 ≤ R.locals)
    (g : ∀ (T' : State), Stand p l e R s m args below meth c T' locs cells slots → T'.heap = h → Gf p e below P T' m pc' Ls st') : Gf p e below P T m pc Ls st := by
  subst hp hst
  obtain ⟨T', X', e', k⟩ := initO X hx hZ hown w1 w2 w3 eT (g := mkF m pc Ls _) rfl hsize rfl (hb hby hd) hf (W := W) (Nat.le_of_eq hW) hl
  exact Go.step k (g T' X' e')
theorem g_getF (X : Stand p l e R s m args below meth c T locs cells slots) (hx : p.tables.exec = Jvm.exec) (hby : c.code = code) (hZ : Z.Warmed39 s.vm) (hown : s.vm.findClass own = some m.cls) {R0 O n d host : String} {i : Nat} {v : Value} (w : (Cond.fieldLink own i R0 n d).before a0 Z = true ∨ (Cond.fieldLinkNest own i R0 n d host).before a0 Z = true) (via : Via Z R0 O n d) (eT : T.heap = h) (F : Fld Z h a O n d v)
    (hst : st = .ref a :: st') (hd : decode code pc = .ok (.getfield i, 3)) (hp : pc + 3 = pc') (g : ∀ (T' : State), Stand p l e R s m args below meth c T' locs cells slots → T'.heap = h → Gf p e below P T' m pc' Ls (v :: st')) : Gf p e below P T m pc Ls st := by
  subst hp hst
  obtain ⟨T', X', e', k⟩ := getF X hx hZ hown w via eT F (g := mkF m pc Ls _) rfl rfl (hb hby hd)
  exact Go.step k (g T' X' e')
theorem g_getS (X : Stand p l e R s m args below meth c T locs cells slots) (hx : p.tables.exec = Jvm.exec) (hby : c.code = code) (hZ : Z.Warmed39 s.vm) (hown : s.vm.findClass own = some m.cls) {R0 O n d host : String} {i : Nat} {v : Value} (w : (Cond.fieldLink own i R0 n d).before a0 Z = true ∨ (Cond.fieldLinkNest own i R0 n d host).before a0 Z = true) (via : Via Z R0 O n d) (eT : T.heap = h) (F : Sta Z h O n d v)
    (hd : decode code pc = .ok (.getstatic i, 3)) (hp : pc + 3 = pc') (g : ∀ (T' : State), Stand p l e R s m args below meth c T' locs cells slots → T'.heap = h → Gf p e below P T' m pc' Ls (v :: st)) : Gf p e below P T m pc Ls st := by
  subst hp
  obtain ⟨T', X', e', k⟩ := getS2 X hx hZ hown w via eT F (g := mkF m pc Ls st) rfl (hb hby hd)
  exact Go.step k (g T' X' e')
theorem g_putF (X : Stand p l e R s m args below meth c T locs cells slots) (hx : p.tables.exec = Jvm.exec) (hby : c.code = code) (hZ : Z.Warmed39 s.vm) (hown : s.vm.findClass own = some m.cls) {R0 O n d host C : String} {i kk : Nat} {ty : FieldType} {v old : Value} (w : (Cond.fieldLink own i R0 n d).before a0 Z = true ∨ (Cond.fieldLinkNest own i R0 n d host).before a0 Z = true) (via : Via Z R0 O n d) (eT : T.heap = h) (F : Fld Z h a O n d old) (E : Exa Z h a C)
    (L : (Cond.lays C O n d).before a0 Z = true ∨ ((Cond.laysFinal C O n d).before a0 Z = true ∧ own = O ∧ meth.name = "<init>")) (wi : (Cond.instantiable C kk).before a0 Z = true) (hty : parseFieldDescriptor d = some ty) (hn : narrow ty v = v) (hf : fits ty v = true)
    (hst : st = v :: .ref a :: st') (hd : decode code pc = .ok (.putfield i, 3)) (hp : pc + 3 = pc') {k0 : Nat} (N : Fr k0 locs) (q : k0 ≤ a)
    (g : ∀ (T' : State) (h' : Heap), Stand p l e R s m args below meth c T' (locs ++ [⟨a, Jvm.RoadKit.slotOf Z O n d⟩]) cells slots → T'.heap = h' → Wr h h' a (Jvm.RoadKit.slotOf Z O n d) v → Fr k0 (locs ++ [⟨a, Jvm.RoadKit.slotOf Z O n d⟩]) → Gf p e below P T' m pc' Ls st') : Gf p e below P T m pc Ls st := by
  subst hp hst
  obtain ⟨T', h', X', e', W', k⟩ := putF X hx hZ hown w via eT F E L wi hty hn hf (g := mkF m pc Ls _) rfl rfl (hb hby hd)
  exact Go.step k (g T' h' X' e' W' (Fr.snoc X' N q))
/-! the calls, by a callee's contract -/
def Con (l : Launch) (Z : State) (y : MethodName) (bytes : ByteArray) (maxL : Nat) (ret : Option FieldType) (ws : List Cond) (rm : Room) (as : Array Value) (h : Heap) (Q : Option Value → Heap → List Loc → Prop) : Prop :=
  MetFree l y (head1 (Cond.code y bytes maxL ret :: ws) rm) (fun a U => a = as ∧ Z.Warmed39 U.vm ∧ U.heap = h) (fun _ _ _ _ _ => True) (fun _ U o U' => ∃ v L, o = .returned v ∧ Q v U'.heap L ∧ FrameEnd U o U' L rm.cells rm.slots)
theorem Con.start {y : MethodName} {bytes : ByteArray} {maxL : Nat} {ret : Option FieldType} {ws : List Cond} {as : Array Value} (Ls : Array Slot) (hn : plainFor y = true) (hef : ∀ m, entryFrame m as maxL = mkF m 0 Ls [])
    (k : ∀ (p : Program) (e : Env) (s : State) (m : MethodId) (below : List Frame) (meth : Method) (c : Code) (s₁ : State) (P : Outcome → State → Prop), Stand p l e rm s m as below meth c s₁ [] 0 0 → p.tables.exec = Jvm.exec → c.code = bytes → c.maxLocals = maxL → meth.sig.returnType = ret → meth.locks = false → s.vm.findClass y.cls = some m.cls → meth.name = y.name → Z.Warmed39 s.vm → s₁.heap = h → FinR l s rm Q P → Gf p e below P s₁ m 0 Ls []) :
    Con l Z y bytes maxL ret ws rm as h Q := by
  refine MetFree.of_bodySF hn hisR ?_
  intro p e s m args below meth c s₁ Bd hml0 hP hK
  obtain ⟨rfl, hZ, hh⟩ := hP
  have e0 : s₁.heap = h := by rw [← hh, Bd.state]; rfl
  obtain ⟨s2, o, h1, h2⟩ := k p e s m below meth c s₁ _ (Stand.of_body Bd) Bd.exec Bd.bytes hml0 Bd.returns (BodyLoose.notSynchronized Bd) (findClass_of_methodNamed Bd.named) (name_of_methodNamed Bd.named Bd.method).1 hZ e0 (fun o U q => q)
  exact ⟨s2, o, castTop (hef m) h1, h2⟩
theorem g_callS (X : Stand p l e R s m args below meth c T locs cells slots) (hx : p.tables.exec = Jvm.exec) (hby : c.code = code) (hml : Ls.size = c.maxLocals) (hZ : Z.Warmed39 s.vm) (hown : s.vm.findClass own = some m.cls) {i : Nat} {y : MethodName} {bytes : ByteArray} {maxL W : Nat} {ret : Option FieldType} {ps : List FieldType} {argsL : List Value} (eT : T.heap = h)
    (hM : Con l Z y bytes maxL ret [] rm argsL.toArray h Q) (w1 : (Cond.methodLink own i y).before a0 Z = true) (w2 : (Cond.static y).before a0 Z = true) (w3 : (Cond.initialized y.cls).before a0 Z = true) (w4 : (Cond.code y bytes maxL ret).before a0 Z = true) (hy : y.cls ≠ "java/lang/invoke/MethodHandle" ∧ y.cls ≠ "java/lang/invoke/VarHandle")
    (hpd : parseMethodDescriptor y.desc = some ⟨ps, ret⟩) (hlen : argsL.length = ps.length) (hst : st = argsL.reverse ++ st') (hW : 2 * 0 + (st'.map fun v => v.category).sum = W) (hf : rm.frames + 1 ≤ R.frames) (hl : W + (maxL + 11) + rm.locals ≤ R.locals) (hc : cells + rm.cells ≤ R.cells) (hs : slots + rm.slots ≤ R.slots)
    (hd : decode code pc = .ok (.invokestatic i, 3)) (hp : pc + 3 = pc')
    (g : ∀ (T' : State) (v : Option Value) (L : List Loc), Stand p l e R s m args below meth c T' (locs ++ L) (cells + rm.cells) (slots + rm.slots) → Q v T'.heap L → Gf p e below P T' m pc' Ls (v.toList ++ st')) : Gf p e below P T m pc Ls st := by
  subst hp hst
  obtain ⟨v, _, ⟨T', L', k', n'⟩, -, X', ⟨Lc, hQ, hl', hy', hz'⟩, k⟩ := Jvm.LawKit.callS X hx (y := y) hown (mvT hZ w1) (mvT hZ w2) (mvT hZ w3) (mvT hZ w4) hy (backOf (W := W) hM hZ w4 w3 hf hl) (g := mkF m pc Ls _) rfl hml (argsL := argsL) (rest := st') (lenOf hpd hlen) rfl (Nat.le_of_eq hW) (hb hby hd) (fun _ _ => ⟨rfl, eT, hc, hs⟩)
  dsimp only [Pt.U, Pt.locs, Pt.cells, Pt.slots] at X' hl' hy' hz' k hQ
  subst hl' hy' hz'
  exact Go.step k (g T' v Lc X' hQ)
theorem g_init (X : Stand p l e R s m args below meth c T locs cells slots) (hx : p.tables.exec = Jvm.exec) (hby : c.code = code) (hml : Ls.size = c.maxLocals) (hZ : Z.Warmed39 s.vm) (hown : s.vm.findClass own = some m.cls) {i : Nat} {y : MethodName} {bytes : ByteArray} {maxL W : Nat} {ps : List FieldType} {argsL : List Value} (hy1 : y.name = "<init>") (eT : T.heap = h)
    (hM : Con l Z y bytes maxL none [] rm (.ref a :: argsL).toArray h Q) (w1 : (Cond.methodLink own i y).before a0 Z = true) (w2 : (Cond.instanceMethod y).before a0 Z = true) (w3 : (Cond.initialized y.cls).before a0 Z = true) (w4 : (Cond.code y bytes maxL none).before a0 Z = true) (hy : y.cls ≠ "java/lang/invoke/MethodHandle" ∧ y.cls ≠ "java/lang/invoke/VarHandle")
    (hpd : parseMethodDescriptor y.desc = some ⟨ps, none⟩) (hlen : argsL.length = ps.length) (hst : st = argsL.reverse ++ .ref a :: st') (hW : 2 * 0 + (st'.map fun v => v.category).sum = W) (hf : rm.frames + 1 ≤ R.frames) (hl : W + (maxL + 11) + rm.locals ≤ R.locals) (hc : cells + rm.cells ≤ R.cells) (hs : slots + rm.slots ≤ R.slots)
    (hd : decode code pc = .ok (.invokespecial i, 3)) (hp : pc + 3 = pc')
    (g : ∀ (T' : State) (v : Option Value) (L : List Loc), Stand p l e R s m args below meth c T' (locs ++ L) (cells + rm.cells) (slots + rm.slots) → Q v T'.heap L → Gf p e below P T' m pc' Ls (v.toList ++ st')) : Gf p e below P T m pc Ls st := by
  subst hp hst
  obtain ⟨v, _, ⟨T', L', k', n'⟩, -, X', ⟨Lc, hQ, hl', hy', hz'⟩, k⟩ := X.specialBack hx (y := y) hy1 hown (mvT hZ w1) (mvT hZ w2) (mvT hZ w4) hy (backOf (W := W) hM hZ w4 w3 hf hl) (g := mkF m pc Ls _) rfl hml (Steps.refl _) (a := a) (argsL := argsL) (rest := st') (lenOf hpd hlen) rfl (Nat.le_of_eq hW) (hb hby hd) (fun _ _ => ⟨rfl, eT, hc, hs⟩)
  dsimp only [Pt.U, Pt.locs, Pt.cells, Pt.slots] at X' hl' hy' hz' k hQ
  subst hl' hy' hz'
  exact Go.step (fun t k2 => k.trans k2) (g T' v Lc X' hQ)
theorem g_virt (X : Stand p l e R s m args below meth c T locs cells slots) (hx : p.tables.exec = Jvm.exec) (hby : c.code = code) (hml : Ls.size = c.maxLocals) (hZ : Z.Warmed39 s.vm) (hown : s.vm.findClass own = some m.cls) {i : Nat} {y : MethodName} {bytes : ByteArray} {maxL W : Nat} {ret : Option FieldType} {ps : List FieldType} {argsL : List Value} {C : String} (eT : T.heap = h)
    (hM : Con l Z y bytes maxL ret [] rm (.ref a :: argsL).toArray h Q) (w1 : (Cond.methodLink own i y).before a0 Z = true) (wd : (Cond.declares y).before a0 Z = true) (ws : (Cond.selects C y y).before a0 Z = true) (w2 : (Cond.instanceMethod y).before a0 Z = true) (w3 : (Cond.initialized y.cls).before a0 Z = true) (w4 : (Cond.code y bytes maxL ret).before a0 Z = true) (hy : y.cls ≠ "java/lang/invoke/MethodHandle" ∧ y.cls ≠ "java/lang/invoke/VarHandle") (E : Exa Z h a C)
    (hpd : parseMethodDescriptor y.desc = some ⟨ps, ret⟩) (hlen : argsL.length = ps.length) (hst : st = argsL.reverse ++ .ref a :: st') (hW : 2 * 0 + (st'.map fun v => v.category).sum = W) (hf : rm.frames + 1 ≤ R.frames) (hl : W + (maxL + 11) + rm.locals ≤ R.locals) (hc : cells + rm.cells ≤ R.cells) (hs : slots + rm.slots ≤ R.slots)
    (hd : decode code pc = .ok (.invokevirtual i, 3)) (hp : pc + 3 = pc')
    (g : ∀ (T' : State) (v : Option Value) (L : List Loc), Stand p l e R s m args below meth c T' (locs ++ L) (cells + rm.cells) (slots + rm.slots) → Q v T'.heap L → Gf p e below P T' m pc' Ls (v.toList ++ st')) : Gf p e below P T m pc Ls st := by
  subst hp hst
  obtain ⟨cq, kq, qa, qb, qc⟩ := isOf hZ eT E
  obtain ⟨v, _, ⟨T', L', k', n'⟩, -, X', ⟨Lc, hQ, hl', hy', hz'⟩, k⟩ := X.virtualBack hx (y := y) (z := y) hown (mvT hZ w1) (mvT hZ wd) (notFace_of_selects (args := #[]) (mvT hZ ws)) (mvT hZ ws) (mvT hZ w2) hy (backOf (W := W) hM hZ w4 w3 hf hl) qa qc (g := mkF m pc Ls _) rfl hml (Steps.refl _) (argsL := argsL) (rest := st') (lenOf hpd hlen) rfl (Nat.le_of_eq hW) (hb hby hd) (fun _ _ => ⟨rfl, eT, hc, hs⟩)
  dsimp only [Pt.U, Pt.locs, Pt.cells, Pt.slots] at X' hl' hy' hz' k hQ
  subst hl' hy' hz'
  exact Go.step (fun t k2 => k.trans k2) (g T' v Lc X' hQ)
theorem g_newA (X : Stand p l e R s m args below meth c T locs cells slots) (hx : p.tables.exec = Jvm.exec) (hby : c.code = code) (hZ : Z.Warmed39 s.vm) {aty : ArrayType} {n : Int32} {cap : Nat} (w : (Cond.arrayClass (newarray.typeOf aty)).before a0 Z = true) (eT : T.heap = h) (hst : st = .int n :: st') (hn : ¬ n < 0) (hcap : n.toNatClampNeg ≤ cap) (hb8 : cap * 8 ≤ 536870912)
    (hc : cells + 1 ≤ R.cells) (hl : slots + cap ≤ R.slots) (hd : decode code pc = .ok (.newarray aty, 2)) (hp : pc + 2 = pc') (k : Nat)
    (g : ∀ (T' : State) (h' : Heap) (cA : ClassId) (a : Addr), Stand p l e R s m args below meth c T' locs (cells + 1) (slots + cap) → T'.heap = h' → Ext h h' → Arv Z h' a cA (newarray.typeOf aty) n ([] ++ List.replicate k (defaultValue (newarray.typeOf aty))) (defaultValue (newarray.typeOf aty)) → a = h.size → Gf p e below P T' m pc' Ls (.ref a :: st')) : Gf p e below P T m pc Ls st := by
  subst hp hst
  obtain ⟨T', h', cA, X', e', E', A', k'⟩ := newP X hx hZ w eT (g := mkF m pc Ls _) rfl (hb hby hd) rfl hn hcap hb8 hc hl
  exact Go.step k' (g T' h' cA h.size X' e' E' ((Arv.new A' hn).pad (pad_rep [] _ k)) rfl)
theorem g_stC (X : Stand p l e R s m args below meth c T locs cells slots) (hx : p.tables.exec = Jvm.exec) (hby : c.code = code) (hZ : Z.Warmed39 s.vm) {cA : ClassId} {n j x : Int32} {vs : List Value} {dv : Value} (eT : T.heap = h) (V : Arv Z h a cA .char n vs dv) (hj : ¬ j < 0 ∧ j < n) (i : Nat) (hi : j.toNatClampNeg = i) (hl : i < vs.length) (hst : st = .int x :: .int j :: .ref a :: st') (hd : decode code pc = .ok (.castore, 1)) (hp : pc + 1 = pc') {k0 : Nat} (N : Fr k0 locs) (q : k0 ≤ a)
    (g : ∀ (T' : State) (h' : Heap), Stand p l e R s m args below meth c T' (locs ++ [⟨a, j.toNatClampNeg⟩]) cells slots → T'.heap = h' → Wr h h' a j.toNatClampNeg (.int (nar .char x)) → Fr k0 (locs ++ [⟨a, j.toNatClampNeg⟩]) → Arv Z h' a cA .char n (vs.set i (.int (nar .char x))) dv → Gf p e below P T' m pc' Ls st') : Gf p e below P T m pc Ls st := by
  subst hp hst
  obtain ⟨c1, A1, q1, S1, M1, H1, U1⟩ := id V
  obtain ⟨T', h', X', e', W', k'⟩ := stC X hx hZ eT A1 (inb_of S1 hj) (g := mkF m pc Ls _) rfl rfl (hb hby hd)
  exact Go.step k' (g T' h' X' e' W' (Fr.snoc X' N q) (Arv.set A1 q1 S1 M1 H1 U1 (fits_nar_char _) W' i hi hl))
theorem g_stD (X : Stand p l e R s m args below meth c T locs cells slots) (hx : p.tables.exec = Jvm.exec) (hby : c.code = code) (hZ : Z.Warmed39 s.vm) {cA : ClassId} {n j : Int32} {x : UInt64} {vs : List Value} {dv : Value} (eT : T.heap = h) (V : Arv Z h a cA .double n vs dv) (hj : ¬ j < 0 ∧ j < n) (i : Nat) (hi : j.toNatClampNeg = i) (hl : i < vs.length) (hst : st = .double x :: .int j :: .ref a :: st') (hd : decode code pc = .ok (.dastore, 1)) (hp : pc + 1 = pc') {k0 : Nat} (N : Fr k0 locs) (q : k0 ≤ a)
    (g : ∀ (T' : State) (h' : Heap), Stand p l e R s m args below meth c T' (locs ++ [⟨a, j.toNatClampNeg⟩]) cells slots → T'.heap = h' → Wr h h' a j.toNatClampNeg (.double x) → Fr k0 (locs ++ [⟨a, j.toNatClampNeg⟩]) → Arv Z h' a cA .double n (vs.set i (.double x)) dv → Gf p e below P T' m pc' Ls st') : Gf p e below P T m pc Ls st := by
  subst hp hst
  obtain ⟨c1, A1, q1, S1, M1, H1, U1⟩ := id V
  obtain ⟨T', h', X', e', W', k'⟩ := stD X hx hZ eT A1 (inb_of S1 hj) (g := mkF m pc Ls _) rfl rfl (hb hby hd)
  exact Go.step k' (g T' h' X' e' W' (Fr.snoc X' N q) (Arv.set A1 q1 S1 M1 H1 U1 rfl W' i hi hl))
theorem g_ldD (X : Stand p l e R s m args below meth c T locs cells slots) (hx : p.tables.exec = Jvm.exec) (hby : c.code = code) (hZ : Z.Warmed39 s.vm) {cA : ClassId} {n j : Int32} {v : UInt64} {vs : List Value} {dv : Value} (eT : T.heap = h) (V : Arv Z h a cA .double n vs dv) (hj : ¬ j < 0 ∧ j < n) (hv : vs.getD j.toNatClampNeg dv = .double v) (hst : st = .int j :: .ref a :: st') (hd : decode code pc = .ok (.daload, 1)) (hp : pc + 1 = pc')
    (g : Gf p e below P T m pc' Ls (.double v :: st')) : Gf p e below P T m pc Ls st := by
  subst hp hst
  obtain ⟨c1, A1, q1, S1, M1, H1, U1⟩ := id V
  have hj' := inb_of S1 hj
  exact Go.step (fun t k => X.daload hx (a := a) (cell := c1) (j := j) (v := .double v) (by rw [eT]; exact A1.1) (State.isArrayOf_alike hZ.alike A1.2.1) A1.2.2 hj' (Has.at H1 hj' hv) (g := mkF m pc Ls _) rfl rfl (hb hby hd) t k) g
theorem g_absD (X : Stand p l e R s m args below meth c T locs cells slots) (hx : p.tables.exec = Jvm.exec) (hby : c.code = code) (hml : Ls.size = c.maxLocals) (hZ : Z.Warmed39 s.vm) (hown : s.vm.findClass own = some m.cls) {i : Nat} {x v : UInt64} (eT : T.heap = h) (w1 : (Cond.methodLink own i Jvm.Free.Fl.Abs.absDN).before a0 Z = true) (w2 : (Cond.static Jvm.Free.Fl.Abs.absDN).before a0 Z = true) (w3 : (Cond.initialized "java/lang/Math").before a0 Z = true) (w4 : (Cond.code Jvm.Free.Fl.Abs.absDN Jvm.Free.Fl.Abs.absDCode 2 (some .double)).before a0 Z = true)
    (hn : Jvm.Free.Fl.NoNaN64 x) (hv : x &&& 0x7fffffffffffffff = v) (hst : st = .double x :: st') {W : Nat} (hW : 2 * 0 + (st'.map fun v => v.category).sum = W) (hf : 1 ≤ R.frames) (hl : W + 13 ≤ R.locals) (hc : cells ≤ R.cells) (hs : slots ≤ R.slots) (hd : decode code pc = .ok (.invokestatic i, 3)) (hp : pc + 3 = pc')
    (g : ∀ (T' : State), Stand p l e R s m args below meth c T' locs cells slots → T'.heap = h → Gf p e below P T' m pc' Ls (.double v :: st')) : Gf p e below P T m pc Ls st := by
  subst hp hst hv
  obtain ⟨T', X', e', k⟩ := natS X hx hZ hown w1 w2 w3 w4 (by decide) eT (F := fun a' => a' = #[.double x] ∧ Jvm.Free.Fl.NoNaN64 x) (fun hcode => Jvm.Free.Fl.Abs.absD_pays x hcode hf hl) (g := mkF m pc Ls _) rfl hml (argsL := [.double x]) (rest := st') (lenOf (ps := [.double]) (r := some .double) (by decide +kernel) rfl) rfl (Nat.le_of_eq hW) (hb hby hd) hc hs ⟨rfl, hn⟩ rfl
  exact Go.step k (g T' X' e')
theorem g_maxD (X : Stand p l e R s m args below meth c T locs cells slots) (hx : p.tables.exec = Jvm.exec) (hby : c.code = code) (hml : Ls.size = c.maxLocals) (hZ : Z.Warmed39 s.vm) (hown : s.vm.findClass own = some m.cls) {i : Nat} {x y v : UInt64} (eT : T.heap = h) (w1 : (Cond.methodLink own i Jvm.Free.Fl.Abs.maxDN).before a0 Z = true) (w2 : (Cond.static Jvm.Free.Fl.Abs.maxDN).before a0 Z = true) (w3 : (Cond.initialized "java/lang/Math").before a0 Z = true) (w4 : (Cond.code Jvm.Free.Fl.Abs.maxDN Jvm.Free.Fl.Abs.maxDCode 4 (some .double)).before a0 Z = true)
    (hn : Jvm.Free.Fl.NoNaN64 x) (hm : Jvm.Free.Fl.NoNaN64 y) (hv : Jvm.Native.java_lang_Math.nans.pick64 true x y = v) (hst : st = .double y :: .double x :: st') {W : Nat} (hW : 2 * 0 + (st'.map fun v => v.category).sum = W) (hf : 1 ≤ R.frames) (hl : W + 15 ≤ R.locals) (hc : cells ≤ R.cells) (hs : slots ≤ R.slots) (hd : decode code pc = .ok (.invokestatic i, 3)) (hp : pc + 3 = pc')
    (g : ∀ (T' : State), Stand p l e R s m args below meth c T' locs cells slots → T'.heap = h → Gf p e below P T' m pc' Ls (.double v :: st')) : Gf p e below P T m pc Ls st := by
  subst hp hst hv
  obtain ⟨T', X', e', k⟩ := natS X hx hZ hown w1 w2 w3 w4 (by decide) eT (F := fun a' => a' = #[.double x, .double y] ∧ Jvm.Free.Fl.NoNaN64 x ∧ Jvm.Free.Fl.NoNaN64 y) (fun hcode => Jvm.Free.Fl.Abs.maxD_pays x y hcode hf hl) (g := mkF m pc Ls _) rfl hml (argsL := [.double x, .double y]) (rest := st') (lenOf (ps := [.double, .double]) (r := some .double) (by decide +kernel) rfl) rfl (Nat.le_of_eq hW) (hb hby hd) hc hs ⟨rfl, hn, hm⟩ rfl
  exact Go.step k (g T' X' e')
theorem g_pop2D (X : Stand p l e R s m args below meth c T locs cells slots) (hx : p.tables.exec = Jvm.exec) (hby : c.code = code) {x : UInt64} (hd : decode code pc = .ok (.pop2, 1)) (hst : st = .double x :: st') (hp : pc + 1 = pc') (g : Gf p e below P T m pc' Ls st') : Gf p e below P T m pc Ls st := by
  subst hp hst
  have hd' := hb hby hd
  refine Go.step (fun t k => ?_) g
  show Steps p.tables e below (T.setTop { method := m, pc := pc, locals := Ls, stack := .double x :: st', locked := none }) t
  jvm_step X.here [X.here.top, hx, hd', Value.category]
  exact k
/-! where a String constant may be loaded for the first time: the Stand lies over (s.setVm vm0) -/
theorem g_ldcS {vm0 : Vm} (X : Stand p l e R (s.setVm vm0) m args below meth c T locs cells slots) (hx : p.tables.exec = Jvm.exec) (hby : c.code = code) (hZ : Z.Warmed39 vm0) (hown : vm0.findClass own = some m.cls) {i n : Nat} {text : String} (w : (Cond.stringLink own i text).before a0 Z = true) (wS : ∀ a ∈ Bundle.stringAtoms, a.before a0 Z = true) (eT : T.heap = h) {k0 : Nat} (hS : s.Since vm0 k0) (hk : k0 ≤ h.size)
    (hd : decode code pc = .ok (.ldc i, 2)) (hp : pc + 2 = pc') (hn : 4 * text.toList.length ≤ n) (hbig : n ≤ 536870912) (hc : cells + 2 ≤ R.cells) (hl : slots + (n + 4) ≤ R.slots)
    (g : ∀ (a : Addr) (T' : State) (h' : Heap) (k1 : Nat), Stand p l e R (s.setVm T'.vm) m args below meth c T' locs (cells + 2) (slots + (n + 4)) → T'.heap = h' → Ext h h' → s.Since T'.vm k1 → k1 ≤ h'.size → Z.Warmed39 (s.setVm T'.vm).vm → (s.setVm T'.vm).vm.findClass own = some m.cls → Gf p e below P T' m pc' Ls (.ref a :: st)) : Gf p e below P T m pc Ls st := by
  subst hp
  obtain ⟨a, T', h', k1, X', e', E', hS', hk', hZ', hown', k⟩ := ldcS X hx hZ hown w wS eT hS hk (g := mkF m pc Ls st) rfl (hb hby hd) hn hbig hc hl
  exact Go.step k (g a T' h' k1 X' e' E' hS' hk' hZ' hown')
def ConW (l : Launch) (Z : State) (y : MethodName) (bytes : ByteArray) (maxL : Nat) (ret : Option FieldType) (ws : List Cond) (rm : Room) (as : Array Value) (h : Heap) (Q : Option Value → Heap → List Loc → Prop) : Prop :=
  MetFree l y (head1 (Cond.code y bytes maxL ret :: ws) rm) (fun a U => a = as ∧ Z.Warmed39 U.vm ∧ U.heap = h) (fun _ _ _ _ _ => True) (fun _ U o U' => ∃ v L, o = .returned v ∧ Q v U'.heap L ∧ ReturnedEndW U o U' L rm.cells rm.slots)
def FinW (l : Launch) (s : State) (rm : Room) (Q : Option Value → Heap → List Loc → Prop) (P : Outcome → State → Prop) : Prop := ∀ o U, (∃ v L, o = .returned v ∧ Q v U.heap L ∧ ReturnedEndW s o U L rm.cells rm.slots) → P o U
theorem ConW.start {y : MethodName} {bytes : ByteArray} {maxL : Nat} {ret : Option FieldType} {ws : List Cond} {as : Array Value} (Ls : Array Slot) (hn : plainFor y = true) (hef : ∀ m, entryFrame m as maxL = mkF m 0 Ls [])
    (k : ∀ (p : Program) (e : Env) (s : State) (m : MethodId) (below : List Frame) (meth : Method) (c : Code) (s₁ : State) (P : Outcome → State → Prop), Stand p l e rm (s.setVm s.vm) m as below meth c s₁ [] 0 0 → p.tables.exec = Jvm.exec → c.code = bytes → c.maxLocals = maxL → meth.sig.returnType = ret → meth.locks = false → (s.setVm s.vm).vm.findClass y.cls = some m.cls → meth.name = y.name → Z.Warmed39 (s.setVm s.vm).vm → s₁.heap = h → FinW l s rm Q P → s.Since s.vm 0 → Gf p e below P s₁ m 0 Ls []) :
    ConW l Z y bytes maxL ret ws rm as h Q := by
  refine MetFree.of_bodySF hn hisR ?_
  intro p e s m args below meth c s₁ Bd hml0 hP hK
  obtain ⟨rfl, hZ, hh⟩ := hP
  have e0 : s₁.heap = h := by rw [← hh, Bd.state]; rfl
  obtain ⟨s2, o, h1, h2⟩ := k p e s m below meth c s₁ _ (Stand.of_body Bd) Bd.exec Bd.bytes hml0 Bd.returns (BodyLoose.notSynchronized Bd) (findClass_of_methodNamed Bd.named) (name_of_methodNamed Bd.named Bd.method).1 hZ e0 (fun o U q => q) ((State.WarmedH.refl s).since 0)
  exact ⟨s2, o, castTop (hef m) h1, h2⟩
theorem own_endW {s t : State} {o : Outcome} {L : List Loc} {k n k' n' : Nat} (h : ReturnedEndW s o t L k n) (hk : k ≤ k') (hn : n ≤ n') : ReturnedEndW s o t L k' n' := ⟨h.1, h.2.1, h.2.2.1, h.2.2.2.mono hk hn⟩
theorem g_retVW {vm0 : Vm} (X : Stand p l e R (s.setVm vm0) m args below meth c T locs cells slots) (hx : p.tables.exec = Jvm.exec) (hby : c.code = code) {k0 : Nat} (hS : s.Since vm0 k0) (hk : k0 ≤ h.size) (hf : FinW l s rm Q P) (hlk : meth.locks = false) {t : FieldType} {i : Instr} {w : Value} (hret : meth.sig.returnType = some t) (hd : decode code pc = .ok (i, 1)) (hst : st = w :: st') (hn : narrow t w = w)
    (hi : (i = .ireturn ∧ (t = .int ∨ t = .boolean ∨ t = .byte ∨ t = .char ∨ t = .short) ∧ ∃ z, w = .int z) ∨ (i = .lreturn ∧ t = .long ∧ ∃ z, w = .long z) ∨ (i = .dreturn ∧ t = .double ∧ ∃ z, w = .double z) ∨ (i = .freturn ∧ t = .float ∧ ∃ z, w = .float z) ∨ (i = .areturn ∧ t.isReference = true ∧ w.isRef = true))
    (hc : cells ≤ rm.cells) (hs : slots ≤ rm.slots) (eT : T.heap = h) (q : Q (some w) h locs) : Gf p e below P T m pc Ls st := by
  subst hst
  obtain ⟨fs, hr, hrun, hended, hE⟩ := X.leaveW hS (by rw [eT]; exact hk) (v := some w) (fun q => by rw [hret] at q; cases q) hlk
  exact ⟨_, _, retOut X hx hret hn hi (hb hby hd) hr, hrun, hended, hf _ _ ⟨_, _, rfl, by show Q (some w) T.heap locs; rw [eT]; exact q, own_endW hE hc hs⟩⟩
theorem g_retZW {vm0 : Vm} (X : Stand p l e R (s.setVm vm0) m args below meth c T locs cells slots) (hx : p.tables.exec = Jvm.exec) (hby : c.code = code) {k0 : Nat} (hS : s.Since vm0 k0) (hk : k0 ≤ h.size) (hf : FinW l s rm Q P) (hlk : meth.locks = false) {t : FieldType} {z w : Int32} (hret : meth.sig.returnType = some t) (hd : decode code pc = .ok (.ireturn, 1)) (hst : st = .int z :: st') (ht : t = .boolean ∨ t = .byte ∨ t = .char ∨ t = .short)
    (hw : nar t z = w) (hc : cells ≤ rm.cells) (hs : slots ≤ rm.slots) (eT : T.heap = h) (q : Q (some (.int w)) h locs) : Gf p e below P T m pc Ls st := by
  subst hst hw
  obtain ⟨fs, hr, hrun, hended, hE⟩ := X.leaveW hS (by rw [eT]; exact hk) (v := some (.int (nar t z))) (fun q => by rw [hret] at q; cases q) hlk
  exact ⟨_, _, retN X hx hret ht (hb hby hd) hr, hrun, hended, hf _ _ ⟨_, _, rfl, by show Q (some (.int (nar t z))) T.heap locs; rw [eT]; exact q, own_endW hE hc hs⟩⟩
theorem g_retW {vm0 : Vm} (X : Stand p l e R (s.setVm vm0) m args below meth c T locs cells slots) (hx : p.tables.exec = Jvm.exec) (hby : c.code = code) {k0 : Nat} (hS : s.Since vm0 k0) (hk : k0 ≤ h.size) (hf : FinW l s rm Q P) (hlk : meth.locks = false) (hret : meth.sig.returnType = none) (hd : decode code pc = .ok (.return_, 1)) (hst : st = [])
    (hc : cells ≤ rm.cells) (hs : slots ≤ rm.slots) (eT : T.heap = h) (q : Q none h locs) : Gf p e below P T m pc Ls st := by
  subst hst
  obtain ⟨fs, hr, hrun, hended, hE⟩ := X.leaveW hS (by rw [eT]; exact hk) (v := none) (fun _ => rfl) hlk
  exact ⟨_, _, X.returnOut hx hret (hb hby hd) hr, hrun, hended, hf _ _ ⟨_, _, rfl, by show Q none T.heap locs; rw [eT]; exact q, own_endW hE hc hs⟩⟩
theorem g_initW {vm0 : Vm} (X : Stand p l e R (s.setVm vm0) m args below meth c T locs cells slots) (hx : p.tables.exec = Jvm.exec) (hby : c.code = code) (hml : Ls.size = c.maxLocals) (hZ : Z.Warmed39 (s.setVm vm0).vm) (hown : (s.setVm vm0).vm.findClass own = some m.cls) {k0 : Nat} (hS : s.Since vm0 k0) (hk : k0 ≤ h.size) {i : Nat} {y : MethodName} {bytes : ByteArray} {maxL W : Nat} {ps : List FieldType} {argsL : List Value} (hy1 : y.name = "<init>") (eT : T.heap = h)
    (hM : ConW l Z y bytes maxL none [] rm (.ref a :: argsL).toArray h Q) (w1 : (Cond.methodLink own i y).before a0 Z = true) (w2 : (Cond.instanceMethod y).before a0 Z = true) (w3 : (Cond.initialized y.cls).before a0 Z = true) (w4 : (Cond.code y bytes maxL none).before a0 Z = true) (hy : y.cls ≠ "java/lang/invoke/MethodHandle" ∧ y.cls ≠ "java/lang/invoke/VarHandle")
    (hpd : parseMethodDescriptor y.desc = some ⟨ps, none⟩) (hlen : argsL.length = ps.length) (hst : st = argsL.reverse ++ .ref a :: st') (hW : 2 * 0 + (st'.map fun v => v.category).sum = W) (hf : rm.frames + 1 ≤ R.frames) (hl : W + (maxL + 11) + rm.locals ≤ R.locals) (hc : cells + rm.cells ≤ R.cells) (hs : slots + rm.slots ≤ R.slots)
    (hd : decode code pc = .ok (.invokespecial i, 3)) (hp : pc + 3 = pc')
    (g : ∀ (T' : State) (v : Option Value) (L : List Loc), Stand p l e R (s.setVm T'.vm) m args below meth c T' (locs ++ L) (cells + rm.cells) (slots + rm.slots) → Q v T'.heap L → s.Since T'.vm T'.heap.size → Z.Warmed39 (s.setVm T'.vm).vm → (s.setVm T'.vm).vm.findClass own = some m.cls → Gf p e below P T' m pc' Ls (v.toList ++ st')) : Gf p e below P T m pc Ls st := by
  subst hp hst
  obtain ⟨v, _, ⟨T', L', k', n'⟩, -, X', hS', hgr, ⟨Lc, hQ, hl', hy', hz'⟩, k⟩ := X.specialBackS hx (y := y) hy1 hown (mvT hZ w1) (mvT hZ w2) (mvT hZ w4) hy (backOfS (W := W) hM hZ w4 w3 hf hl) (g := mkF m pc Ls _) rfl hml (Steps.refl _) (a := a) (argsL := argsL) (rest := st') (lenOf hpd hlen) rfl (Nat.le_of_eq hW) (hb hby hd) (fun _ _ => ⟨rfl, eT, hc, hs⟩)
  dsimp only [Pt.U, Pt.locs, Pt.cells, Pt.slots] at X' hl' hy' hz' k hQ hS' hgr
  subst hl' hy' hz'
  have hZ' : Z.Warmed39 (s.setVm T'.vm).vm := State.Warmed39.trans (t := s.setVm vm0) hZ hS'.1
  exact Go.step (fun t k2 => k.trans k2) (g T' v Lc X' hQ (foldS hS (by rw [eT]; exact hk) hS' hgr) hZ' (by rw [show (s.setVm T'.vm).vm = T'.vm from rfl, hS'.1.alike.findClass]; exact hown))
theorem own_join {G : Prop} (P : Outcome → State → Prop) (X : Stand p l e R s m args below meth c T locs cells slots) (eT : T.heap = h) (pc : Nat) (Ls : Array Slot) (st : List Value) (J : ∀ T', Stand p l e R s m args below meth c T' locs cells slots → T'.heap = h → Gf p e below P T' m pc Ls st)
    (k : (∀ T', Stand p l e R s m args below meth c T' locs cells slots → T'.heap = h → Gf p e below P T' m pc Ls st) → G) : G := k J
end Steps1
theorem own_sta_keep {Z : State} {h h' : Heap} {ws : List Addr} {C n d : String} {v : Value} (F : Sta Z h C n d v) (K : Keep h h' ws) (q : ∀ x ∈ ws, ∃ C', Exa Z h x C') : Sta Z h' C n d v := by
  obtain ⟨cf, i, k, f, st, cell, h1, h2, h3, h4, h5, h6, h7⟩ := F
  refine ⟨cf, i, k, f, st, cell, h1, h2, h3, h4, K.2.1 st cell h5 fun hm => ?_, h6, h7⟩
  obtain ⟨C', cell', _, g1, -, -, g4, -⟩ := q st hm
  cases h5.symm.trans g1
  rw [g4] at h6
  cases h6
theorem own_ef {m : MethodId} {as : Array Value} {n : Nat} {Ls : Array Slot} (h : Jvm.Sym.laidSlots as.toList ++ List.replicate (n - (Jvm.Sym.laidSlots as.toList).length) .unset = Ls.toList) : entryFrame m as n = mkF m 0 Ls [] := by
  have e : argsToLocals as n = Ls := Array.toList_inj.mp (by rw [Jvm.Sym.argsToLocals_toList]; exact h)
  first | exact congrArg (fun L => mkF m 0 L []) e | (show mkF m 0 (argsToLocals as n) [] = mkF m 0 Ls []; rw [e])
theorem own_fitZ {z : Int32} (h : z = 0 ∨ z = 1) : fits .boolean (.int z) = true := by rcases h with rfl | rfl <;> rfl
theorem own_narZ {z : Int32} (h : z = 0 ∨ z = 1) : narrow .boolean (.int z) = .int z := by rcases h with rfl | rfl <;> rfl
theorem own_nar {z : Int32} (h : z = 0 ∨ z = 1) : nar .boolean z = z := by rcases h with rfl | rfl <;> rfl
theorem own_01 {c : Prop} [Decidable c] {z : Int32} (h : z = if c then 0 else 1) : z = 0 ∨ z = 1 := by subst h; split <;> simp
theorem own_10 {c : Prop} [Decidable c] {z : Int32} (h : z = if c then 1 else 0) : z = 0 ∨ z = 1 := by subst h; split <;> simp
end Jvm.Own
namespace Jvm.Own
open Jvm.FP Jvm.FP.Core
/-- a double's value in units of 2^(-1074) -/
abbrev zv (a : UInt64) : Int := zval b64 (val64 a)
theorem own_qmin : b64.qmin = -1074 := by decide +kernel
theorem own_qmax : b64.qmax = 971 := by decide +kernel
theorem ring1 {za zb d d' n n' o zV : Int} (h1 : za * d = n * o) (h2 : zb * d' = n' * o) (h3 : zV * (d * d') = n * n' * o) : za * zb * (d * d') = zV * o * (d * d') := by
  calc za * zb * (d * d') = (za * d) * (zb * d') := by ac_rfl
    _ = n * o * (n' * o) := by rw [h1, h2]
    _ = (n * n' * o) * o := by ac_rfl
    _ = zV * o * (d * d') := by rw [← h3]; ac_rfl
theorem ring2 {za zb d d' k n n' m o zV : Int} (h1 : za * d = n * o) (h2 : zb * d' = n' * o) (h3 : zV * k = m * o) (h : m * (d * n') = n * (d' * k)) : za * o * (d * (d' * k)) = zV * zb * (d * (d' * k)) := by
  calc za * o * (d * (d' * k)) = (za * d) * (o * (d' * k)) := by ac_rfl
    _ = (n * (d' * k)) * (o * o) := by rw [h1]; ac_rfl
    _ = (m * (d * n')) * (o * o) := by rw [h]
    _ = (m * o) * ((n' * o) * d) := by ac_rfl
    _ = (zV * k) * ((zb * d') * d) := by rw [h2, h3]
    _ = zV * zb * (d * (d' * k)) := by ac_rfl
theorem ring3 {z d d' n o : Int} (h : z * d = n * o) : z * (d * d') = n * d' * o := by rw [← Int.mul_assoc, h]; ac_rfl
theorem ring4 {z d d' n o : Int} (h : z * d' = n * o) : z * (d * d') = n * d * o := by rw [Int.mul_comm d, ← Int.mul_assoc, h]; ac_rfl
theorem own_fin {a : UInt64} (h : DFin a) : ∃ s c q, val64 a = .fin s c q ∧ Jvm.FP.Core.fits b64 (.fin s c q) := by
  obtain ⟨s, c, q, h⟩ := h
  exact ⟨s, c, q, h, h ▸ val64_fits a⟩
/-- what has a finite number's value is finite -/
theorem own_fin_of {x V : UInt64} (hx : val64 x ≠ .nan) (hV : DFin V) (h : (zv x).natAbs ≤ (zv V).natAbs) : DFin x := by
  have h1 := hV.zval_lt
  cases hv : val64 x with
  | nan => exact absurd hv hx
  | fin s c q => exact ⟨s, c, q, hv⟩
  | inf s =>
    exfalso
    unfold zv zval at h
    rw [natAbs_signed, natAbs_signed, hv] at h
    have h2 : b64.tails * 2 ^ (b64.exps - 2) ≤ zmag b64 (val64 V) := h
    exact absurd h1 (Nat.not_lt.mpr h2)
/-- Rv a n d: a is finite and of the value n / d -/
def Rv (a : UInt64) (n : Int) (d : Nat) : Prop := DFin a ∧ zv a * (d : Int) = n * (one64 : Int)
theorem one_pos : 0 < (one64 : Int) := Int.natCast_pos.mpr one64_pos
theorem round_units {s : Bool} {c : Nat} {q e0 : Int} {V : UInt64} (hV : DFin V) (h0 : e0 ≤ b64.qmin) (h0e : e0 ≤ q) (h : signed s (inUnits c q e0) = zv V * ((2 ^ (b64.qmin - e0).toNat : Nat) : Int)) : zval b64 (round b64 (.fin s c q)) = zv V := by
  have h1 := zval_round_le good_b64 (V := val64 V) (val64_fits V) hV.ne_nan h0 h0e (Int.le_of_eq h)
  have h2 := zval_round_ge good_b64 (V := val64 V) (val64_fits V) hV.ne_nan h0 h0e (Int.le_of_eq h.symm)
  exact Int.le_antisymm h1 h2
theorem dadd_zv {a b V : UInt64} (ha : DFin a) (hb : DFin b) (hV : DFin V) (h : zv a + zv b = zv V) : DFin (FP.dadd a b) ∧ zv (FP.dadd a b) = zv V := by
  have hn : val64 (FP.dadd a b) ≠ .nan := (notNaN_iff _).mp (dadd_out ha.notNaN hb)
  obtain ⟨s, c, q, h1, f1⟩ := own_fin ha
  obtain ⟨t, d, r, h2, f2⟩ := own_fin hb
  obtain ⟨sg, n, e, p1, p2, p3⟩ := sum_units f1 f2
  have hz : zv (FP.dadd a b) = zv V := by
    show zval b64 (val64 (Core.dadd a b)) = _
    rw [val64_dadd, h1, h2, p1]
    refine round_units hV (Int.le_refl _) p2 ?_
    rw [p3, Int.sub_self, Int.toNat_zero, Nat.pow_zero, ← h, ← h1, ← h2]
    exact (Int.mul_one _).symm
  exact ⟨own_fin_of hn hV (Nat.le_of_eq (by rw [hz])), hz⟩
theorem zv_dneg (a : UInt64) : zv (FP.dneg a) = -zv a := by
  show zval b64 (val64 (FP.dneg a)) = _
  rw [Jvm.FP.val64_dneg, zval_negate]
theorem fin_dneg {a : UInt64} (h : DFin a) : DFin (FP.dneg a) := by
  obtain ⟨s, c, q, h⟩ := h
  exact ⟨!s, c, q, by rw [Jvm.FP.val64_dneg, h]; rfl⟩
theorem dsub_zv {a b V : UInt64} (ha : DFin a) (hb : DFin b) (hV : DFin V) (h : zv a - zv b = zv V) : DFin (FP.dsub a b) ∧ zv (FP.dsub a b) = zv V := by
  have e : FP.dsub a b = FP.dadd a (FP.dneg b) := by rw [Jvm.FP.dneg_core hb.notNaN]; exact dsub_eq a b
  rw [e]
  refine dadd_zv ha (fin_dneg hb) hV ?_
  rw [zv_dneg]; omega
theorem dmul_zv {a b V : UInt64} (ha : DFin a) (hb : DFin b) (hV : DFin V) (h : zv a * zv b = zv V * (one64 : Int)) : DFin (FP.dmul a b) ∧ zv (FP.dmul a b) = zv V := by
  have hn : val64 (FP.dmul a b) ≠ .nan := (notNaN_iff _).mp (dmul_out ha hb)
  obtain ⟨s, c, q, h1, f1⟩ := own_fin ha
  obtain ⟨t, d, r, h2, f2⟩ := own_fin hb
  obtain ⟨p1, p2, p3⟩ := product_units f1 f2
  have hz : zv (FP.dmul a b) = zv V := by
    show zval b64 (val64 (Core.dmul a b)) = _
    rw [val64_dmul, h1, h2, p1]
    refine round_units hV (by have := own_qmin; omega) p2 ?_
    rw [p3, signed_xor, show (b64.qmin - 2 * b64.qmin).toNat = (-b64.qmin).toNat by omega, pow_qmin64, ← h]
    show _ = zval b64 (val64 a) * zval b64 (val64 b)
    rw [h1, h2]; rfl
  exact ⟨own_fin_of hn hV (Nat.le_of_eq (by rw [hz])), hz⟩
/-- the quotient of two finite numbers, as a rounding -/
theorem ddiv_val {a b : UInt64} {s t : Bool} {c d : Nat} {q r : Int} (h1 : val64 a = .fin s c q) (h2 : val64 b = .fin t d r) (hd : d ≠ 0) : val64 (FP.ddiv a b) = roundRatio b64 (s != t) c d (q - r) := by
  show val64 (Core.ddiv a b) = _
  rw [val64_ddiv, h1, h2]
  simp only [quotient, if_neg hd]
theorem zero_of {b : UInt64} {t : Bool} {d : Nat} {r : Int} (h2 : val64 b = .fin t d r) (hz : zv b ≠ 0) : d ≠ 0 := by
  intro h0
  apply hz
  show zval b64 (val64 b) = 0
  rw [h2, h0]
  show signed t (inUnits 0 r b64.qmin) = 0
  unfold inUnits
  rw [Nat.zero_mul, signed_zero]
theorem zv_mag {a : UInt64} {s : Bool} {c : Nat} {q : Int} (h : val64 a = .fin s c q) : zv a = signed s (inUnits c q b64.qmin) := by
  show zval b64 (val64 a) = _
  rw [h]; rfl
theorem ddiv_units {a b : UInt64} {s t : Bool} {c d : Nat} {q r : Int} (f1 : Jvm.FP.Core.fits b64 (.fin s c q)) (f2 : Jvm.FP.Core.fits b64 (.fin t d r)) :
    (2 * b64.qmin - r ≤ b64.qmin ∧ 2 * b64.qmin - r ≤ q - r) ∧ inUnits c (q - r) (2 * b64.qmin - r) = inUnits c q b64.qmin * one64 ∧ ∀ V : Nat, V * 2 ^ (b64.qmin - (2 * b64.qmin - r)).toNat * d = V * inUnits d r b64.qmin := by
  have hx1 := f1.2.1
  have hy1 := f2.2.1
  refine ⟨⟨by omega, by have := own_qmin; omega⟩, ?_, fun V => ?_⟩
  · rw [← pow_qmin64]; unfold inUnits
    rw [Nat.mul_assoc, ← Nat.pow_add]; congr 2; have := own_qmin; omega
  · unfold inUnits
    rw [Nat.mul_assoc, Nat.mul_comm _ d]; congr 3; omega
theorem ddiv_zv_le {a b V : UInt64} (ha : DFin a) (hb : DFin b) (hz : zv b ≠ 0) (hV : DFin V) (h : (zv a).natAbs * one64 ≤ (zv V).natAbs * (zv b).natAbs) : (zv (FP.ddiv a b)).natAbs ≤ (zv V).natAbs := by
  obtain ⟨s, c, q, h1, f1⟩ := own_fin ha
  obtain ⟨t, d, r, h2, f2⟩ := own_fin hb
  obtain ⟨u, k, w, h3, f3⟩ := own_fin hV
  have hd := zero_of h2 hz
  obtain ⟨⟨p1, p2⟩, p3, p4⟩ := ddiv_units (a := a) (b := b) f1 f2
  have hv := ddiv_val h1 h2 hd
  rw [zv_mag h1, zv_mag h2, zv_mag h3, natAbs_signed, natAbs_signed, natAbs_signed] at h
  unfold zv zval
  rw [natAbs_signed, natAbs_signed, hv, h3]
  refine zmag_roundRatio_le good_b64 (Nat.pos_of_ne_zero hd) f3 (by simp) p1 p2 ?_
  rw [p3, p4]
  exact h
theorem ddiv_zv_ge {a b V : UInt64} (ha : DFin a) (hb : DFin b) (hz : zv b ≠ 0) (hV : DFin V) (h : (zv V).natAbs * (zv b).natAbs ≤ (zv a).natAbs * one64) : (zv V).natAbs ≤ (zv (FP.ddiv a b)).natAbs := by
  obtain ⟨s, c, q, h1, f1⟩ := own_fin ha
  obtain ⟨t, d, r, h2, f2⟩ := own_fin hb
  obtain ⟨u, k, w, h3, f3⟩ := own_fin hV
  have hd := zero_of h2 hz
  obtain ⟨⟨p1, p2⟩, p3, p4⟩ := ddiv_units (a := a) (b := b) f1 f2
  have hv := ddiv_val h1 h2 hd
  rw [zv_mag h1, zv_mag h2, zv_mag h3, natAbs_signed, natAbs_signed, natAbs_signed] at h
  unfold zv zval
  rw [natAbs_signed, natAbs_signed, hv, h3]
  refine zmag_roundRatio_ge good_b64 (Nat.pos_of_ne_zero hd) f3 p1 p2 ?_
  rw [p3, p4]
  exact h
/-- the sign of a quotient -/
theorem ddiv_sign {a b : UInt64} (ha : DFin a) (hb : DFin b) (hz : zv b ≠ 0) : (0 ≤ zv a → 0 < zv b → 0 ≤ zv (FP.ddiv a b)) ∧ (zv a ≤ 0 → 0 < zv b → zv (FP.ddiv a b) ≤ 0) ∧ (0 ≤ zv a → zv b < 0 → zv (FP.ddiv a b) ≤ 0) ∧ (zv a ≤ 0 → zv b < 0 → 0 ≤ zv (FP.ddiv a b)) := by
  obtain ⟨s, c, q, h1, f1⟩ := own_fin ha
  obtain ⟨t, d, r, h2, f2⟩ := own_fin hb
  have hd := zero_of h2 hz
  have hv := ddiv_val h1 h2 hd
  have e3 : zv (FP.ddiv a b) = signed (s != t) (zmag b64 (val64 (FP.ddiv a b))) := by
    show signed (sgn (val64 (FP.ddiv a b))) _ = _
    rw [hv, sgn_roundRatio]
  have k0 : zv a = 0 → zv (FP.ddiv a b) = 0 := fun e => by
    have := ddiv_zv_le ha hb hz ha (by rw [e]; simp)
    rw [e] at this; omega
  have e1 := zv_mag h1
  have e2 := zv_mag h2
  cases s <;> cases t <;> simp [signed] at e1 e2 e3 <;> refine ⟨fun x y => ?_, fun x y => ?_, fun x y => ?_, fun x y => ?_⟩ <;> first | omega | (have := k0 (by omega); omega)
theorem ddiv_nn {a b : UInt64} (ha : DFin a) (hb : DFin b) (hz : zv b ≠ 0) : val64 (FP.ddiv a b) ≠ .nan := by
  obtain ⟨s, c, q, h1, f1⟩ := own_fin ha
  obtain ⟨t, d, r, h2, f2⟩ := own_fin hb
  rw [ddiv_val h1 h2 (zero_of h2 hz)]
  exact roundRatio_ne_nan _ _ _ _ _
theorem ddiv_zv {a b V : UInt64} (ha : DFin a) (hb : DFin b) (hz : zv b ≠ 0) (hV : DFin V) (h : zv a * (one64 : Int) = zv V * zv b) : DFin (FP.ddiv a b) ∧ zv (FP.ddiv a b) = zv V := by
  have hm : (zv a).natAbs * one64 = (zv V).natAbs * (zv b).natAbs := by
    have := congrArg Int.natAbs h
    rw [Int.natAbs_mul, Int.natAbs_mul, Int.natAbs_natCast] at this
    exact this
  have l1 := ddiv_zv_le ha hb hz hV (Nat.le_of_eq hm)
  have l2 := ddiv_zv_ge ha hb hz hV (Nat.le_of_eq hm.symm)
  have hn := ddiv_nn ha hb hz
  obtain ⟨s1, s2, s3, s4⟩ := ddiv_sign ha hb hz
  have p := one_pos
  refine ⟨own_fin_of hn hV l1, ?_⟩
  rcases Int.lt_or_gt_of_ne hz with hb' | hb'
  · rcases Int.le_total 0 (zv a) with ha' | ha'
    · have := s3 ha' hb'
      have : zv V ≤ 0 := by
        apply Int.not_lt.mp; intro hv
        have h1 := Int.mul_neg_of_pos_of_neg hv hb'
        have h2 := Int.mul_nonneg ha' (Int.le_of_lt p)
        omega
      omega
    · have := s4 ha' hb'
      have : 0 ≤ zv V := by
        apply Int.not_lt.mp; intro hv
        have h1 := Int.mul_pos_of_neg_of_neg hv hb'
        have h2 := Int.mul_nonpos_of_nonpos_of_nonneg ha' (Int.le_of_lt p)
        omega
      omega
  · rcases Int.le_total 0 (zv a) with ha' | ha'
    · have := s1 ha' hb'
      have : 0 ≤ zv V := by
        apply Int.not_lt.mp; intro hv
        have h1 := Int.mul_neg_of_neg_of_pos hv hb'
        have h2 := Int.mul_nonneg ha' (Int.le_of_lt p)
        omega
      omega
    · have := s2 ha' hb'
      have : zv V ≤ 0 := by
        apply Int.not_lt.mp; intro hv
        have h1 := Int.mul_pos hv hb'
        have h2 := Int.mul_nonpos_of_nonpos_of_nonneg ha' (Int.le_of_lt p)
        omega
      omega
/-- there is a double of each value m * 2^(e - 1074) -/
theorem rep (m : Int) (e : Nat) (hm : m.natAbs < 2 ^ 53) (he : e ≤ 2045) : ∃ V : UInt64, DFin V ∧ zv V = m * ((2 ^ e : Nat) : Int) := by
  have hq := own_qmin
  obtain ⟨c', q', h1, h2⟩ := round_exact good_b64 (decide (m < 0)) (c := m.natAbs) (q := (e : Int) - 1074) hm (by omega) (by rw [own_qmax]; omega)
  have hf := round_fits good_b64 (.fin (decide (m < 0)) m.natAbs ((e : Int) - 1074))
  have hv : val64 (of64 (round b64 (.fin (decide (m < 0)) m.natAbs ((e : Int) - 1074)))) = .fin (decide (m < 0)) c' q' := (val64_of64 hf).trans h1
  refine ⟨_, ⟨_, _, _, hv⟩, ?_⟩
  rw [zv_mag hv, h2]
  unfold inUnits
  rw [show ((e : Int) - 1074 - b64.qmin).toNat = e by omega, signed_mul]
  congr 1
  unfold signed
  by_cases h : m < 0 <;> simp [h] <;> omega
theorem rv_fin {a : UInt64} {n : Int} {d : Nat} (h : Rv a n d) : DFin a := h.1
theorem ex_rv (n : Int) (k : Nat) (hn : n.natAbs < 2 ^ 53) (hk : k ≤ 1074) : ∃ V, Rv V n (2 ^ k) := by
  obtain ⟨V, h1, h2⟩ := rep n (1074 - k) hn (by omega)
  refine ⟨V, h1, ?_⟩
  rw [h2, Int.mul_assoc, ← Int.natCast_mul, ← Nat.pow_add, show 1074 - k + k = 1074 by omega]; rfl
theorem ex_rvU (n : Int) (j : Nat) (hn : n.natAbs < 2 ^ 53) (hk : j ≤ 971) : ∃ V, Rv V (n * ((2 ^ j : Nat) : Int)) 1 := by
  obtain ⟨V, h1, h2⟩ := rep n (1074 + j) hn (by omega)
  refine ⟨V, h1, ?_⟩
  rw [h2, Nat.pow_add, Int.natCast_mul, Int.mul_comm ((2 ^ 1074 : Nat) : Int), ← Int.mul_assoc]
  exact Int.mul_one _
theorem rv_unique {a b : UInt64} {n : Int} {d : Nat} (hd : 0 < d) (ha : Rv a n d) (hb : Rv b n d) : zv a = zv b := by
  have h := ha.2.trans hb.2.symm
  exact Int.eq_of_mul_eq_mul_right (by omega) h
theorem rv_scale {a : UInt64} {n : Int} {d : Nat} (k : Nat) (h : Rv a n d) : Rv a (n * (k : Int)) (d * k) := by
  refine ⟨h.1, ?_⟩
  rw [Int.natCast_mul, ← Int.mul_assoc, h.2, Int.mul_assoc, Int.mul_assoc, Int.mul_comm (k : Int)]
theorem rv_unscale {a : UInt64} {n : Int} {d : Nat} (k : Nat) (hk : 0 < k) (h : Rv a (n * (k : Int)) (d * k)) : Rv a n d := by
  refine ⟨h.1, ?_⟩
  have h2 := h.2
  rw [Int.natCast_mul, ← Int.mul_assoc, Int.mul_assoc n, Int.mul_comm (k : Int) (one64 : Int), ← Int.mul_assoc] at h2
  exact Int.eq_of_mul_eq_mul_right (by omega) h2
theorem rv_i2d (n : Int32) : Rv (FP.i2d n) n.toInt 1 := ⟨i2d_fin n, by rw [show ((1 : Nat) : Int) = 1 from rfl, Int.mul_one]; exact DInt_zval (i2d_int n)⟩
theorem rv_l2d {n : Int64} (h : n.toInt.natAbs ≤ 2 ^ 53) : Rv (FP.l2d n) n.toInt 1 := ⟨l2d_fin n, by rw [show ((1 : Nat) : Int) = 1 from rfl, Int.mul_one]; exact DInt_zval (l2d_int h)⟩
theorem rv_neg {a : UInt64} {n : Int} {d : Nat} (h : Rv a n d) : Rv (FP.dneg a) (-n) d := ⟨fin_dneg h.1, by rw [zv_dneg, Int.neg_mul, Int.neg_mul, h.2]⟩
theorem rv_add {a b V : UInt64} {n n' : Int} {d : Nat} (hd : 0 < d) (ha : Rv a n d) (hb : Rv b n' d) (hV : Rv V (n + n') d) : Rv (FP.dadd a b) (n + n') d := by
  have e : zv a + zv b = zv V := by
    refine Int.eq_of_mul_eq_mul_right (a := (d : Int)) (by omega) ?_
    rw [Int.add_mul, ha.2, hb.2, hV.2, Int.add_mul]
  obtain ⟨h1, h2⟩ := dadd_zv ha.1 hb.1 hV.1 e
  exact ⟨h1, by rw [h2]; exact hV.2⟩
theorem rv_sub {a b V : UInt64} {n n' : Int} {d : Nat} (hd : 0 < d) (ha : Rv a n d) (hb : Rv b n' d) (hV : Rv V (n - n') d) : Rv (FP.dsub a b) (n - n') d := by
  have e : zv a - zv b = zv V := by
    refine Int.eq_of_mul_eq_mul_right (a := (d : Int)) (by omega) ?_
    rw [Int.sub_mul, ha.2, hb.2, hV.2, Int.sub_mul]
  obtain ⟨h1, h2⟩ := dsub_zv ha.1 hb.1 hV.1 e
  exact ⟨h1, by rw [h2]; exact hV.2⟩
theorem rv_mul {a b V : UInt64} {n n' : Int} {d d' : Nat} (hd : 0 < d) (hd' : 0 < d') (ha : Rv a n d) (hb : Rv b n' d') (hV : Rv V (n * n') (d * d')) : Rv (FP.dmul a b) (n * n') (d * d') := by
  have e : zv a * zv b = zv V * (one64 : Int) := by
    refine Int.eq_of_mul_eq_mul_right (a := ((d * d' : Nat) : Int)) (by have := Nat.mul_pos hd hd'; omega) ?_
    have h3 := hV.2
    rw [Int.natCast_mul] at h3 ⊢
    exact ring1 ha.2 hb.2 h3
  obtain ⟨h1, h2⟩ := dmul_zv ha.1 hb.1 hV.1 e
  exact ⟨h1, by rw [h2]; exact hV.2⟩
theorem rv_nz {b : UInt64} {n : Int} {d : Nat} (hb : Rv b n d) (hn : n ≠ 0) : zv b ≠ 0 := by
  intro h
  have h1 := hb.2
  rw [h, Int.zero_mul] at h1
  rcases Int.mul_eq_zero.mp h1.symm with h2 | h2
  · exact hn h2
  · have := one_pos; omega
theorem rv_div {a b V : UInt64} {n n' m : Int} {d d' k : Nat} (hd : 0 < d) (hd' : 0 < d') (hk : 0 < k) (ha : Rv a n d) (hb : Rv b n' d') (hn : n' ≠ 0) (hV : Rv V m k) (h : m * ((d : Int) * n') = n * ((d' : Int) * (k : Int))) : Rv (FP.ddiv a b) m k := by
  have e : zv a * (one64 : Int) = zv V * zv b := by
    refine Int.eq_of_mul_eq_mul_right (a := ((d * (d' * k) : Nat) : Int)) (by have := Nat.mul_pos hd (Nat.mul_pos hd' hk); omega) ?_
    rw [Int.natCast_mul, Int.natCast_mul]
    exact ring2 ha.2 hb.2 hV.2 h
  obtain ⟨h1, h2⟩ := ddiv_zv ha.1 hb.1 (rv_nz hb hn) hV.1 e
  exact ⟨h1, by rw [h2]; exact hV.2⟩
theorem cmp_mul (x y : Int) {k : Int} (hk : 0 < k) : compare x y = compare (x * k) (y * k) := (compare_mul_pos x y k hk).symm
theorem rv_cmp {a b : UInt64} {n n' : Int} {d d' : Nat} (hd : 0 < d) (hd' : 0 < d') (ha : Rv a n d) (hb : Rv b n' d') : FP.dcmp a b = some (compare (n * (d' : Int)) (n' * (d : Int))) := by
  show Core.dcmp a b = _
  rw [dcmp_zval ha.1.ne_nan hb.1.ne_nan]
  congr 1
  have p := one_pos
  rw [cmp_mul (zval b64 (val64 a)) _ (show 0 < ((d * d' : Nat) : Int) by have := Nat.mul_pos hd hd'; omega), cmp_mul (n * (d' : Int)) _ p]
  have h1 : zval b64 (val64 a) * ((d * d' : Nat) : Int) = n * (d' : Int) * (one64 : Int) := by rw [Int.natCast_mul]; exact ring3 ha.2
  have h2 : zval b64 (val64 b) * ((d * d' : Nat) : Int) = n' * (d : Int) * (one64 : Int) := by rw [Int.natCast_mul]; exact ring4 hb.2
  rw [h1, h2]
theorem zv_cmp {a b : UInt64} (ha : val64 a ≠ .nan) (hb : val64 b ≠ .nan) : FP.dcmp a b = some (compare (zv a) (zv b)) := dcmp_zval ha hb
theorem rv_zero : Rv 0 0 1 := ⟨⟨_, _, _, val64_zero⟩, by rw [show zv 0 = 0 from zval64_zero]; simp⟩
theorem rv_one : Rv 4607182418800017408 1 1 := ⟨⟨_, _, _, val64_dconst1⟩, by rw [show zv 4607182418800017408 = 1 * (one64 : Int) from DInt_zval dint_one]; simp⟩
theorem nn64 {a : UInt64} (h : val64 a ≠ .nan) : Jvm.Free.Fl.NoNaN64 a := Jvm.Free.Fl.noNaN64_no.mpr ((notNaN_iff a).mpr h)
theorem rv_nn {a : UInt64} {n : Int} {d : Nat} (h : Rv a n d) : Jvm.Free.Fl.NoNaN64 a := nn64 h.1.ne_nan
theorem rcv {a b : UInt64} {n n' : Int} {d d' : Nat} (hd : 0 < d) (hd' : 0 < d') (ha : Rv a n d) (hb : Rv b n' d') (o : Jvm.ClassFile.CmpOp) :
    (Jvm.Op.cmpValue (FP.dcmp a b) o < 0 ↔ n * (d' : Int) < n' * (d : Int)) ∧ (0 < Jvm.Op.cmpValue (FP.dcmp a b) o ↔ n' * (d : Int) < n * (d' : Int)) ∧ (Jvm.Op.cmpValue (FP.dcmp a b) o = 0 ↔ n * (d' : Int) = n' * (d : Int)) := by
  rw [rv_cmp hd hd' ha hb, compare_ite]
  generalize n * (d' : Int) = x
  generalize n' * (d : Int) = y
  split
  · exact ⟨⟨fun _ => by omega, fun _ => by cases o <;> decide⟩, ⟨fun h => absurd h (by cases o <;> decide), fun h => by omega⟩, ⟨fun h => absurd h (by cases o <;> decide), fun h => by omega⟩⟩
  · split
    · exact ⟨⟨fun h => absurd h (by cases o <;> decide), fun h => by omega⟩, ⟨fun h => absurd h (by cases o <;> decide), fun h => by omega⟩, ⟨fun _ => by omega, fun _ => by cases o <;> decide⟩⟩
    · exact ⟨⟨fun h => absurd h (by cases o <;> decide), fun h => by omega⟩, ⟨fun _ => by omega, fun _ => by cases o <;> decide⟩, ⟨fun h => absurd h (by cases o <;> decide), fun h => by omega⟩⟩
theorem zcv {a b : UInt64} (ha : val64 a ≠ .nan) (hb : val64 b ≠ .nan) (o : Jvm.ClassFile.CmpOp) :
    (Jvm.Op.cmpValue (FP.dcmp a b) o < 0 ↔ zv a < zv b) ∧ (0 < Jvm.Op.cmpValue (FP.dcmp a b) o ↔ zv b < zv a) ∧ (Jvm.Op.cmpValue (FP.dcmp a b) o = 0 ↔ zv a = zv b) := by
  rw [zv_cmp ha hb, compare_ite]
  generalize zv a = x
  generalize zv b = y
  split
  · exact ⟨⟨fun _ => by omega, fun _ => by cases o <;> decide⟩, ⟨fun h => absurd h (by cases o <;> decide), fun h => by omega⟩, ⟨fun h => absurd h (by cases o <;> decide), fun h => by omega⟩⟩
  · split
    · exact ⟨⟨fun h => absurd h (by cases o <;> decide), fun h => by omega⟩, ⟨fun h => absurd h (by cases o <;> decide), fun h => by omega⟩, ⟨fun _ => by omega, fun _ => by cases o <;> decide⟩⟩
    · exact ⟨⟨fun h => absurd h (by cases o <;> decide), fun h => by omega⟩, ⟨fun _ => by omega, fun _ => by cases o <;> decide⟩, ⟨fun h => absurd h (by cases o <;> decide), fun h => by omega⟩⟩
theorem own_isfinO {d : UInt64} (h : DFin d) (o : Jvm.ClassFile.CmpOp) : ¬ (0 : Int32) < Jvm.Op.cmpValue (FP.dcmp (d &&& 0x7fffffffffffffff) 9218868437227405311) o := by
  have h1 := (fin_bits d).mp h
  have n1 := mask_ne_nan h.ne_nan
  have n2 : val64 9218868437227405311 ≠ .nan := by rw [ne_nan]; decide
  have e : FP.dcmp (d &&& 0x7fffffffffffffff) 9218868437227405311 = _ := dcmp_key n1 n2
  rw [e, mask_key, show dkey 9218868437227405311 = 9218868437227405311 from by decide, compare_ite]
  split
  · cases o <;> decide
  · split
    · cases o <;> decide
    · omega
theorem own_isfin {d : UInt64} (h : DFin d) : ¬ (0 : Int32) < Jvm.Op.cmpValue (FP.dcmp (d &&& 0x7fffffffffffffff) 9218868437227405311) .g := own_isfinO h .g
theorem own_inf {d : UInt64} (h : DFin d) : Jvm.Op.cmpValue (FP.dcmp d 9218868437227405312) .g < (0 : Int32) := by
  rw [Jvm.RoadKit.dcmp_pinf (Jvm.Free.Fl.fin64_core.mpr h) .g]; decide
theorem own_pos {mu : UInt64} {n : Int} {d : Nat} (hd : 0 < d) (h : Rv mu n d) (hn : 0 < n) : (0 : Int32) < Jvm.Op.cmpValue (FP.dcmp mu 0) .l := (rcv hd (by decide) h rv_zero .l).2.1.mpr (by simp; omega)
/-- two quotients of one value are one -/
theorem ddiv_congr {a b a' b' : UInt64} (ha : DFin a) (hb : DFin b) (ha' : DFin a') (hb' : DFin b') (pa : 0 < zv a) (pb : 0 < zv b) (pa' : 0 < zv a') (pb' : 0 < zv b') (h : zv a * zv b' = zv a' * zv b) : val64 (FP.ddiv a b) = val64 (FP.ddiv a' b') := by
  obtain ⟨s, c, q, h1, f1⟩ := own_fin ha
  obtain ⟨t, d, r, h2, f2⟩ := own_fin hb
  obtain ⟨s', c', q', h3, f3⟩ := own_fin ha'
  obtain ⟨t', d', r', h4, f4⟩ := own_fin hb'
  have d1 := zero_of h2 (by omega)
  have d2 := zero_of h4 (by omega)
  rw [ddiv_val h1 h2 d1, ddiv_val h3 h4 d2]
  rw [zv_mag h1] at pa h
  rw [zv_mag h2] at pb h
  rw [zv_mag h3] at pa' h
  rw [zv_mag h4] at pb' h
  have sg : ∀ (u : Bool) (x : Nat), 0 < signed u x → u = false := fun u x hp => by cases u <;> simp [signed] at hp ⊢; omega
  obtain rfl := sg _ _ pa
  obtain rfl := sg _ _ pb
  obtain rfl := sg _ _ pa'
  obtain rfl := sg _ _ pb'
  have g1 := f1.2.1
  have g2 := f2.2.1
  have g3 := f3.2.1
  have g4 := f4.2.1
  refine roundRatio_congr (Nat.pos_of_ne_zero d1) (Nat.pos_of_ne_zero d2) ?_
  have h' : inUnits c q b64.qmin * inUnits d' r' b64.qmin = inUnits c' q' b64.qmin * inUnits d r b64.qmin := by
    have : ((inUnits c q b64.qmin * inUnits d' r' b64.qmin : Nat) : Int) = ((inUnits c' q' b64.qmin * inUnits d r b64.qmin : Nat) : Int) := by rw [Int.natCast_mul, Int.natCast_mul]; exact h
    exact Int.ofNat.inj this
  unfold inUnits at h'
  have k1 : c * 2 ^ (q - b64.qmin).toNat * (d' * 2 ^ (r' - b64.qmin).toNat) = c * d' * 2 ^ ((q - b64.qmin).toNat + (r' - b64.qmin).toNat) := by rw [Nat.pow_add, Nat.mul_mul_mul_comm]
  have k2 : c' * 2 ^ (q' - b64.qmin).toNat * (d * 2 ^ (r - b64.qmin).toNat) = c' * d * 2 ^ ((q' - b64.qmin).toNat + (r - b64.qmin).toNat) := by rw [Nat.pow_add, Nat.mul_mul_mul_comm]
  rw [k1, k2] at h'
  rcases Int.le_total (q' - r') (q - r) with hl | hl
  · have e1 : (q - b64.qmin).toNat + (r' - b64.qmin).toNat = (q - r - (q' - r')).toNat + ((q' - b64.qmin).toNat + (r - b64.qmin).toNat) := by omega
    rw [e1, Nat.pow_add, ← Nat.mul_assoc] at h'
    rw [show (q' - r' - (q - r)).toNat = 0 by omega, Nat.pow_zero, Nat.mul_one]
    exact Nat.eq_of_mul_eq_mul_right (Nat.two_pow_pos _) h'
  · have e1 : (q' - b64.qmin).toNat + (r - b64.qmin).toNat = (q' - r' - (q - r)).toNat + ((q - b64.qmin).toNat + (r' - b64.qmin).toNat) := by omega
    rw [e1, Nat.pow_add 2 (q' - r' - (q - r)).toNat, ← Nat.mul_assoc (c' * d)] at h'
    rw [show (q - r - (q' - r')).toNat = 0 by omega, Nat.pow_zero, Nat.mul_one]
    exact Nat.eq_of_mul_eq_mul_right (Nat.two_pow_pos _) h'
theorem own_same {x y : UInt64} (h : val64 x = val64 y) (hn : val64 x ≠ .nan) (o : Jvm.ClassFile.CmpOp) : Jvm.Op.cmpValue (FP.dcmp x y) o = 0 := by
  have e : FP.dcmp x y = some .eq := by
    show order (val64 x) (val64 y) = _
    rw [← h]; exact order_self hn
  rw [e]; cases o <;> rfl
theorem own_t0 {te t0 : Int32} (h : te &&& (31 : Int32) = t0) : ∃ k : Fin 32, t0 = Int32.ofNat k.val := by
  have e := Jvm.Kit.i32_mask te 31 (k := 5) (by decide) (by decide)
  rw [h] at e
  have hk : (t0.toInt.toNat) < 32 := by omega
  refine ⟨⟨t0.toInt.toNat, hk⟩, ?_⟩
  apply Int32.toInt_inj.mp
  rw [Int32.toInt_ofNat_small (by show t0.toInt.toNat < _; omega)]
  show _ = ((t0.toInt.toNat : Nat) : Int)
  omega
theorem own_shl : ∀ k : Fin 32, ((1 : Int64) <<< ((Int32.ofNat k.val) &&& 0x3f).toInt64).toInt = ((2 ^ k.val : Nat) : Int) := by decide
/-- (double) (1L << e), e below 32 -/
theorem own_pow {te t0 : Int32} {sc : UInt64} (h : te &&& (31 : Int32) = t0) (hs : FP.l2d ((1 : Int64) <<< (t0 &&& 0x3f).toInt64) = sc) : ∃ k : Nat, k < 32 ∧ Rv sc ((2 ^ k : Nat) : Int) 1 := by
  obtain ⟨k, hk⟩ := own_t0 h
  have e : ((1 : Int64) <<< (t0 &&& 0x3f).toInt64).toInt = ((2 ^ k.val : Nat) : Int) := by rw [hk]; exact own_shl k
  have hp : 2 ^ k.val ≤ 2 ^ 31 := Nat.pow_le_pow_right (by decide) (by have := k.isLt; omega)
  have := rv_l2d (n := (1 : Int64) <<< (t0 &&& 0x3f).toInt64) (by rw [e, Int.natAbs_natCast]; exact Nat.le_trans hp (by decide))
  rw [e, hs] at this
  exact ⟨k.val, k.isLt, this⟩
end Jvm.Own
/- laws to paste: Road.backV (cut by pick.py; bodies as the Statement names them) -/
namespace Jvm.Pilot.@@N@@
namespace StrChars
open Jvm Sem ClassFile Op Lib Jvm.Stand Jvm.Free.XT Jvm.Free.ALB Jvm.Free.JM Jvm.Free
open Jvm.Lib.Cold (StaticIs)
/-- a char array whose places are chars -/
def Ch (a : Addr) (A : Cell) (U : State) : Prop := Arr .char a A U ∧ Typed .char A
theorem Ch.mv {a : Addr} {A : Cell} {U U' : State} (h : Ch a A U) (hal : U.vm.Alike U'.vm) (hh : U'.heap = U.heap) : Ch a A U' := ⟨h.1.mv hal hh, h.2⟩
theorem Ch.keep {a : Addr} {A : Cell} {U U' : State} (h : Ch a A U) (hal : U.vm.Alike U'.vm) (hk : U'.heap[a]? = some A) : Ch a A U' := ⟨h.1.keep hal hk, h.2⟩
/-- what place i of a char[]'s cell holds -/
def cv (A : Cell) (i : Nat) : Int32 := match A.slots[i]? with | some (.int x) => x | _ => 0
theorem Ch.get {a : Addr} {A : Cell} {U : State} (h : Ch a A U) {i : Nat} (hi : i < A.slots.size) : A.slots[i]? = some (.int (cv A i)) := by
  have e := Array.getElem?_eq_getElem hi
  have f := h.2 i _ e
  unfold cv; rw [e]
  generalize A.slots[i] = v at f
  cases v <;> simp [fits] at f ⊢
/-- the byte that i2b leaves of a char -/
def lo8 (x : Int32) : Int32 := x.toInt8.toInt32
theorem fits_lo8 (y : Int32) : fits .byte (.int (lo8 y)) = true := by
  have h1 := y.toInt8.le_toInt
  have h2 := y.toInt8.toInt_lt
  simp only [lo8, fits, Bool.and_eq_true, decide_eq_true_eq, Int32.le_iff_toInt_le, Int8.toInt_toInt32, show (-128 : Int32).toInt = -128 from by decide, show (127 : Int32).toInt = 127 from by decide]
  omega
/-- A' is A but that each place j of lo .. hi - 1 holds f j -/
def Laid (A A' : Cell) (lo hi : Nat) (f : Nat → Value) : Prop := A'.cls = A.cls ∧ A'.vm = A.vm ∧ A'.slots.size = A.slots.size ∧ ∀ i, A'.slots[i]? = if lo ≤ i ∧ i < hi then some (f i) else A.slots[i]?
theorem Laid.zero (A : Cell) (lo : Nat) (f : Nat → Value) : Laid A A lo (lo + 0) f := ⟨rfl, rfl, rfl, fun i => by rw [if_neg (by omega)]⟩
theorem Laid.step {A Ak : Cell} {lo k : Nat} {f : Nat → Value} {v : Value} (h : Laid A Ak lo k f) (hlo : lo ≤ k) (hk : k < Ak.slots.size) (hv : v = f k) : Laid A (Ak.setSlot k v) lo (k + 1) f := by
  refine ⟨h.1, h.2.1, by simpa [Cell.setSlot] using h.2.2.1, fun i => ?_⟩
  by_cases e : k = i
  · subst e; rw [Cell.slots_setSlot_self v hk, if_pos (by omega), hv]
  · rw [Cell.slots_setSlot_ne v e, h.2.2.2 i]
    by_cases q : lo ≤ i ∧ i < k
    · rw [if_pos q, if_pos (by omega)]
    · rw [if_neg q, if_neg (by omega)]
def U16 : String := "java/lang/StringUTF16"
namespace Cmp5
def yN : MethodName := ⟨"java/lang/StringUTF16", "compress", "([CI[BII)I"⟩
abbrev yB : ByteArray := jdk_52_method_21_code
theorem d0 : decode yB 0 = .ok (.iconst 0, 1) := by decide +kernel
theorem d1 : decode yB 1 = .ok (.istore 5, 2) := by decide +kernel
theorem d3 : decode yB 3 = .ok (.iload 5, 2) := by decide +kernel
theorem d5 : decode yB 5 = .ok (.iload 4, 2) := by decide +kernel
theorem d7 : decode yB 7 = .ok (.if_icmp (.ge) 37, 3) := by decide +kernel
theorem d10 : decode yB 10 = .ok (.aload_n 0, 1) := by decide +kernel
theorem d11 : decode yB 11 = .ok (.iload_n 1, 1) := by decide +kernel
theorem d12 : decode yB 12 = .ok (.caload, 1) := by decide +kernel
theorem d13 : decode yB 13 = .ok (.istore 6, 2) := by decide +kernel
theorem d15 : decode yB 15 = .ok (.iload 6, 2) := by decide +kernel
theorem d17 : decode yB 17 = .ok (.sipush 255, 3) := by decide +kernel
theorem d20 : decode yB 20 = .ok (.if_icmp (.le) 6, 3) := by decide +kernel
theorem d26 : decode yB 26 = .ok (.aload_n 2, 1) := by decide +kernel
theorem d27 : decode yB 27 = .ok (.iload_n 3, 1) := by decide +kernel
theorem d28 : decode yB 28 = .ok (.iload 6, 2) := by decide +kernel
theorem d30 : decode yB 30 = .ok (.i2b, 1) := by decide +kernel
theorem d31 : decode yB 31 = .ok (.bastore, 1) := by decide +kernel
theorem d32 : decode yB 32 = .ok (.iinc 1 1, 3) := by decide +kernel
theorem d35 : decode yB 35 = .ok (.iinc 3 1, 3) := by decide +kernel
theorem d38 : decode yB 38 = .ok (.iinc 5 1, 3) := by decide +kernel
theorem d41 : decode yB 41 = .ok (.goto (-38), 3) := by decide +kernel
theorem d44 : decode yB 44 = .ok (.iload 4, 2) := by decide +kernel
theorem d46 : decode yB 46 = .ok (.ireturn, 1) := by decide +kernel
def site : List Cond := []
def tab : Cond := tabOf yN yB 7 (some .int) site
def P (b : Addr) (A : Cell) (d : Addr) (B : Cell) (o q len : Nat) (args : Array Value) (s : State) : Prop := args = #[.ref b, .int (Int32.ofNat o), .ref d, .int (Int32.ofNat q), .int (Int32.ofNat len)] ∧ Ch b A s ∧ Arr .byte d B s ∧ b ≠ d ∧ o + len ≤ A.slots.size ∧ q + len ≤ B.slots.size ∧ ∀ i, i < len → ¬ 255 < cv A (o + i)
def E (b : Addr) (A : Cell) (d : Addr) (B : Cell) (o q len : Nat) (r : Option Value) (s u : State) : Prop := r = some (.int (Int32.ofNat len)) ∧ ∃ B', Put d B' s u ∧ Laid B B' q (q + len) (fun j => Value.int (lo8 (cv A (o + (j - q)))))
/-- no char of the range above 255: len; the places written hold each char's low byte -/
theorem law (l : Launch) (b : Addr) (A : Cell) (d : Addr) (B : Cell) (o q len : Nat) : Law l yN 5 5 0 0 yB 7 (some .int) site (P b A d B o q len) (E b A d B o q len) (copyLocs d q len) 0 0 := by
  refine Law.of_walk (plainFor_of_name (by decide +kernel)) (by decide +kernel) (by decide +kernel) (by decide) (fun _ _ h => by rw [h.1]; rfl) (fun _ U U' hal hh h => ⟨h.1, h.2.1.mv hal hh, h.2.2.1.mv hal hh, h.2.2.2⟩) (fun r U U' V V' h1 hal h2 h => ⟨h.1, h.2.elim fun B' q => ⟨B', q.1.mv h1 h2, q.2⟩⟩) ?_
  intro p e s m args below meth c s₁ X0 hexec hbytes hml hret hlk hnm hown hh0 W hP
  obtain ⟨rfl, hA, hB, hne, l1, l2, hp⟩ := hP
  have c1 : Steps p.tables e below (s₁.setTop (entryFrame m #[.ref b, .int (Int32.ofNat o), .ref d, .int (Int32.ofNat q), .int (Int32.ofNat len)] 7)) (s₁.setTop (mkF m 0 #[.val (.ref b), .val (.int (Int32.ofNat o)), .val (.ref d), .val (.int (Int32.ofNat q)), .val (.int (Int32.ofNat len)), .unset, .unset] [])) := entry rfl
  have hA0 := hA.1.mv X0.warmed.alike hh0
  have hB0 := hB.mv X0.warmed.alike hh0
  have a31 := hA.1.2.2.2
  have c2 : Steps p.tables e below (s₁.setTop (entryFrame m #[.ref b, .int (Int32.ofNat o), .ref d, .int (Int32.ofNat q), .int (Int32.ofNat len)] 7)) (s₁.setTop (mkF m 3 #[.val (.ref b), .val (.int (Int32.ofNat o)), .val (.ref d), .val (.int (Int32.ofNat q)), .val (.int (Int32.ofNat len)), .val (.int 0), .unset] [])) := c1.trans (by
    refine iconstV X0.here hexec rfl 0 (hb hbytes d0) (by decide) ?_
    refine XS.istore X0.here hexec rfl (hb hbytes d1) rfl rfl ?_
    exact Steps.refl _)
  have loop : ∀ (r i : Nat), i + r = len → ∀ (z : Slot), (z = .unset ∨ ∃ w, z = .val w ∧ w.category = 1) → ∀ (Tl : State) (Bk : Cell), Stand p l e { frames := 0, locals := 0, cells := 0, slots := 0 } s m #[.ref b, .int (Int32.ofNat o), .ref d, .int (Int32.ofNat q), .int (Int32.ofNat len)] below meth c Tl ([] ++ copyLocs d q i) 0 0 → Put d Bk s₁ Tl → Laid B Bk q (q + i) (fun j => Value.int (lo8 (cv A (o + (j - q))))) →
      Steps p.tables e below (s₁.setTop (entryFrame m #[.ref b, .int (Int32.ofNat o), .ref d, .int (Int32.ofNat q), .int (Int32.ofNat len)] 7)) (Tl.setTop (mkF m 3 #[.val (.ref b), .val (.int (Int32.ofNat (o + i))), .val (.ref d), .val (.int (Int32.ofNat (q + i))), .val (.int (Int32.ofNat len)), .val (.int (Int32.ofNat i)), z] [])) → ∃ (T' : State) (B' : Cell) (z' : Slot), Stand p l e { frames := 0, locals := 0, cells := 0, slots := 0 } s m #[.ref b, .int (Int32.ofNat o), .ref d, .int (Int32.ofNat q), .int (Int32.ofNat len)] below meth c T' ([] ++ copyLocs d q len) 0 0 ∧ Put d B' s₁ T' ∧ Laid B B' q (q + len) (fun j => Value.int (lo8 (cv A (o + (j - q))))) ∧
      Steps p.tables e below (s₁.setTop (entryFrame m #[.ref b, .int (Int32.ofNat o), .ref d, .int (Int32.ofNat q), .int (Int32.ofNat len)] 7)) (T'.setTop (mkF m 3 #[.val (.ref b), .val (.int (Int32.ofNat (o + len))), .val (.ref d), .val (.int (Int32.ofNat (q + len))), .val (.int (Int32.ofNat len)), .val (.int (Int32.ofNat len)), z'] [])) := by
    intro r
    induction r with
    | zero =>
      intro i hi z hz Tl Bk Xl pl fl cl
      have hil : i = len := by omega
      rw [hil] at Xl fl cl
      exact ⟨Tl, Bk, z, Xl, pl, fl, cl⟩
    | succ r ih =>
      intro i hi z hz Tl Bk Xl pl fl cl
      have all := X0.warmed.alike.symm.trans Xl.warmed.alike
      have hAl := hA0.keep all (pl.other hne hA0.1)
      have hBk := hB0.like all pl.1 fl.1 fl.2.1 fl.2.2.1
      have hlt : q + i < Bk.slots.size := by rw [fl.2.2.1]; omega
      have c3 : Steps p.tables e below (s₁.setTop (entryFrame m #[.ref b, .int (Int32.ofNat o), .ref d, .int (Int32.ofNat q), .int (Int32.ofNat len)] 7)) (Tl.setTop (mkF m 12 #[.val (.ref b), .val (.int (Int32.ofNat (o + i))), .val (.ref d), .val (.int (Int32.ofNat (q + i))), .val (.int (Int32.ofNat len)), .val (.int (Int32.ofNat i)), z] [.int (Int32.ofNat (o + i)), .ref b])) := cl.trans (by
        refine XS.iload Xl.here hexec rfl (hb hbytes d3) rfl ?_
        refine XS.iload Xl.here hexec rfl (hb hbytes d5) rfl ?_
        refine XS.icmpNo Xl.here hexec rfl (hb hbytes d7) rfl (ii_ge_f (lt32 (by omega) (by omega))) ?_
        refine XS.aloadN Xl.here hexec rfl (hb hbytes d10) rfl rfl ?_
        refine XS.iloadN Xl.here hexec rfl (hb hbytes d11) rfl ?_
        exact Steps.refl _)
      have c4 : Steps p.tables e below (s₁.setTop (entryFrame m #[.ref b, .int (Int32.ofNat o), .ref d, .int (Int32.ofNat q), .int (Int32.ofNat len)] 7)) (Tl.setTop (mkF m 13 #[.val (.ref b), .val (.int (Int32.ofNat (o + i))), .val (.ref d), .val (.int (Int32.ofNat (q + i))), .val (.int (Int32.ofNat len)), .val (.int (Int32.ofNat i)), z] [.int (cv A (o + i))])) := c3.trans (by
        refine Xl.aget hexec hAl rfl (hA.get (i := o + i) (by omega)) rfl rfl (hb hbytes d12) ?_
        exact Steps.refl _)
      have c5 : Steps p.tables e below (s₁.setTop (entryFrame m #[.ref b, .int (Int32.ofNat o), .ref d, .int (Int32.ofNat q), .int (Int32.ofNat len)] 7)) (Tl.setTop (mkF m 15 #[.val (.ref b), .val (.int (Int32.ofNat (o + i))), .val (.ref d), .val (.int (Int32.ofNat (q + i))), .val (.int (Int32.ofNat len)), .val (.int (Int32.ofNat i)), .val (.int (cv A (o + i)))] [])) := c4.trans (by
        refine XS.istoreS Xl.here hexec rfl (hb hbytes d13) rfl rfl hz ?_
        exact Steps.refl _)
      have c6 : Steps p.tables e below (s₁.setTop (entryFrame m #[.ref b, .int (Int32.ofNat o), .ref d, .int (Int32.ofNat q), .int (Int32.ofNat len)] 7)) (Tl.setTop (mkF m 31 #[.val (.ref b), .val (.int (Int32.ofNat (o + i))), .val (.ref d), .val (.int (Int32.ofNat (q + i))), .val (.int (Int32.ofNat len)), .val (.int (Int32.ofNat i)), .val (.int (cv A (o + i)))] [.int (lo8 (cv A (o + i))), .int (Int32.ofNat (q + i)), .ref d])) := c5.trans (by
        refine XS.iload Xl.here hexec rfl (hb hbytes d15) rfl ?_
        refine sipushV Xl.here hexec rfl 255 (hb hbytes d17) (by decide) ?_
        refine XS.icmpYes Xl.here hexec rfl (pc0 := 20) rfl (hb hbytes d20) rfl (ii_le_t (hp i (by omega))) (by decide) rfl ?_
        refine XS.aloadN Xl.here hexec rfl (hb hbytes d26) rfl rfl ?_
        refine XS.iloadN Xl.here hexec rfl (hb hbytes d27) rfl ?_
        refine XS.iload Xl.here hexec rfl (hb hbytes d28) rfl ?_
        refine i2b Xl.here hexec rfl (hb hbytes d30) rfl ?_
        exact Steps.refl _)
      obtain ⟨T7, X7, p7, st7⟩ := Xl.aput hexec hBk rfl hlt rfl (fits_lo8 (cv A (o + i))) (g := (mkF m 31 #[.val (.ref b), .val (.int (Int32.ofNat (o + i))), .val (.ref d), .val (.int (Int32.ofNat (q + i))), .val (.int (Int32.ofNat len)), .val (.int (Int32.ofNat i)), .val (.int (cv A (o + i)))] [.int (lo8 (cv A (o + i))), .int (Int32.ofNat (q + i)), .ref d])) rfl (rest := []) rfl (hb hbytes d31)
      have c8 : Steps p.tables e below (s₁.setTop (entryFrame m #[.ref b, .int (Int32.ofNat o), .ref d, .int (Int32.ofNat q), .int (Int32.ofNat len)] 7)) (T7.setTop (mkF m 32 #[.val (.ref b), .val (.int (Int32.ofNat (o + i))), .val (.ref d), .val (.int (Int32.ofNat (q + i))), .val (.int (Int32.ofNat len)), .val (.int (Int32.ofNat i)), .val (.int (cv A (o + i)))] [])) := c6.trans (st7 _ (Steps.refl _))
      have c9 : Steps p.tables e below (s₁.setTop (entryFrame m #[.ref b, .int (Int32.ofNat o), .ref d, .int (Int32.ofNat q), .int (Int32.ofNat len)] 7)) (T7.setTop (mkF m 3 #[.val (.ref b), .val (.int (Int32.ofNat (o + i) + 1)), .val (.ref d), .val (.int (Int32.ofNat (q + i) + 1)), .val (.int (Int32.ofNat len)), .val (.int (Int32.ofNat i + 1)), .val (.int (cv A (o + i)))] [])) := c8.trans (by
        refine iincV X7.here hexec rfl 1 (hb hbytes d32) (by decide) rfl rfl ?_
        refine iincV X7.here hexec rfl 1 (hb hbytes d35) (by decide) rfl rfl ?_
        refine iincV X7.here hexec rfl 1 (hb hbytes d38) (by decide) rfl rfl ?_
        refine XS.goto X7.here hexec rfl (pc0 := 41) rfl (hb hbytes d41) (by decide) rfl ?_
        exact Steps.refl _)
      have c10 : Steps p.tables e below (s₁.setTop (entryFrame m #[.ref b, .int (Int32.ofNat o), .ref d, .int (Int32.ofNat q), .int (Int32.ofNat len)] 7)) (T7.setTop (mkF m 3 #[.val (.ref b), .val (.int (Int32.ofNat (o + (i + 1)))), .val (.ref d), .val (.int (Int32.ofNat (q + (i + 1)))), .val (.int (Int32.ofNat len)), .val (.int (Int32.ofNat (i + 1))), .val (.int (cv A (o + i)))] [])) := by
        have := c9
        rw [succ32, succ32, succ32] at this
        exact this
      exact ih (i + 1) (by omega) _ (Or.inr ⟨_, rfl, rfl⟩) T7 _ (by rw [copyLocs_step, ← List.append_assoc]; exact X7) (pl.trans p7) (fl.step (by omega) hlt (by simp)) c10
  obtain ⟨T9, B9, z9, X9, p9, f9, g9⟩ := loop len 0 (by omega) .unset (Or.inl rfl) s₁ B (by simpa [copyLocs] using X0) ⟨hB0.1, fun _ _ => rfl, rfl⟩ (Laid.zero _ _ _) c2
  have c11 : Steps p.tables e below (s₁.setTop (entryFrame m #[.ref b, .int (Int32.ofNat o), .ref d, .int (Int32.ofNat q), .int (Int32.ofNat len)] 7)) (T9.setTop (mkF m 46 #[.val (.ref b), .val (.int (Int32.ofNat (o + len))), .val (.ref d), .val (.int (Int32.ofNat (q + len))), .val (.int (Int32.ofNat len)), .val (.int (Int32.ofNat len)), z9] [.int (Int32.ofNat len)])) := g9.trans (by
    refine XS.iload X9.here hexec rfl (hb hbytes d3) rfl ?_
    refine XS.iload X9.here hexec rfl (hb hbytes d5) rfl ?_
    refine XS.icmpYes X9.here hexec rfl (pc0 := 7) rfl (hb hbytes d7) rfl (ii_ge_t (nlt32 (by omega) (Nat.le_refl _))) (by decide) rfl ?_
    refine XS.iload X9.here hexec rfl (hb hbytes d44) rfl ?_
    exact Steps.refl _)
  exact ⟨T9, some (.int (Int32.ofNat len)), _, _, _, X9, by simp, rfl, rfl, (fun h => by cases h), ⟨rfl, B9, p9.from hh0, f9⟩, fun fs hl => c11.trans (X9.ireturnOut hexec hret rfl (Or.inl rfl) (hb hbytes d46) hl)⟩
end Cmp5
namespace Cmp3
def yN : MethodName := ⟨"java/lang/StringUTF16", "compress", "([CII)[B"⟩
abbrev yB : ByteArray := jdk_52_method_16_code
theorem d0 : decode yB 0 = .ok (.iload_n 2, 1) := by decide +kernel
theorem d1 : decode yB 1 = .ok (.newarray .byte, 2) := by decide +kernel
theorem d3 : decode yB 3 = .ok (.astore_n 3, 1) := by decide +kernel
theorem d4 : decode yB 4 = .ok (.aload_n 0, 1) := by decide +kernel
theorem d5 : decode yB 5 = .ok (.iload_n 1, 1) := by decide +kernel
theorem d6 : decode yB 6 = .ok (.aload_n 3, 1) := by decide +kernel
theorem d7 : decode yB 7 = .ok (.iconst 0, 1) := by decide +kernel
theorem d8 : decode yB 8 = .ok (.iload_n 2, 1) := by decide +kernel
theorem d9 : decode yB 9 = .ok (.invokestatic 115, 3) := by decide +kernel
theorem d12 : decode yB 12 = .ok (.istore 4, 2) := by decide +kernel
theorem d14 : decode yB 14 = .ok (.iload 4, 2) := by decide +kernel
theorem d16 : decode yB 16 = .ok (.iload_n 2, 1) := by decide +kernel
theorem d17 : decode yB 17 = .ok (.if_icmp (.eq) 40, 3) := by decide +kernel
theorem d57 : decode yB 57 = .ok (.aload_n 3, 1) := by decide +kernel
theorem d58 : decode yB 58 = .ok (.areturn, 1) := by decide +kernel
def site : List Cond := [.arrayClass .byte, Cmp5.tab] ++ staticW U16 115 Cmp5.yN
def tab : Cond := tabOf yN yB 6 (some (.array .byte)) site
def P (b : Addr) (A : Cell) (o len : Nat) (args : Array Value) (s : State) : Prop := args = #[.ref b, .int (Int32.ofNat o), .int (Int32.ofNat len)] ∧ Ch b A s ∧ o + len ≤ A.slots.size ∧ len ≤ 536870912 ∧ ∀ i, i < len → ¬ 255 < cv A (o + i)
def E (b : Addr) (A : Cell) (o len : Nat) (r : Option Value) (s u : State) : Prop := NewArr .byte "[B" len (fun j => .int (lo8 (cv A (o + j)))) r s u ∧ u.heap.size = s.heap.size + 1
/-- no char of the range above 255: a new byte[] of their low bytes -/
theorem law (l : Launch) (b : Addr) (A : Cell) (o len : Nat) : Law l yN 3 3 1 18 yB 6 (some (.array .byte)) site (P b A o len) (E b A o len) [] 1 len := by
  refine Law.of_walk (plainFor_of_name (by decide +kernel)) (by decide +kernel) (by decide +kernel) (by decide) (fun _ _ h => by rw [h.1]; rfl) (fun _ U U' hal hh h => ⟨h.1, h.2.1.mv hal hh, h.2.2⟩) (fun r U U' V V' h1 hal h2 h => ⟨NewArr.mv r U U' V V' h1 hal h2 h.1, by rw [h1, h2]; exact h.2⟩) ?_
  intro p e s m args below meth c s₁ X0 hexec hbytes hml hret hlk hnm hown hh0 W hP
  obtain ⟨rfl, hA, l1, l2, hp⟩ := hP
  have a31 := hA.1.2.2.2
  have c1 : Steps p.tables e below (s₁.setTop (entryFrame m #[.ref b, .int (Int32.ofNat o), .int (Int32.ofNat len)] 6)) (s₁.setTop (mkF m 0 #[.val (.ref b), .val (.int (Int32.ofNat o)), .val (.int (Int32.ofNat len)), .unset, .unset, .unset] [])) := entry rfl
  have c2 : Steps p.tables e below (s₁.setTop (entryFrame m #[.ref b, .int (Int32.ofNat o), .int (Int32.ofNat len)] 6)) (s₁.setTop (mkF m 1 #[.val (.ref b), .val (.int (Int32.ofNat o)), .val (.int (Int32.ofNat len)), .unset, .unset, .unset] [.int (Int32.ofNat len)])) := c1.trans (by
    refine XS.iloadN X0.here hexec rfl (hb hbytes d0) rfl ?_
    exact Steps.refl _)
  obtain ⟨T3, B3, X3, ba3, bs3, bv3, bh3, bf3, st3⟩ := X0.anew hexec (atype := .byte) (wk W (.arrayClass .byte)) rfl (by show len * 1 ≤ _; omega) (by omega) (g := (mkF m 1 #[.val (.ref b), .val (.int (Int32.ofNat o)), .val (.int (Int32.ofNat len)), .unset, .unset, .unset] [.int (Int32.ofNat len)])) rfl (hb hbytes d1) (rest := []) rfl (Nat.le_refl _) (by show 0 + len ≤ len; omega)
  rw [hh0] at ba3 st3
  have kp3 : XT.Kept s T3 := (XT.Kept.of_eq hh0).push bh3
  have hA3 := hA.keep X3.warmed.alike (kp3 _ _ hA.1.1)
  have hne : b ≠ s.heap.size := hA.1.ne
  have c4 : Steps p.tables e below (s₁.setTop (entryFrame m #[.ref b, .int (Int32.ofNat o), .int (Int32.ofNat len)] 6)) (T3.setTop (mkF m 3 #[.val (.ref b), .val (.int (Int32.ofNat o)), .val (.int (Int32.ofNat len)), .unset, .unset, .unset] [.ref s.heap.size])) := c2.trans (st3 _ (Steps.refl _))
  have c5 : Steps p.tables e below (s₁.setTop (entryFrame m #[.ref b, .int (Int32.ofNat o), .int (Int32.ofNat len)] 6)) (T3.setTop (mkF m 9 #[.val (.ref b), .val (.int (Int32.ofNat o)), .val (.int (Int32.ofNat len)), .val (.ref s.heap.size), .unset, .unset] [.int (Int32.ofNat len), .int 0, .ref s.heap.size, .int (Int32.ofNat o), .ref b])) := c4.trans (by
    refine XS.astoreN X3.here hexec rfl (hb hbytes d3) rfl rfl rfl ?_
    refine XS.aloadN X3.here hexec rfl (hb hbytes d4) rfl rfl ?_
    refine XS.iloadN X3.here hexec rfl (hb hbytes d5) rfl ?_
    refine XS.aloadN X3.here hexec rfl (hb hbytes d6) rfl rfl ?_
    refine iconstV X3.here hexec rfl 0 (hb hbytes d7) (by decide) ?_
    refine XS.iloadN X3.here hexec rfl (hb hbytes d8) rfl ?_
    exact Steps.refl _)
  obtain ⟨v6, T6, X6, E6, g6⟩ := X3.callS hexec (Cmp5.law l b A s.heap.size B3 o 0 len) hown (wks W (staticW U16 115 Cmp5.yN)) (wk W Cmp5.tab) (W := 0) (Nat.le_of_ble_eq_true rfl) (Nat.le_of_ble_eq_true rfl) (Nat.le_refl _) (by show 0 + len + 0 ≤ len; omega) (g := (mkF m 9 #[.val (.ref b), .val (.int (Int32.ofNat o)), .val (.int (Int32.ofNat len)), .val (.ref s.heap.size), .unset, .unset] [.int (Int32.ofNat len), .int (Int32.ofNat 0), .ref s.heap.size, .int (Int32.ofNat o), .ref b])) rfl (by rw [hml]; rfl) c5 (argsL := [.ref b, .int (Int32.ofNat o), .ref s.heap.size, .int (Int32.ofNat 0), .int (Int32.ofNat len)]) (rest := []) rfl rfl (by show 2 * 0 + 0 ≤ _; decide) (hb hbytes d9) (⟨rfl, hA3, ba3, hne, l1, by rw [bs3]; simp, hp⟩)
  obtain ⟨rfl, B6, p6, f6⟩ := E6
  have c7 : Steps p.tables e below (s₁.setTop (entryFrame m #[.ref b, .int (Int32.ofNat o), .int (Int32.ofNat len)] 6)) (T6.setTop (mkF m 12 #[.val (.ref b), .val (.int (Int32.ofNat o)), .val (.int (Int32.ofNat len)), .val (.ref s.heap.size), .unset, .unset] [.int (Int32.ofNat len)])) := g6
  have c8 : Steps p.tables e below (s₁.setTop (entryFrame m #[.ref b, .int (Int32.ofNat o), .int (Int32.ofNat len)] 6)) (T6.setTop (mkF m 58 #[.val (.ref b), .val (.int (Int32.ofNat o)), .val (.int (Int32.ofNat len)), .val (.ref s.heap.size), .val (.int (Int32.ofNat len)), .unset] [.ref s.heap.size])) := c7.trans (by
    refine XS.istore X6.here hexec rfl (hb hbytes d12) rfl rfl ?_
    refine XS.iload X6.here hexec rfl (hb hbytes d14) rfl ?_
    refine XS.iloadN X6.here hexec rfl (hb hbytes d16) rfl ?_
    refine XS.icmpYes X6.here hexec rfl (pc0 := 17) rfl (hb hbytes d17) rfl (ii_eq_t rfl) (by decide) rfl ?_
    refine XS.aloadN X6.here hexec rfl (hb hbytes d57) rfl rfl ?_
    exact Steps.refl _)
  have X8 := X6.wide (L' := []) (cells' := 1) (slots' := len) (fun x hx hlt => by
    simp only [List.nil_append, copyLocs, List.mem_map, List.mem_range] at hx
    obtain ⟨i, -, rfl⟩ := hx
    exact absurd hlt (Nat.lt_irrefl _)) (Nat.le_refl _) (by omega)
  exact ⟨T6, some (.ref s.heap.size), _, _, _, X8, rfl, rfl, rfl, (fun h => by cases h), ⟨⟨rfl, B6, ba3.like (X3.warmed.alike.symm.trans X6.warmed.alike) p6.1 f6.1 f6.2.1 f6.2.2.1, f6.2.1.trans bv3, by rw [X6.warmed.alike.findClass, f6.1]; exact bf3, by rw [f6.2.2.1, bs3]; simp, fun j hj => by rw [f6.2.2.2 j, if_pos (by omega)]; rfl, kp3.put p6 (Nat.le_refl _)⟩, by rw [p6.2.2, bh3, hh0]; simp⟩, fun fs hl => c8.trans (X8.areturnOut hexec rfl hret rfl (hb hbytes d58) hl)⟩
end Cmp3
namespace CodL
def yN : MethodName := ⟨"java/lang/StringUTF16", "coderFromArrayLen", "([BI)B"⟩
abbrev yB : ByteArray := jdk_52_method_15_code
theorem d0 : decode yB 0 = .ok (.iload_n 1, 1) := by decide +kernel
theorem d1 : decode yB 1 = .ok (.aload_n 0, 1) := by decide +kernel
theorem d2 : decode yB 2 = .ok (.arraylength, 1) := by decide +kernel
theorem d3 : decode yB 3 = .ok (.isub, 1) := by decide +kernel
theorem d4 : decode yB 4 = .ok (.bipush 31, 2) := by decide +kernel
theorem d6 : decode yB 6 = .ok (.iushr, 1) := by decide +kernel
theorem d7 : decode yB 7 = .ok (.i2b, 1) := by decide +kernel
theorem d8 : decode yB 8 = .ok (.ireturn, 1) := by decide +kernel
def site : List Cond := []
def tab : Cond := tabOf yN yB 2 (some .byte) site
def P (d : Addr) (B : Cell) (args : Array Value) (s : State) : Prop := args = #[.ref d, .int (Int32.ofNat B.slots.size)] ∧ Arr .byte d B s
def E (r : Option Value) (s u : State) : Prop := XT.PureE (some (.int 0)) r s u
/-- an array as long as the number of chars: LATIN1 -/
theorem law (l : Launch) (d : Addr) (B : Cell) : Law l yN 2 2 0 0 yB 2 (some .byte) site (P d B) E [] 0 0 := by
  refine Law.of_walk (plainFor_of_name (by decide +kernel)) (by decide +kernel) (by decide +kernel) (by decide) (fun _ _ h => by rw [h.1]; rfl) (fun _ U U' hal hh h => ⟨h.1, h.2.mv hal hh⟩) (fun r U U' V V' h1 hal h2 h => XT.PureE.mv r U U' V V' h1 hal h2 h) ?_
  intro p e s m args below meth c s₁ X0 hexec hbytes hml hret hlk hnm hown hh0 W hP
  obtain ⟨rfl, hB⟩ := hP
  have hB0 := hB.mv X0.warmed.alike hh0
  have c1 : Steps p.tables e below (s₁.setTop (entryFrame m #[.ref d, .int (Int32.ofNat B.slots.size)] 2)) (s₁.setTop (mkF m 0 #[.val (.ref d), .val (.int (Int32.ofNat B.slots.size))] [])) := entry rfl
  have c2 : Steps p.tables e below (s₁.setTop (entryFrame m #[.ref d, .int (Int32.ofNat B.slots.size)] 2)) (s₁.setTop (mkF m 2 #[.val (.ref d), .val (.int (Int32.ofNat B.slots.size))] [.ref d, .int (Int32.ofNat B.slots.size)])) := c1.trans (by
    refine XS.iloadN X0.here hexec rfl (hb hbytes d0) rfl ?_
    refine XS.aloadN X0.here hexec rfl (hb hbytes d1) rfl rfl ?_
    exact Steps.refl _)
  have c3 : Steps p.tables e below (s₁.setTop (entryFrame m #[.ref d, .int (Int32.ofNat B.slots.size)] 2)) (s₁.setTop (mkF m 8 #[.val (.ref d), .val (.int (Int32.ofNat B.slots.size))] [.int (lo8 (ushr (Int32.ofNat B.slots.size - Int32.ofNat B.slots.size) 31))])) := c2.trans (by
    refine X0.alen hexec hB0 rfl rfl (hb hbytes d2) ?_
    refine XS.isub X0.here hexec rfl (hb hbytes d3) rfl ?_
    refine bipushV X0.here hexec rfl 31 (hb hbytes d4) (by decide) ?_
    refine iushr X0.here hexec rfl (hb hbytes d6) rfl ?_
    refine i2b X0.here hexec rfl (hb hbytes d7) rfl ?_
    exact Steps.refl _)
  have e0 : lo8 (ushr (Int32.ofNat B.slots.size - Int32.ofNat B.slots.size) 31) = 0 := by rw [Int32.sub_self]; decide
  rw [e0] at c3
  exact ⟨s₁, some (.int 0), _, _, _, X0, rfl, rfl, rfl, (fun h => by cases h), ⟨rfl, hh0⟩, fun fs hl => c3.trans (X0.ireturnOut hexec hret rfl (Or.inr (Or.inr (Or.inl rfl))) (hb hbytes d8) hl)⟩
end CodL
/-- the String at a is Latin-1 over a new byte[] (the heap's one new cell): the low bytes of the len chars of A from o on; every cell but a is kept -/
def Got (a : Addr) (D : Cell) (fV fC : Field) (A : Cell) (o len : Nat) (r : Option Value) (s u : State) : Prop := r = none ∧ ∃ D' V : Cell, Blank "java/lang/String" a D' u ∧ Same D D' [fV.slot, fC.slot] ∧ D'.slots[fV.slot]? = some (.ref s.heap.size) ∧ D'.slots[fC.slot]? = some (.int 0) ∧ Arr .byte s.heap.size V u ∧ V.vm = .none ∧ u.vm.findClass "[B" = some V.cls ∧ V.slots.size = len ∧ (∀ j, j < len → V.slots[j]? = some (.int (lo8 (cv A (o + j))))) ∧ (∀ (y : Addr) (c : Cell), y ≠ a → s.heap[y]? = some c → u.heap[y]? = some c) ∧ u.heap.size = s.heap.size + 1
theorem Got.mv {a : Addr} {D A : Cell} {fV fC : Field} {o len : Nat} : ∀ r (U U' V V' : State), U'.heap = U.heap → V.vm.Alike V'.vm → V'.heap = V.heap → Got a D fV fC A o len r U V → Got a D fV fC A o len r U' V' :=
  fun r U U' V V' h1 hal h2 ⟨e0, D', X, a1, a2, a3, a4, a5, a6, a7, a8, a9, a10, a11⟩ => ⟨e0, D', X, a1.mv hal h2, a2, by rw [h1]; exact a3, a4, by rw [h1]; exact a5.mv hal h2, a6, by rw [hal.findClass]; exact a7, a8, a9, by rw [h1, h2]; exact a10, by rw [h1, h2]; exact a11⟩
namespace New4
def yN : MethodName := ⟨"java/lang/String", "<init>", "([CIILjava/lang/Void;)V"⟩
abbrev yB : ByteArray := jdk_42_method_149_code
theorem d0 : decode yB 0 = .ok (.aload_n 0, 1) := by decide +kernel
theorem d1 : decode yB 1 = .ok (.invokespecial 1, 3) := by decide +kernel
theorem d4 : decode yB 4 = .ok (.iload_n 3, 1) := by decide +kernel
theorem d5 : decode yB 5 = .ok (.ifCond (.ne) 22, 3) := by decide +kernel
theorem d27 : decode yB 27 = .ok (.getstatic 38, 3) := by decide +kernel
theorem d30 : decode yB 30 = .ok (.ifCond (.eq) 28, 3) := by decide +kernel
theorem d33 : decode yB 33 = .ok (.aload_n 1, 1) := by decide +kernel
theorem d34 : decode yB 34 = .ok (.iload_n 2, 1) := by decide +kernel
theorem d35 : decode yB 35 = .ok (.iload_n 3, 1) := by decide +kernel
theorem d36 : decode yB 36 = .ok (.invokestatic 177, 3) := by decide +kernel
theorem d39 : decode yB 39 = .ok (.astore 5, 2) := by decide +kernel
theorem d41 : decode yB 41 = .ok (.aload_n 0, 1) := by decide +kernel
theorem d42 : decode yB 42 = .ok (.aload 5, 2) := by decide +kernel
theorem d44 : decode yB 44 = .ok (.iload_n 3, 1) := by decide +kernel
theorem d45 : decode yB 45 = .ok (.invokestatic 47, 3) := by decide +kernel
theorem d48 : decode yB 48 = .ok (.putfield 15, 3) := by decide +kernel
theorem d51 : decode yB 51 = .ok (.aload_n 0, 1) := by decide +kernel
theorem d52 : decode yB 52 = .ok (.aload 5, 2) := by decide +kernel
theorem d54 : decode yB 54 = .ok (.putfield 9, 3) := by decide +kernel
theorem d57 : decode yB 57 = .ok (.return_, 1) := by decide +kernel
def site : List Cond := [.fieldLink "java/lang/String" 38 "java/lang/String" "COMPACT_STRINGS" "Z", Cmp3.tab, CodL.tab, .laysFinal "java/lang/String" "java/lang/String" "value" "[B", .fieldLink "java/lang/String" 9 "java/lang/String" "value" "[B", .laysFinal "java/lang/String" "java/lang/String" "coder" "B", .fieldLink "java/lang/String" 15 "java/lang/String" "coder" "B"] ++ objW "java/lang/String" 1 ++ staticW "java/lang/String" 177 Cmp3.yN ++ staticW "java/lang/String" 47 CodL.yN
def tab : Cond := tabOf yN yB 6 none site
def P (a : Addr) (D : Cell) (fV fC : Field) (b : Addr) (A : Cell) (z : Int32) (o len : Nat) (args : Array Value) (s : State) : Prop := args = #[.ref a, .ref b, .int (Int32.ofNat o), .int (Int32.ofNat len), .null] ∧ Blank "java/lang/String" a D s ∧ Found "java/lang/String" "value" "[B" fV s ∧ Found "java/lang/String" "coder" "B" fC s ∧ Ch b A s ∧ StaticIs s "java/lang/String" "COMPACT_STRINGS" "Z" (.int z) ∧ ¬ z = 0 ∧ 0 < len ∧ o + len ≤ A.slots.size ∧ len ≤ 536870912 ∧ ∀ i, i < len → ¬ 255 < cv A (o + i)
def E (a : Addr) (D : Cell) (fV fC : Field) (A : Cell) (o len : Nat) (r : Option Value) (s u : State) : Prop := Got a D fV fC A o len r s u
/-- len > 0, no char of the range above 255: a Latin-1 String of their low bytes -/
theorem law (l : Launch) (a : Addr) (D : Cell) (fV fC : Field) (b : Addr) (A : Cell) (z : Int32) (o len : Nat) : Law l yN 5 4 2 35 yB 6 none site (P a D fV fC b A z o len) (E a D fV fC A o len) [⟨a, fC.slot⟩, ⟨a, fV.slot⟩] 1 len := by
  refine Law.of_walk (plainFor_of_name (by decide +kernel)) (by decide +kernel) (by decide +kernel) (by decide) (fun _ _ h => by rw [h.1]; rfl) (fun _ U U' hal hh h => ⟨h.1, h.2.1.mv hal hh, h.2.2.1.al hal, h.2.2.2.1.al hal, h.2.2.2.2.1.mv hal hh, h.2.2.2.2.2.1.there hal hh, h.2.2.2.2.2.2⟩) (fun r U U' V V' h1 hal h2 h => Got.mv r U U' V V' h1 hal h2 h) ?_
  intro p e s m args below meth c s₁ X0 hexec hbytes hml hret hlk hnm hown hh0 W hP
  obtain ⟨rfl, hB, f1, f2, hA, s1, hz, l0, l1, l2, hp⟩ := hP
  have a31 := hA.1.2.2.2
  have c1 : Steps p.tables e below (s₁.setTop (entryFrame m #[.ref a, .ref b, .int (Int32.ofNat o), .int (Int32.ofNat len), .null] 6)) (s₁.setTop (mkF m 0 #[.val (.ref a), .val (.ref b), .val (.int (Int32.ofNat o)), .val (.int (Int32.ofNat len)), .val .null, .unset] [])) := entry rfl
  have c2 : Steps p.tables e below (s₁.setTop (entryFrame m #[.ref a, .ref b, .int (Int32.ofNat o), .int (Int32.ofNat len), .null] 6)) (s₁.setTop (mkF m 1 #[.val (.ref a), .val (.ref b), .val (.int (Int32.ofNat o)), .val (.int (Int32.ofNat len)), .val .null, .unset] [.ref a])) := c1.trans (by
    refine XS.aloadN X0.here hexec rfl (hb hbytes d0) rfl rfl ?_
    exact Steps.refl _)
  obtain ⟨T3, X3, q3, st3⟩ := X0.oinit hexec hown (wks W (objW "java/lang/String" 1)) (g := (mkF m 1 #[.val (.ref a), .val (.ref b), .val (.int (Int32.ofNat o)), .val (.int (Int32.ofNat len)), .val .null, .unset] [.ref a])) rfl (by rw [hml]; rfl) (rest := []) rfl (hb hbytes d1) (W := 0) (by show 2 * 0 + 0 ≤ _; decide) (Nat.le_of_ble_eq_true rfl) (Nat.le_of_ble_eq_true rfl)
  have hh3 := q3.trans hh0
  have c4 : Steps p.tables e below (s₁.setTop (entryFrame m #[.ref a, .ref b, .int (Int32.ofNat o), .int (Int32.ofNat len), .null] 6)) (T3.setTop (mkF m 27 #[.val (.ref a), .val (.ref b), .val (.int (Int32.ofNat o)), .val (.int (Int32.ofNat len)), .val .null, .unset] [])) := (c2.trans (st3 _ (Steps.refl _))).trans (by
    refine XS.iloadN X3.here hexec rfl (hb hbytes d4) rfl ?_
    refine XS.ifYes X3.here hexec rfl (pc0 := 5) rfl (hb hbytes d5) rfl (i0_ne_t (nz32 (by omega) l0)) (by decide) rfl ?_
    exact Steps.refl _)
  obtain ⟨T5, X5, q5, st5⟩ := X3.sget hexec hown (wk W (.fieldLink "java/lang/String" 38 "java/lang/String" "COMPACT_STRINGS" "Z")) s1 (fun _ _ h => by rw [hh3]; exact h) (g := (mkF m 27 #[.val (.ref a), .val (.ref b), .val (.int (Int32.ofNat o)), .val (.int (Int32.ofNat len)), .val .null, .unset] [])) rfl (hb hbytes d27)
  have hh5 := q5.trans hh3
  have c6 : Steps p.tables e below (s₁.setTop (entryFrame m #[.ref a, .ref b, .int (Int32.ofNat o), .int (Int32.ofNat len), .null] 6)) (T5.setTop (mkF m 30 #[.val (.ref a), .val (.ref b), .val (.int (Int32.ofNat o)), .val (.int (Int32.ofNat len)), .val .null, .unset] [.int z])) := c4.trans (st5 _ (Steps.refl _))
  have c7 : Steps p.tables e below (s₁.setTop (entryFrame m #[.ref a, .ref b, .int (Int32.ofNat o), .int (Int32.ofNat len), .null] 6)) (T5.setTop (mkF m 36 #[.val (.ref a), .val (.ref b), .val (.int (Int32.ofNat o)), .val (.int (Int32.ofNat len)), .val .null, .unset] [.int (Int32.ofNat len), .int (Int32.ofNat o), .ref b])) := c6.trans (by
    refine XS.ifNo X5.here hexec rfl (hb hbytes d30) rfl (i0_eq_f hz) ?_
    refine XS.aloadN X5.here hexec rfl (hb hbytes d33) rfl rfl ?_
    refine XS.iloadN X5.here hexec rfl (hb hbytes d34) rfl ?_
    refine XS.iloadN X5.here hexec rfl (hb hbytes d35) rfl ?_
    exact Steps.refl _)
  obtain ⟨v8, T8, X8, E8, g8⟩ := X5.callS hexec (Cmp3.law l b A o len) hown (wks W (staticW "java/lang/String" 177 Cmp3.yN)) (wk W Cmp3.tab) (W := 0) (Nat.le_of_ble_eq_true rfl) (Nat.le_of_ble_eq_true rfl) (Nat.le_refl _) (by show 0 + len ≤ len; omega) (g := (mkF m 36 #[.val (.ref a), .val (.ref b), .val (.int (Int32.ofNat o)), .val (.int (Int32.ofNat len)), .val .null, .unset] [.int (Int32.ofNat len), .int (Int32.ofNat o), .ref b])) rfl (by rw [hml]; rfl) c7 (argsL := [.ref b, .int (Int32.ofNat o), .int (Int32.ofNat len)]) (rest := []) rfl rfl (by show 2 * 0 + 0 ≤ _; decide) (hb hbytes d36) (⟨rfl, hA.mv X5.warmed.alike hh5, l1, l2, hp⟩)
  obtain ⟨e8, z8⟩ := E8
  obtain ⟨rfl, N, n1, n2, n3, n4, n5, n6⟩ := NewArr.mv _ T5 s _ _ hh5.symm (Vm.Alike.refl _) rfl e8
  rw [hh5] at z8
  have hB1 := hB.keep X8.warmed.alike (n6 _ _ hB.1)
  have hne : s.heap.size ≠ a := (Nat.ne_of_lt (Array.getElem?_eq_some_iff.mp hB.1).1).symm
  have c9 : Steps p.tables e below (s₁.setTop (entryFrame m #[.ref a, .ref b, .int (Int32.ofNat o), .int (Int32.ofNat len), .null] 6)) (T8.setTop (mkF m 39 #[.val (.ref a), .val (.ref b), .val (.int (Int32.ofNat o)), .val (.int (Int32.ofNat len)), .val .null, .unset] [.ref s.heap.size])) := g8
  have c10 : Steps p.tables e below (s₁.setTop (entryFrame m #[.ref a, .ref b, .int (Int32.ofNat o), .int (Int32.ofNat len), .null] 6)) (T8.setTop (mkF m 45 #[.val (.ref a), .val (.ref b), .val (.int (Int32.ofNat o)), .val (.int (Int32.ofNat len)), .val .null, .val (.ref s.heap.size)] [.int (Int32.ofNat N.slots.size), .ref s.heap.size, .ref a])) := by
    have hc : Steps p.tables e below (s₁.setTop (entryFrame m #[.ref a, .ref b, .int (Int32.ofNat o), .int (Int32.ofNat len), .null] 6)) (T8.setTop (mkF m 45 #[.val (.ref a), .val (.ref b), .val (.int (Int32.ofNat o)), .val (.int (Int32.ofNat len)), .val .null, .val (.ref s.heap.size)] [.int (Int32.ofNat len), .ref s.heap.size, .ref a])) := c9.trans (by
      refine XS.astore X8.here hexec rfl (hb hbytes d39) rfl rfl rfl ?_
      refine XS.aloadN X8.here hexec rfl (hb hbytes d41) rfl rfl ?_
      refine XS.aload X8.here hexec rfl (hb hbytes d42) rfl rfl ?_
      refine XS.iloadN X8.here hexec rfl (hb hbytes d44) rfl ?_
      exact Steps.refl _)
    rw [n4]; exact hc
  obtain ⟨v11, T11, X11, E11, g11⟩ := X8.callS hexec (CodL.law l s.heap.size N) hown (wks W (staticW "java/lang/String" 47 CodL.yN)) (wk W CodL.tab) (W := 1) (Nat.le_of_ble_eq_true rfl) (Nat.le_of_ble_eq_true rfl) (Nat.le_refl _) (by show 0 + len + 0 ≤ len; omega) (g := (mkF m 45 #[.val (.ref a), .val (.ref b), .val (.int (Int32.ofNat o)), .val (.int (Int32.ofNat len)), .val .null, .val (.ref s.heap.size)] [.int (Int32.ofNat N.slots.size), .ref s.heap.size, .ref a])) rfl (by rw [hml]; rfl) c10 (argsL := [.ref s.heap.size, .int (Int32.ofNat N.slots.size)]) (rest := [.ref a]) rfl rfl (by show 2 * 0 + (1 + 0) ≤ _; decide) (hb hbytes d45) (⟨rfl, n1⟩)
  obtain ⟨rfl, q11⟩ := E11
  have hB11 := hB1.mv (X8.warmed.alike.symm.trans X11.warmed.alike) q11
  have c12 : Steps p.tables e below (s₁.setTop (entryFrame m #[.ref a, .ref b, .int (Int32.ofNat o), .int (Int32.ofNat len), .null] 6)) (T11.setTop (mkF m 48 #[.val (.ref a), .val (.ref b), .val (.int (Int32.ofNat o)), .val (.int (Int32.ofNat len)), .val .null, .val (.ref s.heap.size)] [.int 0, .ref a])) := g11
  obtain ⟨T13, X13, p13, bl13, sl13, st13⟩ := X11.finit hexec hown (wk W (.fieldLink "java/lang/String" 15 "java/lang/String" "coder" "B")) (Or.inr ⟨_, (wk W (.laysFinal "java/lang/String" "java/lang/String" "coder" "B"))⟩) (Or.inl ⟨rfl, hnm⟩) f2 (Or.inl rfl) hB11 (t := .byte) (by decide +kernel) rfl (g := (mkF m 48 #[.val (.ref a), .val (.ref b), .val (.int (Int32.ofNat o)), .val (.int (Int32.ofNat len)), .val .null, .val (.ref s.heap.size)] [.int 0, .ref a])) rfl (rest := []) rfl (hb hbytes d48)
  have c14 : Steps p.tables e below (s₁.setTop (entryFrame m #[.ref a, .ref b, .int (Int32.ofNat o), .int (Int32.ofNat len), .null] 6)) (T13.setTop (mkF m 54 #[.val (.ref a), .val (.ref b), .val (.int (Int32.ofNat o)), .val (.int (Int32.ofNat len)), .val .null, .val (.ref s.heap.size)] [.ref s.heap.size, .ref a])) := (c12.trans (st13 _ (Steps.refl _))).trans (by
    refine XS.aloadN X13.here hexec rfl (hb hbytes d51) rfl rfl ?_
    refine XS.aload X13.here hexec rfl (hb hbytes d52) rfl rfl ?_
    exact Steps.refl _)
  obtain ⟨T15, X15, p15, bl15, sl15, st15⟩ := X13.finit hexec hown (wk W (.fieldLink "java/lang/String" 9 "java/lang/String" "value" "[B")) (Or.inr ⟨_, (wk W (.laysFinal "java/lang/String" "java/lang/String" "value" "[B"))⟩) (Or.inl ⟨rfl, hnm⟩) f1 (Or.inl rfl) bl13 (t := (.array .byte)) (by decide +kernel) rfl (g := (mkF m 54 #[.val (.ref a), .val (.ref b), .val (.int (Int32.ofNat o)), .val (.int (Int32.ofNat len)), .val .null, .val (.ref s.heap.size)] [.ref s.heap.size, .ref a])) rfl (rest := []) rfl (hb hbytes d54)
  have c16 : Steps p.tables e below (s₁.setTop (entryFrame m #[.ref a, .ref b, .int (Int32.ofNat o), .int (Int32.ofNat len), .null] 6)) (T15.setTop (mkF m 57 #[.val (.ref a), .val (.ref b), .val (.int (Int32.ofNat o)), .val (.int (Int32.ofNat len)), .val .null, .val (.ref s.heap.size)] [])) := c14.trans (st15 _ (Steps.refl _))
  have ap := apart (Or.inr ⟨_, (wk W (.laysFinal "java/lang/String" "java/lang/String" "value" "[B"))⟩) (Or.inr ⟨_, (wk W (.laysFinal "java/lang/String" "java/lang/String" "coder" "B"))⟩) f1 f2 (t₁ := .array .byte) (t₂ := .byte) (by decide +kernel) (by decide +kernel) (by decide)
  have al := X8.warmed.alike.symm.trans X15.warmed.alike
  have n7 : T11.heap[s.heap.size]? = some N := by rw [q11]; exact n1.1
  exact ⟨T15, none, _, _, _, X15, by simp, rfl, by omega, (fun _ => rfl), ⟨rfl, _, N, bl15, ((Same.refl D _).set _ (by simp)).set _ (by simp), sl15, (Cell.slots_setSlot_ne _ ap).trans sl13, n1.keep al (p15.other hne (p13.other hne n7)), n2, by rw [al.findClass]; exact n3, n4, n5, fun y c h1 h2 => p15.other h1 (p13.other h1 (by rw [q11]; exact n6 y c h2)), by rw [p15.2.2, p13.2.2, q11]; exact z8⟩, fun fs hl => c16.trans (X15.returnOut hexec hret (hb hbytes d57) hl)⟩
end New4
namespace New1
def yN : MethodName := ⟨"java/lang/String", "<init>", "([C)V"⟩
abbrev yB : ByteArray := jdk_42_method_3_code
theorem d0 : decode yB 0 = .ok (.aload_n 0, 1) := by decide +kernel
theorem d1 : decode yB 1 = .ok (.aload_n 1, 1) := by decide +kernel
theorem d2 : decode yB 2 = .ok (.iconst 0, 1) := by decide +kernel
theorem d3 : decode yB 3 = .ok (.aload_n 1, 1) := by decide +kernel
theorem d4 : decode yB 4 = .ok (.arraylength, 1) := by decide +kernel
theorem d5 : decode yB 5 = .ok (.aconst_null, 1) := by decide +kernel
theorem d6 : decode yB 6 = .ok (.invokespecial 27, 3) := by decide +kernel
theorem d9 : decode yB 9 = .ok (.return_, 1) := by decide +kernel
def site : List Cond := [New4.tab] ++ initW "java/lang/String" 27 New4.yN
def tab : Cond := tabOf yN yB 2 none site
def P (a : Addr) (D : Cell) (fV fC : Field) (b : Addr) (A : Cell) (z : Int32) (args : Array Value) (s : State) : Prop := args = #[.ref a, .ref b] ∧ Blank "java/lang/String" a D s ∧ Found "java/lang/String" "value" "[B" fV s ∧ Found "java/lang/String" "coder" "B" fC s ∧ Ch b A s ∧ StaticIs s "java/lang/String" "COMPACT_STRINGS" "Z" (.int z) ∧ ¬ z = 0 ∧ 0 < A.slots.size ∧ A.slots.size ≤ 536870912 ∧ ∀ i, i < A.slots.size → ¬ 255 < cv A i
def E (a : Addr) (D : Cell) (fV fC : Field) (A : Cell) (r : Option Value) (s u : State) : Prop := Got a D fV fC A 0 A.slots.size r s u
/-- new String(chars), not empty, no char above 255: a Latin-1 String of their low bytes -/
theorem law (l : Launch) (a : Addr) (D : Cell) (fV fC : Field) (b : Addr) (A : Cell) (z : Int32) : Law l yN 2 1 3 52 yB 2 none site (P a D fV fC b A z) (E a D fV fC A) [⟨a, fC.slot⟩, ⟨a, fV.slot⟩] 1 A.slots.size := by
  refine Law.of_walk (plainFor_of_name (by decide +kernel)) (by decide +kernel) (by decide +kernel) (by decide) (fun _ _ h => by rw [h.1]; rfl) (fun _ U U' hal hh h => ⟨h.1, h.2.1.mv hal hh, h.2.2.1.al hal, h.2.2.2.1.al hal, h.2.2.2.2.1.mv hal hh, h.2.2.2.2.2.1.there hal hh, h.2.2.2.2.2.2⟩) (fun r U U' V V' h1 hal h2 h => Got.mv r U U' V V' h1 hal h2 h) ?_
  intro p e s m args below meth c s₁ X0 hexec hbytes hml hret hlk hnm hown hh0 W hP
  obtain ⟨rfl, hB, f1, f2, hA, s1, hz, l0, l2, hp⟩ := hP
  have c1 : Steps p.tables e below (s₁.setTop (entryFrame m #[.ref a, .ref b] 2)) (s₁.setTop (mkF m 0 #[.val (.ref a), .val (.ref b)] [])) := entry rfl
  have c2 : Steps p.tables e below (s₁.setTop (entryFrame m #[.ref a, .ref b] 2)) (s₁.setTop (mkF m 6 #[.val (.ref a), .val (.ref b)] [.null, .int (Int32.ofNat A.slots.size), .int 0, .ref b, .ref a])) := c1.trans (by
    refine XS.aloadN X0.here hexec rfl (hb hbytes d0) rfl rfl ?_
    refine XS.aloadN X0.here hexec rfl (hb hbytes d1) rfl rfl ?_
    refine iconstV X0.here hexec rfl 0 (hb hbytes d2) (by decide) ?_
    refine XS.aloadN X0.here hexec rfl (hb hbytes d3) rfl rfl ?_
    refine X0.alen hexec (hA.1.mv X0.warmed.alike hh0) rfl rfl (hb hbytes d4) ?_
    refine XS.aconstNull X0.here hexec rfl (hb hbytes d5) ?_
    exact Steps.refl _)
  obtain ⟨v3, T3, X3, E3, g3⟩ := X0.callN hexec (New4.law l a D fV fC b A z 0 A.slots.size) rfl hown (wks W (initW "java/lang/String" 27 New4.yN)) (W New4.tab (by simp only [site, List.mem_cons, List.mem_append, true_or, or_true])) (W := 0) (Nat.le_of_ble_eq_true rfl) (Nat.le_of_ble_eq_true rfl) (Nat.le_refl _) (by show 0 + A.slots.size ≤ A.slots.size; omega) (g := (mkF m 6 #[.val (.ref a), .val (.ref b)] [.null, .int (Int32.ofNat A.slots.size), .int (Int32.ofNat 0), .ref b, .ref a])) rfl (by rw [hml]; rfl) c2 (argsL := [.ref b, .int (Int32.ofNat 0), .int (Int32.ofNat A.slots.size), .null]) (rest := []) rfl rfl (by show 2 * 0 + 0 ≤ _; decide) (hb hbytes d6) (⟨rfl, hB.mv X0.warmed.alike hh0, f1.al X0.warmed.alike, f2.al X0.warmed.alike, hA.mv X0.warmed.alike hh0, s1.there X0.warmed.alike hh0, hz, l0, by omega, l2, fun i hi => by rw [Nat.zero_add]; exact hp i hi⟩)
  have e0 := Got.mv _ s₁ s _ _ hh0.symm (Vm.Alike.refl _) rfl E3
  obtain rfl := e0.1
  have c4 : Steps p.tables e below (s₁.setTop (entryFrame m #[.ref a, .ref b] 2)) (T3.setTop (mkF m 9 #[.val (.ref a), .val (.ref b)] [])) := g3
  exact ⟨T3, none, _, _, _, X3, by simp, rfl, by omega, (fun _ => rfl), e0, fun fs hl => c4.trans (X3.returnOut hexec hret (hb hbytes d9) hl)⟩
theorem pays {l : Launch} {R : Room} {p : Program} {e : Env} {below : List Frame} {s : State} {sargs : Array Value} {len W : Nat} (a : Addr) (D : Cell) (fV fC : Field) (b : Addr) (A : Cell) (z : Int32) (htab : tab.before sargs s = true) (hfr : 4 ≤ R.frames) (hlo : W + 65 ≤ R.locals) :
    Back l R p e below s sargs yN len W (fun A₁ a₁ => A₁.cells + 1 ≤ R.cells ∧ A₁.slots + A.slots.size ≤ R.slots ∧ P a D fV fC b A z a₁ A₁.U) (fun A₁ _ v₁ B₁ => E a D fV fC A v₁ A₁.U B₁.U ∧ B₁.locs = A₁.locs ++ [⟨a, fC.slot⟩, ⟨a, fV.slot⟩] ∧ B₁.cells = A₁.cells + 1 ∧ B₁.slots = A₁.slots + A.slots.size) :=
  (law l a D fV fC b A z).pays htab hfr (by omega)
end New1
end StrChars
namespace StrChars.Road
open Jvm Sem ClassFile Op Lib Jvm.Stand Jvm.Free Jvm.Free.XT
open Jvm.Lib.Cold (StaticIs)
abbrev ST : String := "java/lang/String"
/-- every table word that New1's law asks, flat -/
abbrev words : List Jvm.Cond := [.code New1.yN New1.yB 2 none, .initialized ST, .methodLink ST 27 New4.yN, .instanceMethod New4.yN,
  .code New4.yN New4.yB 6 none, .fieldLink ST 38 ST "COMPACT_STRINGS" "Z", .laysFinal ST ST "value" "[B", .fieldLink ST 9 ST "value" "[B", .laysFinal ST ST "coder" "B", .fieldLink ST 15 ST "coder" "B",
  .methodLink ST 1 Lib.objectInit, .instanceMethod Lib.objectInit, .code Lib.objectInit ⟨#[0xb1]⟩ 1 none, .methodLink ST 177 Cmp3.yN, .static Cmp3.yN, .methodLink ST 47 CodL.yN, .static CodL.yN,
  .code Cmp3.yN Cmp3.yB 6 (some (.array .byte)), .initialized U16, .arrayClass .byte, .methodLink U16 115 Cmp5.yN, .static Cmp5.yN, .code Cmp5.yN Cmp5.yB 7 (some .int), .code CodL.yN CodL.yB 2 (some .byte)]
theorem tab_of {a : Array Value} {s : State} (h : ∀ w ∈ words, w.before a s = true) : New1.tab.before a s = true := by
  have h5 : Cmp5.tab.before a s = true := unparts (wk h (.code Cmp5.yN Cmp5.yB 7 (some .int))) (wks h (.initialized Cmp5.yN.cls :: Cmp5.site))
  have hc : CodL.tab.before a s = true := unparts (wk h (.code CodL.yN CodL.yB 2 (some .byte))) (wks h (.initialized CodL.yN.cls :: CodL.site))
  have q5 : ∀ w ∈ Cmp5.tab :: words, w.before a s = true := fun w hw => (List.mem_cons.mp hw).elim (fun e => e ▸ h5) (h w)
  have h3 : Cmp3.tab.before a s = true := unparts (wk q5 (.code Cmp3.yN Cmp3.yB 6 (some (.array .byte)))) (wks q5 (.initialized Cmp3.yN.cls :: Cmp3.site))
  have q3 : ∀ w ∈ Cmp3.tab :: CodL.tab :: words, w.before a s = true := fun w hw => (List.mem_cons.mp hw).elim (fun e => e ▸ h3) fun hw => (List.mem_cons.mp hw).elim (fun e => e ▸ hc) (h w)
  have h4 : New4.tab.before a s = true := unparts (wk q3 (.code New4.yN New4.yB 6 none)) (wks q3 (.initialized New4.yN.cls :: New4.site))
  have q4 : ∀ w ∈ New4.tab :: words, w.before a s = true := fun w hw => (List.mem_cons.mp hw).elim (fun e => e ▸ h4) (h w)
  exact unparts (wk q4 (.code New1.yN New1.yB 2 none)) (wks q4 (.initialized New1.yN.cls :: New1.site))
/-- the words ride from the start Z to the walk's own state -/
theorem moved {Z s : State} {a0 args : Array Value} (hZ : Z.Warmed39 s.vm) (hw : ∀ d ∈ words, d.before a0 Z = true) : ∀ d ∈ words, d.before args s = true := fun d hd => by
  have q := hw d hd
  have t : ∀ d ∈ words, d = .arrayClass .byte ∨ (d.onTables && d.keepsFace) = true := by decide +kernel
  rcases t d hd with rfl | t
  · exact RoadKit.mvA hZ q
  · exact RoadKit.mv hZ q t
/-- WHAT COMES BACK, over the tables of the start Z: h the heap at the call, h' behind it -/
def Q (Z : State) (x : Addr) (A : Cell) (h : Heap) (v : Option Value) (h' : Heap) (L : List Loc) : Prop := v = none ∧ (∀ y ∈ L, y.base = x) ∧ RoadKit.Keep h h' [x] ∧ h'.size = h.size + 1 ∧ RoadKit.Exa Z h' x ST ∧ RoadKit.Fld Z h' x ST "value" "[B" (.ref h.size) ∧ RoadKit.Fld Z h' x ST "coder" "B" (.int 0) ∧
  (∃ V : Cell, RoadKit.Arr Z h' h.size V .byte ∧ V.vm = .none ∧ Z.vm.findClass "[B" = some V.cls ∧ V.slots.size = A.slots.size ∧ ∀ j, j < A.slots.size → V.slots[j]? = some (.int (lo8 (cv A j)))) ∧
  ∀ (O n d : String) (w : Value), RoadKit.Fld Z h x O n d w → RoadKit.slotOf Z O n d ≠ RoadKit.slotOf Z ST "value" "[B" → RoadKit.slotOf Z O n d ≠ RoadKit.slotOf Z ST "coder" "B" → RoadKit.Fld Z h' x O n d w
/-- **new String(chars) AT A CALL, IN THE ROAD'S FORM**: for specialBack behind newO: x the fresh String, b the char[] with the cell A -/
theorem back {p : Program} {l : Launch} {e : Env} {R : Room} {s : State} {args : Array Value} {below : List Frame} {len W : Nat} {Z : State} {a0 : Array Value} {h : Heap} (hZ : Z.Warmed39 s.vm) (hw : ∀ d ∈ words, d.before a0 Z = true) {kI : Nat} (wi : (Jvm.Cond.instantiable ST kI).before a0 Z = true)
    {x b : Addr} {A : Cell} {z : Int32} {v0 c0 : Value} (E : RoadKit.Exa Z h x ST) (V : RoadKit.Fld Z h x ST "value" "[B" v0) (C : RoadKit.Fld Z h x ST "coder" "B" c0) (K : RoadKit.Arr Z h b A .char) (hty : Typed .char A) (S : RoadKit.Sta Z h ST "COMPACT_STRINGS" "Z" (.int z)) (hz : ¬ z = 0)
    (l0 : 0 < A.slots.size) (l2 : A.slots.size ≤ 536870912) (hp : ∀ i, i < A.slots.size → ¬ 255 < cv A i) (hfr : 4 ≤ R.frames) (hlo : W + 65 ≤ R.locals) :
    Back l R p e below s args New1.yN len W (fun P a => a = #[.ref x, .ref b] ∧ P.U.heap = h ∧ P.cells + 1 ≤ R.cells ∧ P.slots + A.slots.size ≤ R.slots)
      (fun P _ v B => ∃ L, Q Z x A h v B.U.heap L ∧ B.locs = P.locs ++ L ∧ B.cells = P.cells + 1 ∧ B.slots = P.slots + A.slots.size) := by
  intro m meth c P g ig mk a X hg hsize hdg hW hn hp'
  obtain ⟨rfl, rfl, r1, r2⟩ := hp'
  have al : Z.vm.Alike P.U.vm := hZ.alike.trans X.warmed.alike
  obtain ⟨D, cfV, kV, iV, fV, hD, gV, stV, knV, obV, asV, slV⟩ := id V
  obtain ⟨D', cfC, kC, iC, fC, hD', gC, stC, -, -, asC, slC⟩ := id C
  cases hD.symm.trans hD'
  obtain ⟨D2, kD, e1, e2, e3, e4, e5⟩ := id E
  cases hD.symm.trans e1
  obtain ⟨c2, k2, i1, i2, i3, -⟩ := Cond.instantiable_spec wi
  cases e2.symm.trans i1
  cases e3.symm.trans i2
  obtain ⟨kU, u1, u2⟩ := al.2.2 _ _ e3
  have hB : Blank ST x D P.U := ⟨hD, ⟨knV, fun q hq => by rw [hq] at obV; cases obV⟩, by rw [al.findClass]; exact e2, kU, u1, by rw [u2]; exact i3, by rw [u2]; exact e5 i3⟩
  have F1 : Found ST "value" "[B" fV P.U := ⟨SBG.found_only al ⟨cfV, kV, iV, gV⟩, stV⟩
  have F2 : Found ST "coder" "B" fC P.U := ⟨SBG.found_only al ⟨cfC, kC, iC, gC⟩, stC⟩
  have hA : Ch b A P.U := ⟨⟨K.1, State.isArrayOf_alike al K.2.1, K.2.2, by omega⟩, hty⟩
  have hS : StaticIs P.U ST "COMPACT_STRINGS" "Z" (.int z) := by
    obtain ⟨cfS, iS, kS, fS, st, cS, t1, t2, t3, t4, t5, t6, t7⟩ := S
    exact StaticIs.there (s := { Z with heap := P.U.heap }) ⟨cfS, iS, kS, fS, st, cS, t1, t2, t3, t4, t5, (fun q => by rw [q] at t6; cases t6), t7⟩ al rfl
  obtain ⟨v, B, X', ⟨⟨hv, E', V', q1, q2, q3, q4, q5, q6, q7, q8, q9, q10, q11⟩, hl, hc, hs⟩, st⟩ := New1.pays x D fV fC b A z (tab_of (moved hZ hw)) hfr hlo m meth c P g ig mk _ X hg hsize hdg hW hn ⟨r1, r2, rfl, hB, F1, F2, hA, hS, hz, l0, l2, hp⟩
  have al' : Z.vm.Alike B.U.vm := hZ.alike.trans X'.warmed.alike
  have hsz : E'.slots.size = D.slots.size := by
    obtain ⟨-, -, -, kB, w1, w2, w3⟩ := q1
    obtain ⟨kB', y1, y2⟩ := al'.2.2 _ _ e3
    rw [q2.2.1] at w1
    cases w1.symm.trans y1
    rw [w3, e5 i3, y2]
  refine ⟨v, B, X', ⟨_, ⟨hv, ?_, ⟨by omega, fun y cy hy hn' => q10 y cy (by simpa using hn') hy, fun y cy hy => ?_⟩, q11, ⟨E', _, q1.1, by rw [q2.2.1]; exact e2, by rw [q2.2.1]; exact e3, by rw [q2.1]; exact obV, fun _ => by rw [hsz]; exact e5 i3⟩,
    ⟨E', cfV, kV, iV, fV, q1.1, gV, stV, by rw [q2.1]; exact knV, by rw [q2.1]; exact obV, by rw [q2.2.1]; exact asV, q3⟩, ⟨E', cfC, kC, iC, fC, q1.1, gC, stC, by rw [q2.1]; exact knV, by rw [q2.1]; exact obV, by rw [q2.2.1]; exact asC, q4⟩,
    ⟨V', ⟨q5.1, State.isArrayOf_alike al'.symm q5.2.1, q5.2.2.1⟩, q6, by rw [← al'.findClass]; exact q7, q8, fun j hj => by have := q9 j hj; rwa [Nat.zero_add] at this⟩, fun O n d w F n1 n2 => ?_⟩, hl, hc, hs⟩, st⟩
  · intro y hy
    simp only [List.mem_cons, List.not_mem_nil, or_false] at hy
    rcases hy with rfl | rfl <;> rfl
  · by_cases q : y = x
    · subst q
      cases hD.symm.trans hy
      exact ⟨E', q1.1, q2.2.1, q2.1, hsz⟩
    · exact ⟨cy, q10 y cy q hy, rfl, rfl, rfl⟩
  · obtain ⟨D3, cf, k, i, f, g1, g2, g3, g4, g5, g6, g7⟩ := F
    cases hD.symm.trans g1
    simp only [RoadKit.slotOf, g2, gV, gC, Option.map_some, Option.getD_some] at n1 n2
    exact ⟨E', cf, k, i, f, q1.1, g2, g3, by rw [q2.1]; exact g4, by rw [q2.1]; exact g5, by rw [q2.2.1]; exact g6, by rw [q2.2.2 f.slot (by simp [n1, n2])]; exact g7⟩
end StrChars.Road
namespace StrChars.Road
open Jvm Sem ClassFile Op Lib Jvm.Stand Jvm.Free Jvm.Free.XT
/-- WHAT COMES BACK, the byte[] as a list of values -/
def QA (Z : State) (x : Addr) (zn : Int32) (cs : List Int32) (h : Heap) (v : Option Value) (h' : Heap) (L : List Loc) : Prop := v = none ∧ (∀ y ∈ L, y.base = x) ∧ RoadKit.Keep h h' [x] ∧ h'.size = h.size + 1 ∧ RoadKit.Exa Z h' x ST ∧ RoadKit.Fld Z h' x ST "value" "[B" (.ref h.size) ∧ RoadKit.Fld Z h' x ST "coder" "B" (.int 0) ∧
  (∃ kb, Z.vm.findClass "[B" = some kb ∧ RoadKit.Arv Z h' h.size kb .byte zn (cs.map fun c => .int (lo8 c)) (.int 0)) ∧
  ∀ (O n d : String) (w : Value), RoadKit.Fld Z h x O n d w → RoadKit.slotOf Z O n d ≠ RoadKit.slotOf Z ST "value" "[B" → RoadKit.slotOf Z O n d ≠ RoadKit.slotOf Z ST "coder" "B" → RoadKit.Fld Z h' x O n d w
/-- **new String(chars) AT A CALL, THE ARRAYS AS LISTS**: the char[] at b holds cs, not empty, no char above 255 -/
theorem backArv {p : Program} {l : Launch} {e : Env} {R : Room} {s : State} {args : Array Value} {below : List Frame} {len W : Nat} {Z : State} {a0 : Array Value} {h : Heap} (hZ : Z.Warmed39 s.vm) (hw : ∀ d ∈ words, d.before a0 Z = true) {kI : Nat} (wi : (Jvm.Cond.instantiable ST kI).before a0 Z = true)
    {x b : Addr} {k : ClassId} {zn z : Int32} {cs : List Int32} {dv v0 c0 : Value} (E : RoadKit.Exa Z h x ST) (V : RoadKit.Fld Z h x ST "value" "[B" v0) (C : RoadKit.Fld Z h x ST "coder" "B" c0) (K : RoadKit.Arv Z h b k .char zn (cs.map Value.int) dv) (S : RoadKit.Sta Z h ST "COMPACT_STRINGS" "Z" (.int z)) (hz : ¬ z = 0)
    (hlen : zn.toNatClampNeg = cs.length) (h0 : 0 < cs.length) (hbig : cs.length ≤ 536870912) (hall : ∀ c ∈ cs, ¬ 255 < c) (hfr : 4 ≤ R.frames) (hlo : W + 65 ≤ R.locals) :
    Back l R p e below s args New1.yN len W (fun P a => a = #[.ref x, .ref b] ∧ P.U.heap = h ∧ P.cells + 1 ≤ R.cells ∧ P.slots + cs.length ≤ R.slots)
      (fun P _ v B => ∃ L, QA Z x zn cs h v B.U.heap L ∧ B.locs = P.locs ++ L ∧ B.cells = P.cells + 1 ∧ B.slots = P.slots + cs.length) := by
  obtain ⟨A, K1, K2, K3, K4, K5, K6⟩ := K
  have e : A.slots.size = cs.length := K3.trans hlen
  have hat : ∀ (i : Nat) (hi : i < cs.length), A.slots[i]? = some (.int cs[i]) := fun i hi => by rw [K5 i (by omega)]; simp [List.getD_eq_getElem?_getD, hi]
  have hcv : ∀ (i : Nat) (hi : i < cs.length), cv A i = cs[i] := fun i hi => by unfold cv; rw [hat i hi]
  have hty : Typed .char A := fun i v hv => by
    have hi : i < A.slots.size := (Array.getElem?_eq_some_iff.mp hv).1
    have q := K5 i hi
    rw [hv] at q
    rw [Option.some.inj q]
    exact K6 i hi
  refine Back.mono (back hZ hw wi E V C K1 hty S hz (by omega) (by omega) (fun i hi => by rw [hcv i (by omega)]; exact hall _ (List.getElem_mem _)) hfr hlo) (fun P a hp => ⟨hp.1, hp.2.1, hp.2.2.1, by rw [e]; exact hp.2.2.2⟩) (fun P a v B hp hq => ?_)
  obtain ⟨L, ⟨q1, q2, q3, q4, q5, q6, q7, ⟨V', v1, v2, v3, v4, v5⟩, q9⟩, hl, hc, hs⟩ := hq
  refine ⟨L, ⟨q1, q2, q3, q4, q5, q6, q7, ⟨V'.cls, v3, V', v1, rfl, by rw [v4, e, hlen], K4, fun i hi => ?_, fun i hi => ?_⟩, q9⟩, hl, hc, by rw [hs, e]⟩
  · have hi' : i < cs.length := by omega
    rw [v5 i (by omega), hcv i hi']; simp [List.getD_eq_getElem?_getD, hi']
  · have hi' : i < cs.length := by omega
    simp only [List.getD_eq_getElem?_getD, List.getElem?_map, List.getElem?_eq_getElem hi', Option.map_some, Option.getD_some]
    exact fits_lo8 _
end StrChars.Road
namespace StrChars.Road
open Jvm Sem ClassFile Op Lib Jvm.Stand Jvm.Free Jvm.Free.XT
/-- WHAT COMES BACK, in the writer's own shape -/
def QV (Z : State) (x : Addr) (N : Int32) (bs : List Int32) (h : Heap) (n0 : Nat) (v : Option Value) (h' : Heap) (L : List Loc) : Prop := v = none ∧ RoadKit.Fr n0 L ∧ RoadKit.Keep h h' [x] ∧ RoadKit.Exa Z h' x ST ∧ RoadKit.Fld Z h' x ST "coder" "B" (.int 0) ∧
  ∃ (t : Addr) (kb : ClassId), n0 ≤ t ∧ h.size ≤ t ∧ ¬ t = x ∧ RoadKit.Fld Z h' x ST "value" "[B" (.ref t) ∧ RoadKit.Arv Z h' t kb .byte N (bs.map Value.int) (.int 0)
/-- **new String(chars) AT A CALL, FOR THE WRITER**: a char[] of n known ints, each 0 to 255 -/
theorem backV {p : Program} {l : Launch} {e : Env} {R : Room} {s : State} {args : Array Value} {below : List Frame} {len W : Nat} {Z : State} {a0 : Array Value} {h : Heap} (hZ : Z.Warmed39 s.vm) (hw : ∀ d ∈ words, d.before a0 Z = true) {kI : Nat} (wi : (Jvm.Cond.instantiable ST kI).before a0 Z = true)
    {x b : Addr} {kC : ClassId} {cs bs : List Int32} {d v0 c0 : Value} {z N : Int32} {n n0 : Nat} (hx0 : n0 ≤ x) (hh0 : n0 ≤ h.size) (E : RoadKit.Exa Z h x ST) (V : RoadKit.Fld Z h x ST "value" "[B" v0) (C : RoadKit.Fld Z h x ST "coder" "B" c0) (K : RoadKit.Arv Z h b kC .char N (cs.map Value.int) d) (S : RoadKit.Sta Z h ST "COMPACT_STRINGS" "Z" (.int z)) (hz : ¬ z = 0)
    (hn : cs.length = n) (hN : N = Int32.ofNat n) (l0 : 0 < n) (l2 : n ≤ 4000) (hp : ∀ c ∈ cs, ¬ c < 0 ∧ ¬ (255 : Int32) < c) (hb : bs = cs.map (fun c => c.toInt8.toInt32)) (hfr : 4 ≤ R.frames) (hlo : W + 65 ≤ R.locals) :
    Back l R p e below s args (⟨"java/lang/String", "<init>", "([C)V"⟩ : MethodName) len W (fun P a => a = #[.ref x, .ref b] ∧ P.U.heap = h ∧ P.cells + 1 ≤ R.cells ∧ P.slots + n ≤ R.slots)
      (fun P _ v B => ∃ L, QV Z x N bs h n0 v B.U.heap L ∧ B.locs = P.locs ++ L ∧ B.cells = P.cells + 1 ∧ B.slots = P.slots + n) := by
  subst hn hN hb
  refine Back.mono (backArv hZ hw wi E V C K S hz (n32 (by omega)) l0 (by omega) (fun c hc => (hp c hc).2) hfr hlo) (fun P a hp => hp) (fun P a v B hp hq => ?_)
  obtain ⟨L, ⟨q1, q2, q3, q4, q5, q6, q7, ⟨kb, v1, v2⟩, q9⟩, hl, hc, hs⟩ := hq
  exact ⟨L, ⟨q1, fun y hy => by rw [q2 y hy]; exact hx0, q3, q5, q7, h.size, kb, hh0, Nat.le_refl _, Nat.ne_of_gt E.lt, q6, by rw [List.map_map]; exact v2⟩, hl, hc, hs⟩
end StrChars.Road
end Jvm.Pilot.@@N@@
namespace Jvm.Pilot.@@N@@
open Jvm Jvm.ClassFile Sem Op Lib Jvm.Free Jvm.Stand Jvm.LawKit Jvm.RoadKit Bundle Jvm.Own Jvm.Pilot.@@N@@.Jvm.D
theorem own_pd0 : parseMethodDescriptor "()V" = some ⟨[], none⟩ := by decide +kernel
theorem own_fd0 : parseFieldDescriptor "Ljava/lang/String;" = some (.object "java/lang/String") := by decide +kernel
theorem own_nes0 : ("candidate" : String) ≠ "person" := by decide +kernel
theorem own_nes1 : ("agreement" : String) ≠ "person" := by decide +kernel
theorem own_fd1 : parseFieldDescriptor "D" = some .double := by decide +kernel
theorem own_nes2 : ("held" : String) ≠ "person" := by decide +kernel
theorem own_fd2 : parseFieldDescriptor "J" = some .long := by decide +kernel
theorem own_nes3 : ("grade" : String) ≠ "person" := by decide +kernel
theorem own_fd3 : parseFieldDescriptor "Lcom/example/attestry/attestry/store/PossibleMatch$Grade;" = some (.object "com/example/attestry/attestry/store/PossibleMatch$Grade") := by decide +kernel
theorem own_nes4 : ("person" : String) ≠ "candidate" := by decide +kernel
theorem own_nes5 : ("agreement" : String) ≠ "candidate" := by decide +kernel
theorem own_nes6 : ("held" : String) ≠ "candidate" := by decide +kernel
theorem own_nes7 : ("grade" : String) ≠ "candidate" := by decide +kernel
theorem own_nes8 : ("person" : String) ≠ "agreement" := by decide +kernel
theorem own_nes9 : ("candidate" : String) ≠ "agreement" := by decide +kernel
theorem own_nes10 : ("held" : String) ≠ "agreement" := by decide +kernel
theorem own_nes11 : ("grade" : String) ≠ "agreement" := by decide +kernel
theorem own_nes12 : ("person" : String) ≠ "held" := by decide +kernel
theorem own_nes13 : ("candidate" : String) ≠ "held" := by decide +kernel
theorem own_nes14 : ("agreement" : String) ≠ "held" := by decide +kernel
theorem own_nes15 : ("grade" : String) ≠ "held" := by decide +kernel
theorem own_nes16 : ("person" : String) ≠ "grade" := by decide +kernel
theorem own_nes17 : ("candidate" : String) ≠ "grade" := by decide +kernel
theorem own_nes18 : ("agreement" : String) ≠ "grade" := by decide +kernel
theorem own_nes19 : ("held" : String) ≠ "grade" := by decide +kernel
theorem own_pd1 : parseMethodDescriptor "(DJ)V" = some ⟨[.double, .long], none⟩ := by decide +kernel
theorem own_fd4 : parseFieldDescriptor "B" = some .byte := by decide +kernel
theorem own_fd5 : parseFieldDescriptor "[B" = some (.array .byte) := by decide +kernel
theorem own_pd2 : parseMethodDescriptor "(Ljava/lang/String;Ljava/lang/String;DJLcom/example/attestry/attestry/store/PossibleMatch$Grade;)V" = some ⟨[(.object "java/lang/String"), (.object "java/lang/String"), .double, .long, (.object "com/example/attestry/attestry/store/PossibleMatch$Grade")], none⟩ := by decide +kernel
theorem own_pd3 : parseMethodDescriptor "()Lcom/example/attestry/attestry/store/PossibleMatch$Position;" = some ⟨[], some (.object "com/example/attestry/attestry/store/PossibleMatch$Position")⟩ := by decide +kernel
theorem own_pd4 : parseMethodDescriptor "()D" = some ⟨[], some .double⟩ := by decide +kernel
theorem own_pd5 : parseMethodDescriptor "()J" = some ⟨[], some .long⟩ := by decide +kernel
theorem own_pn0 : plainName "java/lang/Record" = true := by first | (simp [plainName, overriddenIn]; done) | decide +kernel
theorem own_pn1 : plainName "com/example/attestry/attestry/store/PossibleMatch" = true := by first | (simp [plainName, overriddenIn]; done) | decide +kernel
theorem own_pn2 : plainName "com/example/attestry/attestry/store/PossibleMatch$Position" = true := by first | (simp [plainName, overriddenIn]; done) | decide +kernel
theorem own_pn3 : plainName "com/example/attestry/attestry/store/PossibleMatchPositionPinLaw" = true := by first | (simp [plainName, overriddenIn]; done) | decide +kernel
theorem own_and255 (x : Int32) : ¬ (x &&& 255) < 0 ∧ ¬ (255 : Int32) < (x &&& 255) := by
  have e := Jvm.Kit.i32_mask x 255 (k := 8) (by decide) (by decide)
  rw [Int32.lt_iff_toInt_lt, Int32.lt_iff_toInt_lt, e, show (0 : Int32).toInt = 0 from rfl, show (255 : Int32).toInt = 255 from rfl]
  omega
theorem own_lat (x : Int32) : ¬ nar .char ((x &&& (255 : Int32)).toUInt32.toUInt16.toUInt32.toInt32) < 0 ∧ ¬ (255 : Int32) < nar .char ((x &&& (255 : Int32)).toUInt32.toUInt16.toUInt32.toInt32) := by
  rw [show nar .char ((x &&& (255 : Int32)).toUInt32.toUInt16.toUInt32.toInt32) = x &&& 255 from by simp only [nar, i2c_mask]]; exact own_and255 x
theorem g_str {p : Program} {l : Launch} {e : Env} {R : Room} {s : State} {m : MethodId} {args : Array Value} {below : List Frame} {meth : Method} {c : Code} {T : State} {locs : List Loc} {cells slots : Nat} {P : Outcome → State → Prop} {code : ByteArray} {pc pc' : Nat} {Ls : Array Slot} {st st' : List Value} {h : Heap} {Z : State} {a0 : Array Value} {own : String}
    (X : Stand p l e R s m args below meth c T locs cells slots) (hx : p.tables.exec = Jvm.exec) (hby : c.code = code) (hml : Ls.size = c.maxLocals) (hZ : Z.Warmed39 s.vm) (hown : s.vm.findClass own = some m.cls) {i : Nat} {bytes : ByteArray} {maxL kI W : Nat} {x b : Addr} {kC : ClassId} {cs : List Int32} {d v0 c0 : Value} {z N : Int32} {n k0 : Nat} (eT : T.heap = h) (hws : ∀ d ∈ StrChars.Road.words, d.before a0 Z = true)
    (w1 : (Jvm.Cond.methodLink own i (⟨"java/lang/String", "<init>", "([C)V"⟩ : MethodName)).before a0 Z = true) (w2 : (Jvm.Cond.instanceMethod (⟨"java/lang/String", "<init>", "([C)V"⟩ : MethodName)).before a0 Z = true) (w4 : (Jvm.Cond.code (⟨"java/lang/String", "<init>", "([C)V"⟩ : MethodName) bytes maxL none).before a0 Z = true) (wi : (Jvm.Cond.instantiable "java/lang/String" kI).before a0 Z = true)
    (hx0 : k0 ≤ x) (hh0 : k0 ≤ h.size) (E : Exa Z h x "java/lang/String") (V : Fld Z h x "java/lang/String" "value" "[B" v0) (C : Fld Z h x "java/lang/String" "coder" "B" c0) (K : Arv Z h b kC .char N (cs.map Value.int) d) (S : Sta Z h "java/lang/String" "COMPACT_STRINGS" "Z" (.int z)) (hz : ¬ z = 0) (hn : cs.length = n) (hN : N = Int32.ofNat n) (l0 : 0 < n) (l2 : n ≤ 4000) (hp : ∀ c ∈ cs, ¬ c < 0 ∧ ¬ (255 : Int32) < c)
    (hfr : 4 ≤ R.frames) (hlo : W + 65 ≤ R.locals) (hc : cells + 1 ≤ R.cells) (hs : slots + n ≤ R.slots) (hst : st = .ref b :: .ref x :: st') (hW : 2 * 0 + (st'.map fun v => v.category).sum = W) (hd : decode code pc = .ok (.invokespecial i, 3)) (hpc : pc + 3 = pc')
    (g : ∀ (T' : State) (L : List Loc) (h' : Heap) (t : Addr) (kb : ClassId), Stand p l e R s m args below meth c T' (locs ++ L) (cells + 1) (slots + n) → T'.heap = h' → Fr k0 L → Keep h h' [x] → Exa Z h' x "java/lang/String" → Fld Z h' x "java/lang/String" "coder" "B" (.int 0) → k0 ≤ t → h.size ≤ t → ¬ t = x → Fld Z h' x "java/lang/String" "value" "[B" (.ref t) → Arv Z h' t kb .byte N ((cs.map fun c => c.toInt8.toInt32).map Value.int) (.int 0) → Gf p e below P T' m pc' Ls st') : Gf p e below P T m pc Ls st := by
  subst hpc hst
  obtain ⟨v, _, ⟨T', L', k', n'⟩, -, X', ⟨Lc, hQ, hl', hy', hz'⟩, k⟩ := X.specialBack hx (y := (⟨"java/lang/String", "<init>", "([C)V"⟩ : MethodName)) rfl hown (mvT hZ w1) (mvT hZ w2) (mvT hZ w4) (by decide) (StrChars.Road.backV (W := W) hZ hws wi (bs := cs.map fun c => c.toInt8.toInt32) hx0 hh0 E V C K S hz hn hN l0 l2 hp rfl hfr hlo) (g := mkF m pc Ls _) rfl hml (Steps.refl _) (a := x) (argsL := [.ref b]) (rest := st') (lenOf (ps := [.array .char]) (r := none) (by decide +kernel) rfl) rfl (Nat.le_of_eq hW) (hb hby hd) (fun _ _ => ⟨rfl, eT, hc, hs⟩)
  dsimp only [Pt.U, Pt.locs, Pt.cells, Pt.slots] at X' hl' hy' hz' k hQ
  subst hl' hy' hz'
  obtain ⟨rfl, q1, q2, q3, q4, t, kb, q5, q6, q7, q8, q9⟩ := hQ
  exact Go.step (fun t k2 => k.trans k2) (g T' Lc _ t kb X' rfl q1 q2 q3 q4 q5 q6 q7 q8 q9)

theorem own_lc0 (x : Int64) : lcmpW x x = 0 := by rw [lcW]; exact (lc_eq x x).mpr rfl
theorem own_nni {n : Int32} {w : UInt64} (h : FP.i2d n = w) (o : CmpOp) : cmpValue (FP.dcmp w w) o = 0 := by
  subst h
  exact dcmpV_self (rv_nn (rv_i2d n)) o

theorem own_d8_0 : decode jdk_30_method_1_code 0 = .ok (.aload_n 0, 1) := by decide +kernel
theorem own_d8_1 : decode jdk_30_method_1_code 1 = .ok (.invokespecial 1, 3) := by decide +kernel
theorem own_d8_4 : decode jdk_30_method_1_code 4 = .ok (.return_, 1) := by decide +kernel
def own_Q8 (Z : State) (a : Addr) (h0 : Heap) (n0 : Nat) (v : Option Value) (h : Heap) (L : List Loc) : Prop := v = none ∧ Fr n0 L ∧ h = h0
set_option maxRecDepth 65536 in
set_option maxHeartbeats 40000000 in
theorem own_rm8 (l : Launch) (Z : State) (a0 : Array Value) (hw : ∀ d ∈ tables_1, d.before a0 Z = true) (ws : List Jvm.Cond) (a : Addr) (h0 : Heap) (n0 : Nat) (Z0 : n0 ≤ h0.size) :
    Con l Z (⟨"java/lang/Record", "<init>", "()V"⟩ : MethodName) jdk_30_method_1_code 1 none ws ({ frames := 1, cells := 0, slots := 0, locals := 12 } : Room) #[(.ref a)] h0 (own_Q8 Z a h0 n0) := by
  refine Con.start #[.val (.ref a)] (plainFor_of_name own_pn0) (fun m => by first | (refine own_ef ?_; exact rfl) | (simp [entryFrame, mkF, argsToLocals, Value.category]; done) | rfl) ?_
  intro p e s m below meth c s₁ P X0 hx hby hml hret hlk hown hnm hZ e0 hf
  have hml : c.maxLocals = 1 := hml
  have N0 := Fr.nil n0
  refine g_aloadN (pc' := 1) X0 hx hby (v := (.ref a)) own_d8_0 rfl rfl rfl ?_
  refine g_initO (pc' := 4) X0 hx hby hZ hown (hw _ (List.mem_of_getElem? (i := 44) rfl)) (hw _ (List.mem_of_getElem? (i := 18) rfl)) (hw _ (List.mem_of_getElem? (i := 19) rfl)) e0 (by rw [hml]; rfl) rfl own_d8_1 rfl (by decide) (W := 0) rfl (by decide) ?_
  intro T1 X1 e1
  exact g_ret X1 hx hby hf hlk hret own_d8_4 rfl (by decide) (by decide) e1 ⟨rfl, N0, rfl⟩
theorem own_d7_0 : decode prog_23_method_1_code 0 = .ok (.aload_n 0, 1) := by decide +kernel
theorem own_d7_1 : decode prog_23_method_1_code 1 = .ok (.invokespecial 1, 3) := by decide +kernel
theorem own_d7_4 : decode prog_23_method_1_code 4 = .ok (.aload_n 0, 1) := by decide +kernel
theorem own_d7_5 : decode prog_23_method_1_code 5 = .ok (.aload_n 1, 1) := by decide +kernel
theorem own_d7_6 : decode prog_23_method_1_code 6 = .ok (.putfield 7, 3) := by decide +kernel
theorem own_d7_9 : decode prog_23_method_1_code 9 = .ok (.aload_n 0, 1) := by decide +kernel
theorem own_d7_10 : decode prog_23_method_1_code 10 = .ok (.aload_n 2, 1) := by decide +kernel
theorem own_d7_11 : decode prog_23_method_1_code 11 = .ok (.putfield 13, 3) := by decide +kernel
theorem own_d7_14 : decode prog_23_method_1_code 14 = .ok (.aload_n 0, 1) := by decide +kernel
theorem own_d7_15 : decode prog_23_method_1_code 15 = .ok (.dload_n 3, 1) := by decide +kernel
theorem own_d7_16 : decode prog_23_method_1_code 16 = .ok (.putfield 16, 3) := by decide +kernel
theorem own_d7_19 : decode prog_23_method_1_code 19 = .ok (.aload_n 0, 1) := by decide +kernel
theorem own_d7_20 : decode prog_23_method_1_code 20 = .ok (.lload 5, 2) := by decide +kernel
theorem own_d7_22 : decode prog_23_method_1_code 22 = .ok (.putfield 20, 3) := by decide +kernel
theorem own_d7_25 : decode prog_23_method_1_code 25 = .ok (.aload_n 0, 1) := by decide +kernel
theorem own_d7_26 : decode prog_23_method_1_code 26 = .ok (.aload 7, 2) := by decide +kernel
theorem own_d7_28 : decode prog_23_method_1_code 28 = .ok (.putfield 24, 3) := by decide +kernel
theorem own_d7_31 : decode prog_23_method_1_code 31 = .ok (.return_, 1) := by decide +kernel
def own_Q7 (Z : State) (a : Addr) (pe : Addr) (ca : Addr) (ag : UInt64) (he : Int64) (gr : Addr) (h0 : Heap) (n0 : Nat) (v : Option Value) (h : Heap) (L : List Loc) : Prop := v = none ∧ Fr n0 L ∧ Keep h0 h [a] ∧ Exa Z h a "com/example/attestry/attestry/store/PossibleMatch" ∧ Fld Z h a "com/example/attestry/attestry/store/PossibleMatch" "person" "Ljava/lang/String;" (.ref pe) ∧ Fld Z h a "com/example/attestry/attestry/store/PossibleMatch" "candidate" "Ljava/lang/String;" (.ref ca) ∧ Fld Z h a "com/example/attestry/attestry/store/PossibleMatch" "agreement" "D" (.double ag) ∧ Fld Z h a "com/example/attestry/attestry/store/PossibleMatch" "held" "J" (.long he)
set_option maxRecDepth 65536 in
set_option maxHeartbeats 40000000 in
theorem own_rm7 (l : Launch) (Z : State) (a0 : Array Value) (hw : ∀ d ∈ tables_1, d.before a0 Z = true) (ws : List Jvm.Cond) (a : Addr) (pe : Addr) (ca : Addr) (ag : UInt64) (he : Int64) (gr : Addr) (h0 : Heap) (n0 : Nat) (Z0 : n0 ≤ h0.size) (c0 : Exa Z h0 a "com/example/attestry/attestry/store/PossibleMatch") (c1 : Fld Z h0 a "com/example/attestry/attestry/store/PossibleMatch" "person" "Ljava/lang/String;" .null) (c2 : Fld Z h0 a "com/example/attestry/attestry/store/PossibleMatch" "candidate" "Ljava/lang/String;" .null) (c3 : Fld Z h0 a "com/example/attestry/attestry/store/PossibleMatch" "agreement" "D" (.double (0 : UInt64))) (c4 : Fld Z h0 a "com/example/attestry/attestry/store/PossibleMatch" "held" "J" (.long (0 : Int64))) (c5 : Fld Z h0 a "com/example/attestry/attestry/store/PossibleMatch" "grade" "Lcom/example/attestry/attestry/store/PossibleMatch$Grade;" .null) (c6 : n0 ≤ a) :
    Con l Z (⟨"com/example/attestry/attestry/store/PossibleMatch", "<init>", "(Ljava/lang/String;Ljava/lang/String;DJLcom/example/attestry/attestry/store/PossibleMatch$Grade;)V"⟩ : MethodName) prog_23_method_1_code 8 none ws ({ frames := 2, cells := 0, slots := 0, locals := 24 } : Room) #[(.ref a), (.ref pe), (.ref ca), (.double ag), (.long he), (.ref gr)] h0 (own_Q7 Z a pe ca ag he gr h0 n0) := by
  refine Con.start #[.val (.ref a), .val (.ref pe), .val (.ref ca), .val (.double ag), .second, .val (.long he), .second, .val (.ref gr)] (plainFor_of_name own_pn1) (fun m => by first | (refine own_ef ?_; exact rfl) | (simp [entryFrame, mkF, argsToLocals, Value.category]; done) | rfl) ?_
  intro p e s m below meth c s₁ P X0 hx hby hml hret hlk hown hnm hZ e0 hf
  have hml : c.maxLocals = 8 := hml
  have N0 := Fr.nil n0
  have K0 : Keep h0 h0 [a] := Keep.refl _ _
  refine g_aloadN (pc' := 1) X0 hx hby (v := (.ref a)) own_d7_0 rfl rfl rfl ?_
  refine g_init (argsL := []) (pc' := 4) X0 hx hby (by rw [hml]; rfl) hZ hown rfl e0 (own_rm8 l Z a0 hw [] a  h0 n0 Z0) (hw _ (List.mem_of_getElem? (i := 39) rfl)) (hw _ (List.mem_of_getElem? (i := 40) rfl)) (hw _ (List.mem_of_getElem? (i := 42) rfl)) (hw _ (List.mem_of_getElem? (i := 43) rfl)) (by decide) own_pd0 rfl rfl (W := 0) rfl (by decide) (by decide) (by decide) (by decide) own_d7_1 rfl ?_
  intro T1 v1 L1 X1 qq1
  obtain ⟨rfl, n1, e1⟩ := qq1
  have N1 := Fr.app N0 n1
  show Gf p e below P T1 m 4 #[.val (.ref a), .val (.ref pe), .val (.ref ca), .val (.double ag), .second, .val (.long he), .second, .val (.ref gr)] []
  refine g_aloadN (pc' := 5) X1 hx hby (v := (.ref a)) own_d7_4 rfl rfl rfl ?_
  refine g_aloadN (pc' := 6) X1 hx hby (v := (.ref pe)) own_d7_5 rfl rfl rfl ?_
  refine g_putF (pc' := 9) X1 hx hby hZ hown (host := "") (Or.inl (hw _ (List.mem_of_getElem? (i := 45) rfl))) Via.refl e1 c1 c0 (Or.inr ⟨(hw _ (List.mem_of_getElem? (i := 46) rfl)), rfl, hnm⟩) (hw _ (List.mem_of_getElem? (i := 5) rfl)) (ty := (.object "java/lang/String")) own_fd0 rfl rfl rfl own_d7_6 rfl N1 c6 ?_
  intro T2 h2 X2 e2 W2 N2
  have f3 := c0.wr W2
  have f4 := c1.same W2
  have f5 := c2.other W2 (Or.inr (slot_ne (Or.inr (hw _ (List.mem_of_getElem? (i := 48) rfl))) (Or.inr (hw _ (List.mem_of_getElem? (i := 46) rfl))) own_nes0 own_fd0 own_fd0))
  have f6 := c3.other W2 (Or.inr (slot_ne (Or.inr (hw _ (List.mem_of_getElem? (i := 50) rfl))) (Or.inr (hw _ (List.mem_of_getElem? (i := 46) rfl))) own_nes1 own_fd1 own_fd0))
  have f7 := c4.other W2 (Or.inr (slot_ne (Or.inr (hw _ (List.mem_of_getElem? (i := 52) rfl))) (Or.inr (hw _ (List.mem_of_getElem? (i := 46) rfl))) own_nes2 own_fd2 own_fd0))
  have f8 := c5.other W2 (Or.inr (slot_ne (Or.inr (hw _ (List.mem_of_getElem? (i := 54) rfl))) (Or.inr (hw _ (List.mem_of_getElem? (i := 46) rfl))) own_nes3 own_fd3 own_fd0))
  have z2 := Nat.le_trans Z0 (Keep.of_wr W2).1
  have K2 := K0.wr W2 (Or.inl (List.mem_of_getElem? (i := 0) rfl))
  refine g_aloadN (pc' := 10) X2 hx hby (v := (.ref a)) own_d7_9 rfl rfl rfl ?_
  refine g_aloadN (pc' := 11) X2 hx hby (v := (.ref ca)) own_d7_10 rfl rfl rfl ?_
  refine g_putF (pc' := 14) X2 hx hby hZ hown (host := "") (Or.inl (hw _ (List.mem_of_getElem? (i := 47) rfl))) Via.refl e2 f5 f3 (Or.inr ⟨(hw _ (List.mem_of_getElem? (i := 48) rfl)), rfl, hnm⟩) (hw _ (List.mem_of_getElem? (i := 5) rfl)) (ty := (.object "java/lang/String")) own_fd0 rfl rfl rfl own_d7_11 rfl N2 c6 ?_
  intro T9 h9 X9 e9 W9 N9
  have f10 := f3.wr W9
  have f11 := f4.other W9 (Or.inr (slot_ne (Or.inr (hw _ (List.mem_of_getElem? (i := 46) rfl))) (Or.inr (hw _ (List.mem_of_getElem? (i := 48) rfl))) own_nes4 own_fd0 own_fd0))
  have f12 := f5.same W9
  have f13 := f6.other W9 (Or.inr (slot_ne (Or.inr (hw _ (List.mem_of_getElem? (i := 50) rfl))) (Or.inr (hw _ (List.mem_of_getElem? (i := 48) rfl))) own_nes5 own_fd1 own_fd0))
  have f14 := f7.other W9 (Or.inr (slot_ne (Or.inr (hw _ (List.mem_of_getElem? (i := 52) rfl))) (Or.inr (hw _ (List.mem_of_getElem? (i := 48) rfl))) own_nes6 own_fd2 own_fd0))
  have f15 := f8.other W9 (Or.inr (slot_ne (Or.inr (hw _ (List.mem_of_getElem? (i := 54) rfl))) (Or.inr (hw _ (List.mem_of_getElem? (i := 48) rfl))) own_nes7 own_fd3 own_fd0))
  have z9 := Nat.le_trans z2 (Keep.of_wr W9).1
  have K9 := K2.wr W9 (Or.inl (List.mem_of_getElem? (i := 0) rfl))
  refine g_aloadN (pc' := 15) X9 hx hby (v := (.ref a)) own_d7_14 rfl rfl rfl ?_
  refine g_dloadN (pc' := 16) X9 hx hby (v := ag) own_d7_15 rfl rfl ?_
  refine g_putF (pc' := 19) X9 hx hby hZ hown (host := "") (Or.inl (hw _ (List.mem_of_getElem? (i := 49) rfl))) Via.refl e9 f13 f10 (Or.inr ⟨(hw _ (List.mem_of_getElem? (i := 50) rfl)), rfl, hnm⟩) (hw _ (List.mem_of_getElem? (i := 5) rfl)) (ty := .double) own_fd1 rfl rfl rfl own_d7_16 rfl N9 c6 ?_
  intro T16 h16 X16 e16 W16 N16
  have f17 := f10.wr W16
  have f18 := f11.other W16 (Or.inr (slot_ne (Or.inr (hw _ (List.mem_of_getElem? (i := 46) rfl))) (Or.inr (hw _ (List.mem_of_getElem? (i := 50) rfl))) own_nes8 own_fd0 own_fd1))
  have f19 := f12.other W16 (Or.inr (slot_ne (Or.inr (hw _ (List.mem_of_getElem? (i := 48) rfl))) (Or.inr (hw _ (List.mem_of_getElem? (i := 50) rfl))) own_nes9 own_fd0 own_fd1))
  have f20 := f13.same W16
  have f21 := f14.other W16 (Or.inr (slot_ne (Or.inr (hw _ (List.mem_of_getElem? (i := 52) rfl))) (Or.inr (hw _ (List.mem_of_getElem? (i := 50) rfl))) own_nes10 own_fd2 own_fd1))
  have f22 := f15.other W16 (Or.inr (slot_ne (Or.inr (hw _ (List.mem_of_getElem? (i := 54) rfl))) (Or.inr (hw _ (List.mem_of_getElem? (i := 50) rfl))) own_nes11 own_fd3 own_fd1))
  have z16 := Nat.le_trans z9 (Keep.of_wr W16).1
  have K16 := K9.wr W16 (Or.inl (List.mem_of_getElem? (i := 0) rfl))
  refine g_aloadN (pc' := 20) X16 hx hby (v := (.ref a)) own_d7_19 rfl rfl rfl ?_
  refine g_lload (pc' := 22) X16 hx hby (v := he) own_d7_20 rfl rfl ?_
  refine g_putF (pc' := 25) X16 hx hby hZ hown (host := "") (Or.inl (hw _ (List.mem_of_getElem? (i := 51) rfl))) Via.refl e16 f21 f17 (Or.inr ⟨(hw _ (List.mem_of_getElem? (i := 52) rfl)), rfl, hnm⟩) (hw _ (List.mem_of_getElem? (i := 5) rfl)) (ty := .long) own_fd2 rfl rfl rfl own_d7_22 rfl N16 c6 ?_
  intro T23 h23 X23 e23 W23 N23
  have f24 := f17.wr W23
  have f25 := f18.other W23 (Or.inr (slot_ne (Or.inr (hw _ (List.mem_of_getElem? (i := 46) rfl))) (Or.inr (hw _ (List.mem_of_getElem? (i := 52) rfl))) own_nes12 own_fd0 own_fd2))
  have f26 := f19.other W23 (Or.inr (slot_ne (Or.inr (hw _ (List.mem_of_getElem? (i := 48) rfl))) (Or.inr (hw _ (List.mem_of_getElem? (i := 52) rfl))) own_nes13 own_fd0 own_fd2))
  have f27 := f20.other W23 (Or.inr (slot_ne (Or.inr (hw _ (List.mem_of_getElem? (i := 50) rfl))) (Or.inr (hw _ (List.mem_of_getElem? (i := 52) rfl))) own_nes14 own_fd1 own_fd2))
  have f28 := f21.same W23
  have f29 := f22.other W23 (Or.inr (slot_ne (Or.inr (hw _ (List.mem_of_getElem? (i := 54) rfl))) (Or.inr (hw _ (List.mem_of_getElem? (i := 52) rfl))) own_nes15 own_fd3 own_fd2))
  have z23 := Nat.le_trans z16 (Keep.of_wr W23).1
  have K23 := K16.wr W23 (Or.inl (List.mem_of_getElem? (i := 0) rfl))
  refine g_aloadN (pc' := 26) X23 hx hby (v := (.ref a)) own_d7_25 rfl rfl rfl ?_
  refine g_aload (pc' := 28) X23 hx hby (v := (.ref gr)) own_d7_26 rfl rfl rfl ?_
  refine g_putF (pc' := 31) X23 hx hby hZ hown (host := "") (Or.inl (hw _ (List.mem_of_getElem? (i := 53) rfl))) Via.refl e23 f29 f24 (Or.inr ⟨(hw _ (List.mem_of_getElem? (i := 54) rfl)), rfl, hnm⟩) (hw _ (List.mem_of_getElem? (i := 5) rfl)) (ty := (.object "com/example/attestry/attestry/store/PossibleMatch$Grade")) own_fd3 rfl rfl rfl own_d7_28 rfl N23 c6 ?_
  intro T30 h30 X30 e30 W30 N30
  have f31 := f24.wr W30
  have f32 := f25.other W30 (Or.inr (slot_ne (Or.inr (hw _ (List.mem_of_getElem? (i := 46) rfl))) (Or.inr (hw _ (List.mem_of_getElem? (i := 54) rfl))) own_nes16 own_fd0 own_fd3))
  have f33 := f26.other W30 (Or.inr (slot_ne (Or.inr (hw _ (List.mem_of_getElem? (i := 48) rfl))) (Or.inr (hw _ (List.mem_of_getElem? (i := 54) rfl))) own_nes17 own_fd0 own_fd3))
  have f34 := f27.other W30 (Or.inr (slot_ne (Or.inr (hw _ (List.mem_of_getElem? (i := 50) rfl))) (Or.inr (hw _ (List.mem_of_getElem? (i := 54) rfl))) own_nes18 own_fd1 own_fd3))
  have f35 := f28.other W30 (Or.inr (slot_ne (Or.inr (hw _ (List.mem_of_getElem? (i := 52) rfl))) (Or.inr (hw _ (List.mem_of_getElem? (i := 54) rfl))) own_nes19 own_fd2 own_fd3))
  have f36 := f29.same W30
  have z30 := Nat.le_trans z23 (Keep.of_wr W30).1
  have K30 := K23.wr W30 (Or.inl (List.mem_of_getElem? (i := 0) rfl))
  exact g_ret X30 hx hby hf hlk hret own_d7_31 rfl (by decide) (by decide) e30 ⟨rfl, N30, K30, f31, f32, f33, f34, f35⟩
theorem own_d10_0 : decode prog_25_method_1_code 0 = .ok (.aload_n 0, 1) := by decide +kernel
theorem own_d10_1 : decode prog_25_method_1_code 1 = .ok (.invokespecial 1, 3) := by decide +kernel
theorem own_d10_4 : decode prog_25_method_1_code 4 = .ok (.aload_n 0, 1) := by decide +kernel
theorem own_d10_5 : decode prog_25_method_1_code 5 = .ok (.dload_n 1, 1) := by decide +kernel
theorem own_d10_6 : decode prog_25_method_1_code 6 = .ok (.putfield 7, 3) := by decide +kernel
theorem own_d10_9 : decode prog_25_method_1_code 9 = .ok (.aload_n 0, 1) := by decide +kernel
theorem own_d10_10 : decode prog_25_method_1_code 10 = .ok (.lload_n 3, 1) := by decide +kernel
theorem own_d10_11 : decode prog_25_method_1_code 11 = .ok (.putfield 13, 3) := by decide +kernel
theorem own_d10_14 : decode prog_25_method_1_code 14 = .ok (.return_, 1) := by decide +kernel
def own_Q10 (Z : State) (a : Addr) (ag : UInt64) (he : Int64) (h0 : Heap) (n0 : Nat) (v : Option Value) (h : Heap) (L : List Loc) : Prop := v = none ∧ Fr n0 L ∧ Keep h0 h [a] ∧ Exa Z h a "com/example/attestry/attestry/store/PossibleMatch$Position" ∧ Fld Z h a "com/example/attestry/attestry/store/PossibleMatch$Position" "agreement" "D" (.double ag) ∧ Fld Z h a "com/example/attestry/attestry/store/PossibleMatch$Position" "held" "J" (.long he)
set_option maxRecDepth 65536 in
set_option maxHeartbeats 40000000 in
theorem own_rm10 (l : Launch) (Z : State) (a0 : Array Value) (hw : ∀ d ∈ tables_1, d.before a0 Z = true) (ws : List Jvm.Cond) (a : Addr) (ag : UInt64) (he : Int64) (h0 : Heap) (n0 : Nat) (Z0 : n0 ≤ h0.size) (c0 : Exa Z h0 a "com/example/attestry/attestry/store/PossibleMatch$Position") (c1 : Fld Z h0 a "com/example/attestry/attestry/store/PossibleMatch$Position" "agreement" "D" (.double (0 : UInt64))) (c2 : Fld Z h0 a "com/example/attestry/attestry/store/PossibleMatch$Position" "held" "J" (.long (0 : Int64))) (c3 : n0 ≤ a) :
    Con l Z (⟨"com/example/attestry/attestry/store/PossibleMatch$Position", "<init>", "(DJ)V"⟩ : MethodName) prog_25_method_1_code 5 none ws ({ frames := 2, cells := 0, slots := 0, locals := 24 } : Room) #[(.ref a), (.double ag), (.long he)] h0 (own_Q10 Z a ag he h0 n0) := by
  refine Con.start #[.val (.ref a), .val (.double ag), .second, .val (.long he), .second] (plainFor_of_name own_pn2) (fun m => by first | (refine own_ef ?_; exact rfl) | (simp [entryFrame, mkF, argsToLocals, Value.category]; done) | rfl) ?_
  intro p e s m below meth c s₁ P X0 hx hby hml hret hlk hown hnm hZ e0 hf
  have hml : c.maxLocals = 5 := hml
  have N0 := Fr.nil n0
  have K0 : Keep h0 h0 [a] := Keep.refl _ _
  refine g_aloadN (pc' := 1) X0 hx hby (v := (.ref a)) own_d10_0 rfl rfl rfl ?_
  refine g_init (argsL := []) (pc' := 4) X0 hx hby (by rw [hml]; rfl) hZ hown rfl e0 (own_rm8 l Z a0 hw [] a  h0 n0 Z0) (hw _ (List.mem_of_getElem? (i := 66) rfl)) (hw _ (List.mem_of_getElem? (i := 40) rfl)) (hw _ (List.mem_of_getElem? (i := 42) rfl)) (hw _ (List.mem_of_getElem? (i := 43) rfl)) (by decide) own_pd0 rfl rfl (W := 0) rfl (by decide) (by decide) (by decide) (by decide) own_d10_1 rfl ?_
  intro T1 v1 L1 X1 qq1
  obtain ⟨rfl, n1, e1⟩ := qq1
  have N1 := Fr.app N0 n1
  show Gf p e below P T1 m 4 #[.val (.ref a), .val (.double ag), .second, .val (.long he), .second] []
  refine g_aloadN (pc' := 5) X1 hx hby (v := (.ref a)) own_d10_4 rfl rfl rfl ?_
  refine g_dloadN (pc' := 6) X1 hx hby (v := ag) own_d10_5 rfl rfl ?_
  refine g_putF (pc' := 9) X1 hx hby hZ hown (host := "") (Or.inl (hw _ (List.mem_of_getElem? (i := 67) rfl))) Via.refl e1 c1 c0 (Or.inr ⟨(hw _ (List.mem_of_getElem? (i := 68) rfl)), rfl, hnm⟩) (hw _ (List.mem_of_getElem? (i := 61) rfl)) (ty := .double) own_fd1 rfl rfl rfl own_d10_6 rfl N1 c3 ?_
  intro T2 h2 X2 e2 W2 N2
  have f3 := c0.wr W2
  have f4 := c1.same W2
  have f5 := c2.other W2 (Or.inr (slot_ne (Or.inr (hw _ (List.mem_of_getElem? (i := 70) rfl))) (Or.inr (hw _ (List.mem_of_getElem? (i := 68) rfl))) own_nes10 own_fd2 own_fd1))
  have z2 := Nat.le_trans Z0 (Keep.of_wr W2).1
  have K2 := K0.wr W2 (Or.inl (List.mem_of_getElem? (i := 0) rfl))
  refine g_aloadN (pc' := 10) X2 hx hby (v := (.ref a)) own_d10_9 rfl rfl rfl ?_
  refine g_lloadN (pc' := 11) X2 hx hby (v := he) own_d10_10 rfl rfl ?_
  refine g_putF (pc' := 14) X2 hx hby hZ hown (host := "") (Or.inl (hw _ (List.mem_of_getElem? (i := 69) rfl))) Via.refl e2 f5 f3 (Or.inr ⟨(hw _ (List.mem_of_getElem? (i := 70) rfl)), rfl, hnm⟩) (hw _ (List.mem_of_getElem? (i := 61) rfl)) (ty := .long) own_fd2 rfl rfl rfl own_d10_11 rfl N2 c3 ?_
  intro T6 h6 X6 e6 W6 N6
  have f7 := f3.wr W6
  have f8 := f4.other W6 (Or.inr (slot_ne (Or.inr (hw _ (List.mem_of_getElem? (i := 68) rfl))) (Or.inr (hw _ (List.mem_of_getElem? (i := 70) rfl))) own_nes14 own_fd1 own_fd2))
  have f9 := f5.same W6
  have z6 := Nat.le_trans z2 (Keep.of_wr W6).1
  have K6 := K2.wr W6 (Or.inl (List.mem_of_getElem? (i := 0) rfl))
  exact g_ret X6 hx hby hf hlk hret own_d10_14 rfl (by decide) (by decide) e6 ⟨rfl, N6, K6, f7, f8, f9⟩
theorem own_d9_0 : decode prog_23_method_2_code 0 = .ok (.new 28, 3) := by decide +kernel
theorem own_d9_3 : decode prog_23_method_2_code 3 = .ok (.dup, 1) := by decide +kernel
theorem own_d9_4 : decode prog_23_method_2_code 4 = .ok (.aload_n 0, 1) := by decide +kernel
theorem own_d9_5 : decode prog_23_method_2_code 5 = .ok (.getfield 16, 3) := by decide +kernel
theorem own_d9_8 : decode prog_23_method_2_code 8 = .ok (.aload_n 0, 1) := by decide +kernel
theorem own_d9_9 : decode prog_23_method_2_code 9 = .ok (.getfield 20, 3) := by decide +kernel
theorem own_d9_12 : decode prog_23_method_2_code 12 = .ok (.invokespecial 30, 3) := by decide +kernel
theorem own_d9_15 : decode prog_23_method_2_code 15 = .ok (.areturn, 1) := by decide +kernel
def own_Q9 (Z : State) (a : Addr) (ag : UInt64) (he : Int64) (h0 : Heap) (n0 : Nat) (v : Option Value) (h : Heap) (L : List Loc) : Prop := ∃ (r : Addr), v = some (.ref r) ∧ Fr n0 L ∧ Keep h0 h [] ∧ h0.size ≤ r ∧ Exa Z h r "com/example/attestry/attestry/store/PossibleMatch$Position" ∧ Fld Z h r "com/example/attestry/attestry/store/PossibleMatch$Position" "agreement" "D" (.double ag) ∧ Fld Z h r "com/example/attestry/attestry/store/PossibleMatch$Position" "held" "J" (.long he)
set_option maxRecDepth 65536 in
set_option maxHeartbeats 40000000 in
theorem own_rm9 (l : Launch) (Z : State) (a0 : Array Value) (hw : ∀ d ∈ tables_1, d.before a0 Z = true) (ws : List Jvm.Cond) (a : Addr) (ag : UInt64) (he : Int64) (h0 : Heap) (n0 : Nat) (Z0 : n0 ≤ h0.size) (c0 : Fld Z h0 a "com/example/attestry/attestry/store/PossibleMatch" "agreement" "D" (.double ag)) (c1 : Fld Z h0 a "com/example/attestry/attestry/store/PossibleMatch" "held" "J" (.long he)) :
    Con l Z (⟨"com/example/attestry/attestry/store/PossibleMatch", "position", "()Lcom/example/attestry/attestry/store/PossibleMatch$Position;"⟩ : MethodName) prog_23_method_2_code 1 (some (.object "com/example/attestry/attestry/store/PossibleMatch$Position")) ws ({ frames := 3, cells := 1, slots := 2, locals := 41 } : Room) #[(.ref a)] h0 (own_Q9 Z a ag he h0 n0) := by
  refine Con.start #[.val (.ref a)] (plainFor_of_name own_pn1) (fun m => by first | (refine own_ef ?_; exact rfl) | (simp [entryFrame, mkF, argsToLocals, Value.category]; done) | rfl) ?_
  intro p e s m below meth c s₁ P X0 hx hby hml hret hlk hown hnm hZ e0 hf
  have hml : c.maxLocals = 1 := hml
  have N0 := Fr.nil n0
  have K0 : Keep h0 h0 [] := Keep.refl _ _
  refine g_new (pc' := 3) X0 hx hby hZ hown (hw _ (List.mem_of_getElem? (i := 60) rfl)) (hw _ (List.mem_of_getElem? (i := 61) rfl)) (hw _ (List.mem_of_getElem? (i := 62) rfl)) e0 own_d9_0 rfl (by decide) (by decide) ?_
  intro T1 h1 rr X1 e1 E1 A1 D1 q1
  have ne2 : a ≠ rr := by rw [q1]; exact Nat.ne_of_lt c0.lt
  have ge1 : n0 ≤ rr := by rw [q1]; exact Z0
  have kp1 : h0.size ≤ rr := by rw [q1]; exact K0.1
  have f3 := c0.ext E1
  have f4 := c1.ext E1
  have f5 : Fld Z h1 rr "com/example/attestry/attestry/store/PossibleMatch$Position" "agreement" "D" (.double (0 : UInt64)) := D1 (Or.inr (hw _ (List.mem_of_getElem? (i := 68) rfl))) (ty := .double) own_fd1
  have f6 : Fld Z h1 rr "com/example/attestry/attestry/store/PossibleMatch$Position" "held" "J" (.long (0 : Int64)) := D1 (Or.inr (hw _ (List.mem_of_getElem? (i := 70) rfl))) (ty := .long) own_fd2
  have z1 := Nat.le_trans Z0 E1.1
  have K1 := K0.ext E1
  refine g_dup (pc' := 4) X1 hx hby own_d9_3 rfl rfl rfl ?_
  refine g_aloadN (pc' := 5) X1 hx hby (v := (.ref a)) own_d9_4 rfl rfl rfl ?_
  refine g_getF (pc' := 8) X1 hx hby hZ hown (host := "") (Or.inl (hw _ (List.mem_of_getElem? (i := 49) rfl))) Via.refl e1 f3 rfl own_d9_5 rfl ?_
  intro T7 X7 e7
  refine g_aloadN (pc' := 9) X7 hx hby (v := (.ref a)) own_d9_8 rfl rfl rfl ?_
  refine g_getF (pc' := 12) X7 hx hby hZ hown (host := "") (Or.inl (hw _ (List.mem_of_getElem? (i := 51) rfl))) Via.refl e7 f4 rfl own_d9_9 rfl ?_
  intro T8 X8 e8
  refine g_init (argsL := [(.double ag), (.long he)]) (pc' := 15) X8 hx hby (by rw [hml]; rfl) hZ hown rfl e8 (own_rm10 l Z a0 hw [] rr ag he  h1 n0 z1 A1 f5 f6 ge1) (hw _ (List.mem_of_getElem? (i := 63) rfl)) (hw _ (List.mem_of_getElem? (i := 64) rfl)) (hw _ (List.mem_of_getElem? (i := 62) rfl)) (hw _ (List.mem_of_getElem? (i := 65) rfl)) (by decide) own_pd1 rfl rfl (W := 1) rfl (by decide) (by decide) (by decide) (by decide) own_d9_12 rfl ?_
  intro T9 v9 L9 X9 qq9
  obtain ⟨h9, e9⟩ : ∃ h, T9.heap = h := ⟨_, rfl⟩
  rw [e9] at qq9
  obtain ⟨rfl, n9, k9, p9_0, p9_1, p9_2⟩ := qq9
  have f10 := f3.keep k9 (ninS ne2 nin0)
  have f11 := f4.keep k9 (ninS ne2 nin0)
  have f12 := A1.keep k9
  have z9 := Nat.le_trans z1 k9.1
  have K9 := K1.trans k9 (allS (Or.inr kp1) all0)
  have N9 := Fr.app N0 n9
  show Gf p e below P T9 m 15 #[.val (.ref a)] [(.ref rr)]
  exact g_retV X9 hx hby hf hlk hret own_d9_15 rfl rfl (Or.inr (Or.inr (Or.inr (Or.inr ⟨rfl, rfl, rfl⟩)))) (by decide) (by decide) e9 ⟨rr, rfl, N9, K9, kp1, p9_0, p9_1, p9_2⟩
theorem own_d11_0 : decode prog_25_method_5_code 0 = .ok (.aload_n 0, 1) := by decide +kernel
theorem own_d11_1 : decode prog_25_method_5_code 1 = .ok (.getfield 7, 3) := by decide +kernel
theorem own_d11_4 : decode prog_25_method_5_code 4 = .ok (.dreturn, 1) := by decide +kernel
def own_Q11 (Z : State) (a : Addr) (ag : UInt64) (h0 : Heap) (n0 : Nat) (v : Option Value) (h : Heap) (L : List Loc) : Prop := v = some (.double ag) ∧ Fr n0 L ∧ h = h0
set_option maxRecDepth 65536 in
set_option maxHeartbeats 40000000 in
theorem own_rm11 (l : Launch) (Z : State) (a0 : Array Value) (hw : ∀ d ∈ tables_1, d.before a0 Z = true) (ws : List Jvm.Cond) (a : Addr) (ag : UInt64) (h0 : Heap) (n0 : Nat) (Z0 : n0 ≤ h0.size) (c0 : Fld Z h0 a "com/example/attestry/attestry/store/PossibleMatch$Position" "agreement" "D" (.double ag)) :
    Con l Z (⟨"com/example/attestry/attestry/store/PossibleMatch$Position", "agreement", "()D"⟩ : MethodName) prog_25_method_5_code 1 (some .double) ws ({ frames := 0, cells := 0, slots := 0, locals := 0 } : Room) #[(.ref a)] h0 (own_Q11 Z a ag h0 n0) := by
  refine Con.start #[.val (.ref a)] (plainFor_of_name own_pn2) (fun m => by first | (refine own_ef ?_; exact rfl) | (simp [entryFrame, mkF, argsToLocals, Value.category]; done) | rfl) ?_
  intro p e s m below meth c s₁ P X0 hx hby hml hret hlk hown hnm hZ e0 hf
  have hml : c.maxLocals = 1 := hml
  have N0 := Fr.nil n0
  refine g_aloadN (pc' := 1) X0 hx hby (v := (.ref a)) own_d11_0 rfl rfl rfl ?_
  refine g_getF (pc' := 4) X0 hx hby hZ hown (host := "") (Or.inl (hw _ (List.mem_of_getElem? (i := 67) rfl))) Via.refl e0 c0 rfl own_d11_1 rfl ?_
  intro T1 X1 e1
  exact g_retV X1 hx hby hf hlk hret own_d11_4 rfl rfl (Or.inr (Or.inr (Or.inl ⟨rfl, rfl, _, rfl⟩))) (by decide) (by decide) e1 ⟨rfl, N0, rfl⟩
theorem own_d12_0 : decode prog_25_method_6_code 0 = .ok (.aload_n 0, 1) := by decide +kernel
theorem own_d12_1 : decode prog_25_method_6_code 1 = .ok (.getfield 13, 3) := by decide +kernel
theorem own_d12_4 : decode prog_25_method_6_code 4 = .ok (.lreturn, 1) := by decide +kernel
def own_Q12 (Z : State) (a : Addr) (he : Int64) (h0 : Heap) (n0 : Nat) (v : Option Value) (h : Heap) (L : List Loc) : Prop := v = some (.long he) ∧ Fr n0 L ∧ h = h0
set_option maxRecDepth 65536 in
set_option maxHeartbeats 40000000 in
theorem own_rm12 (l : Launch) (Z : State) (a0 : Array Value) (hw : ∀ d ∈ tables_1, d.before a0 Z = true) (ws : List Jvm.Cond) (a : Addr) (he : Int64) (h0 : Heap) (n0 : Nat) (Z0 : n0 ≤ h0.size) (c0 : Fld Z h0 a "com/example/attestry/attestry/store/PossibleMatch$Position" "held" "J" (.long he)) :
    Con l Z (⟨"com/example/attestry/attestry/store/PossibleMatch$Position", "held", "()J"⟩ : MethodName) prog_25_method_6_code 1 (some .long) ws ({ frames := 0, cells := 0, slots := 0, locals := 0 } : Room) #[(.ref a)] h0 (own_Q12 Z a he h0 n0) := by
  refine Con.start #[.val (.ref a)] (plainFor_of_name own_pn2) (fun m => by first | (refine own_ef ?_; exact rfl) | (simp [entryFrame, mkF, argsToLocals, Value.category]; done) | rfl) ?_
  intro p e s m below meth c s₁ P X0 hx hby hml hret hlk hown hnm hZ e0 hf
  have hml : c.maxLocals = 1 := hml
  have N0 := Fr.nil n0
  refine g_aloadN (pc' := 1) X0 hx hby (v := (.ref a)) own_d12_0 rfl rfl rfl ?_
  refine g_getF (pc' := 4) X0 hx hby hZ hown (host := "") (Or.inl (hw _ (List.mem_of_getElem? (i := 69) rfl))) Via.refl e0 c0 rfl own_d12_1 rfl ?_
  intro T1 X1 e1
  exact g_retV X1 hx hby hf hlk hret own_d12_4 rfl rfl (Or.inr (Or.inl ⟨rfl, rfl, _, rfl⟩)) (by decide) (by decide) e1 ⟨rfl, N0, rfl⟩
def own_Q0 (Z : State) (av : Int32) (he : Int64) (x1 : Int32) (x2 : Int32) (fl : Int32) (G1 : Int32) (po : Addr) (cn : Addr) (h0 : Heap) (n0 : Nat) (v : Option Value) (h : Heap) (L : List Loc) : Prop := v = some (.int (1 : Int32)) ∧ Fr n0 L ∧ Keep h0 h []
set_option maxRecDepth 65536 in
set_option maxHeartbeats 40000000 in
theorem own_rm0 (l : Launch) (Z : State) (a0 : Array Value) (hw : ∀ d ∈ tables_1, d.before a0 Z = true) (ws : List Jvm.Cond) (av : Int32) (he : Int64) (x1 : Int32) (x2 : Int32) (fl : Int32) (G1 : Int32) (po : Addr) (cn : Addr) (h0 : Heap) (n0 : Nat) (Z0 : n0 ≤ h0.size) (c0 : Sta Z h0 "java/lang/String" "COMPACT_STRINGS" "Z" (.int G1)) (hG : ¬ (G1 = (0 : Int32))) (c2 : Sta Z h0 "com/example/attestry/attestry/store/PossibleMatch$Grade" "POSSIBLE" "Lcom/example/attestry/attestry/store/PossibleMatch$Grade;" (.ref po)) (c3 : Sta Z h0 "com/example/attestry/attestry/store/PossibleMatch$Grade" "CERTAINLY_NOT" "Lcom/example/attestry/attestry/store/PossibleMatch$Grade;" (.ref cn)) :
    Con l Z x code maxLocals ret ws room_1 #[(.int av), (.long he), (.int x1), (.int x2), (.int fl)] h0 (own_Q0 Z av he x1 x2 fl G1 po cn h0 n0) := by
  refine Con.start #[.val (.int av), .val (.long he), .second, .val (.int x1), .val (.int x2), .val (.int fl), .unset, .unset, .unset, .unset, .unset, .unset, .unset] (plainFor_of_name own_pn3) (fun m => by first | (refine own_ef ?_; exact rfl) | (simp [entryFrame, mkF, argsToLocals, Value.category, maxLocals]; done) | rfl) ?_
  intro p e s m below meth c s₁ P X0 hx hby hml hret hlk hown hnm hZ e0 hf
  have hml : c.maxLocals = 13 := hml
  have N0 := Fr.nil n0
  have hret : meth.sig.returnType = some .boolean := hret
  have K0 : Keep h0 h0 [] := Keep.refl _ _
  refine g_iconst (pc' := 1) (v := (1 : Int32)) X0 hx hby at_0 rfl rfl ?_
  refine g_newA (pc' := 3) X0 hx hby hZ (aty := .char) (cap := 1) (hw _ (List.mem_of_getElem? (i := 0) rfl)) e0 rfl (by decide) (by decide) (by decide) (by decide) (by decide) at_1 rfl 1 ?_
  intro T1 h1 c1 ar1 X1 e1 E1 V1 q1
  have ge1 : n0 ≤ ar1 := by rw [q1]; exact Z0
  have kp1 : h0.size ≤ ar1 := by rw [q1]; exact K0.1
  have f2 := c0.ext E1
  have f3 := c2.ext E1
  have f4 := c3.ext E1
  have f1 : Arv Z h1 ar1 c1 .char (1 : Int32) [(.int (0 : Int32))] (.int (0 : Int32)) := V1
  have z1 := Nat.le_trans Z0 E1.1
  have K1 := K0.ext E1
  refine g_dup (pc' := 4) X1 hx hby at_3 rfl rfl rfl ?_
  refine g_iconst (pc' := 5) (v := (0 : Int32)) X1 hx hby at_4 rfl rfl ?_
  refine g_iloadN (pc' := 6) X1 hx hby (v := x1) at_5 rfl rfl ?_
  refine g_sipush (pc' := 9) (v := (255 : Int32)) X1 hx hby at_6 rfl rfl ?_
  refine g_iand (pc' := 10) (v := (x1 &&& (255 : Int32))) X1 hx hby at_9 rfl rfl rfl ?_
  refine g_i2c (pc' := 11) (v := ((x1 &&& (255 : Int32)).toUInt32.toUInt16.toUInt32.toInt32)) X1 hx hby at_10 rfl rfl rfl ?_
  refine g_stC (pc' := 12) X1 hx hby hZ e1 f1 ⟨by decide, by decide⟩ 0 rfl (Nat.le_of_ble_eq_true rfl) rfl at_11 rfl N0 ge1 ?_
  intro T5 h5 X5 e5 W5 N5 V5
  have f6 := f2.wr W5
  have f7 := f3.wr W5
  have f8 := f4.wr W5
  have z5 := Nat.le_trans z1 (Keep.of_wr W5).1
  have K5 := K1.wr W5 (Or.inr kp1)
  have f5 : Arv Z h5 ar1 c1 .char (1 : Int32) [(.int (nar .char ((x1 &&& (255 : Int32)).toUInt32.toUInt16.toUInt32.toInt32)))] (.int (0 : Int32)) := V5
  refine g_astore (pc' := 14) (Ls' := #[.val (.int av), .val (.long he), .second, .val (.int x1), .val (.int x2), .val (.int fl), .val (.ref ar1), .unset, .unset, .unset, .unset, .unset, .unset]) X5 hx hby at_12 rfl rfl rfl rfl ?_
  refine g_iconst (pc' := 15) (v := (1 : Int32)) X5 hx hby at_14 rfl rfl ?_
  refine g_newA (pc' := 17) X5 hx hby hZ (aty := .char) (cap := 1) (hw _ (List.mem_of_getElem? (i := 0) rfl)) e5 rfl (by decide) (by decide) (by decide) (by decide) (by decide) at_15 rfl 1 ?_
  intro T9 h9 c9 ar2 X9 e9 E9 V9 q9
  have ne10 : ar1 ≠ ar2 := by rw [q9]; exact Nat.ne_of_lt f5.lt
  have ge9 : n0 ≤ ar2 := by rw [q9]; exact z5
  have kp9 : h0.size ≤ ar2 := by rw [q9]; exact K5.1
  have f11 := f6.ext E9
  have f12 := f7.ext E9
  have f13 := f8.ext E9
  have f14 := f5.ext E9
  have f9 : Arv Z h9 ar2 c9 .char (1 : Int32) [(.int (0 : Int32))] (.int (0 : Int32)) := V9
  have z9 := Nat.le_trans z5 E9.1
  have K9 := K5.ext E9
  refine g_dup (pc' := 18) X9 hx hby at_17 rfl rfl rfl ?_
  refine g_iconst (pc' := 19) (v := (0 : Int32)) X9 hx hby at_18 rfl rfl ?_
  refine g_iload (pc' := 21) X9 hx hby (v := x2) at_19 rfl rfl ?_
  refine g_sipush (pc' := 24) (v := (255 : Int32)) X9 hx hby at_21 rfl rfl ?_
  refine g_iand (pc' := 25) (v := (x2 &&& (255 : Int32))) X9 hx hby at_24 rfl rfl rfl ?_
  refine g_i2c (pc' := 26) (v := ((x2 &&& (255 : Int32)).toUInt32.toUInt16.toUInt32.toInt32)) X9 hx hby at_25 rfl rfl rfl ?_
  refine g_stC (pc' := 27) X9 hx hby hZ e9 f9 ⟨by decide, by decide⟩ 0 rfl (Nat.le_of_ble_eq_true rfl) rfl at_26 rfl N5 ge9 ?_
  intro T15 h15 X15 e15 W15 N15 V15
  have f16 := f11.wr W15
  have f17 := f12.wr W15
  have f18 := f13.wr W15
  have f19 := f14.other W15 ne10
  have z15 := Nat.le_trans z9 (Keep.of_wr W15).1
  have K15 := K9.wr W15 (Or.inr kp9)
  have f15 : Arv Z h15 ar2 c9 .char (1 : Int32) [(.int (nar .char ((x2 &&& (255 : Int32)).toUInt32.toUInt16.toUInt32.toInt32)))] (.int (0 : Int32)) := V15
  refine g_astore (pc' := 29) (Ls' := #[.val (.int av), .val (.long he), .second, .val (.int x1), .val (.int x2), .val (.int fl), .val (.ref ar1), .val (.ref ar2), .unset, .unset, .unset, .unset, .unset]) X15 hx hby at_27 rfl rfl rfl rfl ?_
  refine g_iload (pc' := 31) X15 hx hby (v := fl) at_29 rfl rfl ?_
  refine g_iconst (pc' := 32) (v := (1 : Int32)) X15 hx hby at_31 rfl rfl ?_
  refine g_iand (pc' := 33) (v := (fl &&& (1 : Int32))) X15 hx hby at_32 rfl rfl rfl ?_
  obtain ⟨gr, h_gr⟩ : ∃ z : Addr, z = (if (fl &&& (1 : Int32)) = (0 : Int32) then cn else po) := ⟨_, rfl⟩
  refine own_join P X15 e15 45 #[.val (.int av), .val (.long he), .second, .val (.int x1), .val (.int x2), .val (.int fl), .val (.ref ar1), .val (.ref ar2), .unset, .unset, .unset, .unset, .unset] [(.ref gr)] ?_ ?_
  · intro T20 X20 e20
    refine g_astore (pc' := 47) (Ls' := #[.val (.int av), .val (.long he), .second, .val (.int x1), .val (.int x2), .val (.int fl), .val (.ref ar1), .val (.ref ar2), .val (.ref gr), .unset, .unset, .unset, .unset]) X20 hx hby at_45 rfl rfl rfl rfl ?_
    refine g_iloadN (pc' := 48) X20 hx hby (v := av) at_47 rfl rfl ?_
    obtain ⟨x9_48, h_x9_48⟩ : ∃ z : UInt64, FP.i2d av = z := ⟨_, rfl⟩
    refine g_i2d (pc' := 49) (v := x9_48) X20 hx hby at_48 rfl h_x9_48 rfl ?_
    refine g_dstore (pc' := 51) (Ls' := #[.val (.int av), .val (.long he), .second, .val (.int x1), .val (.int x2), .val (.int fl), .val (.ref ar1), .val (.ref ar2), .val (.ref gr), .val (.double x9_48), .second, .unset, .unset]) X20 hx hby at_49 rfl rfl rfl ?_
    refine g_new (pc' := 54) X20 hx hby hZ hown (hw _ (List.mem_of_getElem? (i := 4) rfl)) (hw _ (List.mem_of_getElem? (i := 5) rfl)) (hw _ (List.mem_of_getElem? (i := 6) rfl)) e20 at_51 rfl (by decide) (by decide) ?_
    intro T21 h21 pm X21 e21 E21 A21 D21 q21
    have ne22 : ar1 ≠ pm := by rw [q21]; exact Nat.ne_of_lt f19.lt
    have ne23 : ar2 ≠ pm := by rw [q21]; exact Nat.ne_of_lt f15.lt
    have ge21 : n0 ≤ pm := by rw [q21]; exact z15
    have kp21 : h0.size ≤ pm := by rw [q21]; exact K15.1
    have f24 := f16.ext E21
    have f25 := f17.ext E21
    have f26 := f18.ext E21
    have f27 := f19.ext E21
    have f28 := f15.ext E21
    have f29 : Fld Z h21 pm "com/example/attestry/attestry/store/PossibleMatch" "person" "Ljava/lang/String;" .null := D21 (Or.inr (hw _ (List.mem_of_getElem? (i := 46) rfl))) (ty := (.object "java/lang/String")) own_fd0
    have f30 : Fld Z h21 pm "com/example/attestry/attestry/store/PossibleMatch" "candidate" "Ljava/lang/String;" .null := D21 (Or.inr (hw _ (List.mem_of_getElem? (i := 48) rfl))) (ty := (.object "java/lang/String")) own_fd0
    have f31 : Fld Z h21 pm "com/example/attestry/attestry/store/PossibleMatch" "agreement" "D" (.double (0 : UInt64)) := D21 (Or.inr (hw _ (List.mem_of_getElem? (i := 50) rfl))) (ty := .double) own_fd1
    have f32 : Fld Z h21 pm "com/example/attestry/attestry/store/PossibleMatch" "held" "J" (.long (0 : Int64)) := D21 (Or.inr (hw _ (List.mem_of_getElem? (i := 52) rfl))) (ty := .long) own_fd2
    have f33 : Fld Z h21 pm "com/example/attestry/attestry/store/PossibleMatch" "grade" "Lcom/example/attestry/attestry/store/PossibleMatch$Grade;" .null := D21 (Or.inr (hw _ (List.mem_of_getElem? (i := 54) rfl))) (ty := (.object "com/example/attestry/attestry/store/PossibleMatch$Grade")) own_fd3
    have z21 := Nat.le_trans z15 E21.1
    have K21 := K15.ext E21
    refine g_dup (pc' := 55) X21 hx hby at_54 rfl rfl rfl ?_
    refine g_new (pc' := 58) X21 hx hby hZ hown (hw _ (List.mem_of_getElem? (i := 7) rfl)) (hw _ (List.mem_of_getElem? (i := 8) rfl)) (hw _ (List.mem_of_getElem? (i := 9) rfl)) e21 at_55 rfl (by decide) (by decide) ?_
    intro T34 h34 st1 X34 e34 E34 A34 D34 q34
    have ne35 : ar1 ≠ st1 := by rw [q34]; exact Nat.ne_of_lt f27.lt
    have ne36 : ar2 ≠ st1 := by rw [q34]; exact Nat.ne_of_lt f28.lt
    have ne37 : pm ≠ st1 := by rw [q34]; exact Nat.ne_of_lt A21.lt
    have ge34 : n0 ≤ st1 := by rw [q34]; exact z21
    have kp34 : h0.size ≤ st1 := by rw [q34]; exact K21.1
    have f38 := f24.ext E34
    have f39 := f25.ext E34
    have f40 := f26.ext E34
    have f41 := f27.ext E34
    have f42 := f28.ext E34
    have f43 := A21.ext E34
    have f44 := f29.ext E34
    have f45 := f30.ext E34
    have f46 := f31.ext E34
    have f47 := f32.ext E34
    have f48 := f33.ext E34
    have f49 : Fld Z h34 st1 "java/lang/String" "coder" "B" (.int (0 : Int32)) := D34 (Or.inr (hw _ (List.mem_of_getElem? (i := 33) rfl))) (ty := .byte) own_fd4
    have f50 : Fld Z h34 st1 "java/lang/String" "value" "[B" .null := D34 (Or.inr (hw _ (List.mem_of_getElem? (i := 35) rfl))) (ty := (.array .byte)) own_fd5
    have z34 := Nat.le_trans z21 E34.1
    have K34 := K21.ext E34
    refine g_dup (pc' := 59) X34 hx hby at_58 rfl rfl rfl ?_
    refine g_aload (pc' := 61) X34 hx hby (v := (.ref ar1)) at_59 rfl rfl rfl ?_
    have hws51 : ∀ d ∈ StrChars.Road.words, d.before a0 Z = true := fun d hd => hw d ((by decide +kernel : ∀ d ∈ StrChars.Road.words, d ∈ tables_1) d hd)
    have hl51 : ∀ c ∈ ([(nar .char ((x1 &&& (255 : Int32)).toUInt32.toUInt16.toUInt32.toInt32))] : List Int32), ¬ c < 0 ∧ ¬ (255 : Int32) < c := by
      intro c hc
      simp only [List.mem_cons, List.not_mem_nil, or_false] at hc
      rcases hc with rfl <;> first | exact own_lat _ | decide
    refine g_str (pc' := 64) X34 hx hby (by rw [hml]; rfl) hZ hown e34 hws51 (hw _ (List.mem_of_getElem? (i := 10) rfl)) (hw _ (List.mem_of_getElem? (i := 11) rfl)) (hw _ (List.mem_of_getElem? (i := 12) rfl)) (hw _ (List.mem_of_getElem? (i := 8) rfl)) ge34 z34 A34 f50 f49 (cs := [(nar .char ((x1 &&& (255 : Int32)).toUInt32.toUInt16.toUInt32.toInt32))]) (n := 1) f41 f38 hG rfl rfl (by decide) (by decide) hl51 (W := 3) (by decide) (by decide) (by decide) (by decide) rfl rfl at_61 rfl ?_
    intro T51 L51 h51 t51 kb51 X51 e51 n51 k51 a51 b51 ge51 sz51 nt51 v51 V51
    have f52 := own_sta_keep f38 k51 (allS ⟨_, A34⟩ all0)
    have f53 := own_sta_keep f39 k51 (allS ⟨_, A34⟩ all0)
    have f54 := own_sta_keep f40 k51 (allS ⟨_, A34⟩ all0)
    have f55 := f41.keep k51 (ninS ne35 nin0)
    have f56 := f42.keep k51 (ninS ne36 nin0)
    have f57 := f43.keep k51
    have f58 := f44.keep k51 (ninS ne37 nin0)
    have f59 := f45.keep k51 (ninS ne37 nin0)
    have f60 := f46.keep k51 (ninS ne37 nin0)
    have f61 := f47.keep k51 (ninS ne37 nin0)
    have f62 := f48.keep k51 (ninS ne37 nin0)
    have f63 := A34.keep k51
    have ne66 : ar1 ≠ t51 := Nat.ne_of_lt (Nat.lt_of_lt_of_le f41.lt sz51)
    have ne67 : ar2 ≠ t51 := Nat.ne_of_lt (Nat.lt_of_lt_of_le f42.lt sz51)
    have ne68 : pm ≠ t51 := Nat.ne_of_lt (Nat.lt_of_lt_of_le f43.lt sz51)
    have ne69 : st1 ≠ t51 := Nat.ne_of_lt (Nat.lt_of_lt_of_le A34.lt sz51)
    have kp70 : h0.size ≤ t51 := Nat.le_trans K34.1 sz51
    have K51 := K34.trans k51 (allS (Or.inr kp34) all0)
    have z51 := Nat.le_trans z34 k51.1
    have N51 := Fr.app N15 n51
    refine g_new (pc' := 67) X51 hx hby hZ hown (hw _ (List.mem_of_getElem? (i := 7) rfl)) (hw _ (List.mem_of_getElem? (i := 8) rfl)) (hw _ (List.mem_of_getElem? (i := 9) rfl)) e51 at_64 rfl (by decide) (by decide) ?_
    intro T71 h71 st2 X71 e71 E71 A71 D71 q71
    have ne72 : ar1 ≠ st2 := by rw [q71]; exact Nat.ne_of_lt f55.lt
    have ne73 : ar2 ≠ st2 := by rw [q71]; exact Nat.ne_of_lt f56.lt
    have ne74 : pm ≠ st2 := by rw [q71]; exact Nat.ne_of_lt f57.lt
    have ne75 : st1 ≠ st2 := by rw [q71]; exact Nat.ne_of_lt a51.lt
    have ne76 : t51 ≠ st2 := by rw [q71]; exact Nat.ne_of_lt V51.lt
    have ge71 : n0 ≤ st2 := by rw [q71]; exact z51
    have kp71 : h0.size ≤ st2 := by rw [q71]; exact K51.1
    have f77 := f52.ext E71
    have f78 := f53.ext E71
    have f79 := f54.ext E71
    have f80 := f55.ext E71
    have f81 := f56.ext E71
    have f82 := f57.ext E71
    have f83 := f58.ext E71
    have f84 := f59.ext E71
    have f85 := f60.ext E71
    have f86 := f61.ext E71
    have f87 := f62.ext E71
    have f88 := a51.ext E71
    have f89 := b51.ext E71
    have f90 := v51.ext E71
    have f91 := V51.ext E71
    have f92 : Fld Z h71 st2 "java/lang/String" "coder" "B" (.int (0 : Int32)) := D71 (Or.inr (hw _ (List.mem_of_getElem? (i := 33) rfl))) (ty := .byte) own_fd4
    have f93 : Fld Z h71 st2 "java/lang/String" "value" "[B" .null := D71 (Or.inr (hw _ (List.mem_of_getElem? (i := 35) rfl))) (ty := (.array .byte)) own_fd5
    have z71 := Nat.le_trans z51 E71.1
    have K71 := K51.ext E71
    refine g_dup (pc' := 68) X71 hx hby at_67 rfl rfl rfl ?_
    refine g_aload (pc' := 70) X71 hx hby (v := (.ref ar2)) at_68 rfl rfl rfl ?_
    have hws94 : ∀ d ∈ StrChars.Road.words, d.before a0 Z = true := fun d hd => hw d ((by decide +kernel : ∀ d ∈ StrChars.Road.words, d ∈ tables_1) d hd)
    have hl94 : ∀ c ∈ ([(nar .char ((x2 &&& (255 : Int32)).toUInt32.toUInt16.toUInt32.toInt32))] : List Int32), ¬ c < 0 ∧ ¬ (255 : Int32) < c := by
      intro c hc
      simp only [List.mem_cons, List.not_mem_nil, or_false] at hc
      rcases hc with rfl <;> first | exact own_lat _ | decide
    refine g_str (pc' := 73) X71 hx hby (by rw [hml]; rfl) hZ hown e71 hws94 (hw _ (List.mem_of_getElem? (i := 10) rfl)) (hw _ (List.mem_of_getElem? (i := 11) rfl)) (hw _ (List.mem_of_getElem? (i := 12) rfl)) (hw _ (List.mem_of_getElem? (i := 8) rfl)) ge71 z71 A71 f93 f92 (cs := [(nar .char ((x2 &&& (255 : Int32)).toUInt32.toUInt16.toUInt32.toInt32))]) (n := 1) f81 f77 hG rfl rfl (by decide) (by decide) hl94 (W := 4) (by decide) (by decide) (by decide) (by decide) rfl rfl at_70 rfl ?_
    intro T94 L94 h94 t94 kb94 X94 e94 n94 k94 a94 b94 ge94 sz94 nt94 v94 V94
    have f95 := own_sta_keep f77 k94 (allS ⟨_, A71⟩ all0)
    have f96 := own_sta_keep f78 k94 (allS ⟨_, A71⟩ all0)
    have f97 := own_sta_keep f79 k94 (allS ⟨_, A71⟩ all0)
    have f98 := f80.keep k94 (ninS ne72 nin0)
    have f99 := f81.keep k94 (ninS ne73 nin0)
    have f100 := f82.keep k94
    have f101 := f83.keep k94 (ninS ne74 nin0)
    have f102 := f84.keep k94 (ninS ne74 nin0)
    have f103 := f85.keep k94 (ninS ne74 nin0)
    have f104 := f86.keep k94 (ninS ne74 nin0)
    have f105 := f87.keep k94 (ninS ne74 nin0)
    have f106 := f88.keep k94
    have f107 := f89.keep k94 (ninS ne75 nin0)
    have f108 := f90.keep k94 (ninS ne75 nin0)
    have f109 := f91.keep k94 (ninS ne76 nin0)
    have f110 := A71.keep k94
    have ne113 : ar1 ≠ t94 := Nat.ne_of_lt (Nat.lt_of_lt_of_le f80.lt sz94)
    have ne114 : ar2 ≠ t94 := Nat.ne_of_lt (Nat.lt_of_lt_of_le f81.lt sz94)
    have ne115 : pm ≠ t94 := Nat.ne_of_lt (Nat.lt_of_lt_of_le f82.lt sz94)
    have ne116 : st1 ≠ t94 := Nat.ne_of_lt (Nat.lt_of_lt_of_le f88.lt sz94)
    have ne117 : st2 ≠ t94 := Nat.ne_of_lt (Nat.lt_of_lt_of_le A71.lt sz94)
    have ne118 : t51 ≠ t94 := Nat.ne_of_lt (Nat.lt_of_lt_of_le f91.lt sz94)
    have kp119 : h0.size ≤ t94 := Nat.le_trans K71.1 sz94
    have K94 := K71.trans k94 (allS (Or.inr kp71) all0)
    have z94 := Nat.le_trans z71 k94.1
    have N94 := Fr.app N51 n94
    refine g_dload (pc' := 75) X94 hx hby (v := x9_48) at_73 rfl rfl ?_
    refine g_lloadN (pc' := 76) X94 hx hby (v := he) at_75 rfl rfl ?_
    refine g_aload (pc' := 78) X94 hx hby (v := (.ref gr)) at_76 rfl rfl rfl ?_
    refine g_init (argsL := [(.ref st1), (.ref st2), (.double x9_48), (.long he), (.ref gr)]) (pc' := 81) X94 hx hby (by rw [hml]; rfl) hZ hown rfl e94 (own_rm7 l Z a0 hw [] pm st1 st2 x9_48 he gr  h94 n0 z94 f100 f101 f102 f103 f104 f105 ge21) (hw _ (List.mem_of_getElem? (i := 36) rfl)) (hw _ (List.mem_of_getElem? (i := 37) rfl)) (hw _ (List.mem_of_getElem? (i := 6) rfl)) (hw _ (List.mem_of_getElem? (i := 38) rfl)) (by decide) own_pd2 rfl rfl (W := 1) rfl (by decide) (by decide) (by decide) (by decide) at_78 rfl ?_
    intro T120 v120 L120 X120 qq120
    obtain ⟨h120, e120⟩ : ∃ h, T120.heap = h := ⟨_, rfl⟩
    rw [e120] at qq120
    obtain ⟨rfl, n120, k120, p120_0, p120_1, p120_2, p120_3, p120_4⟩ := qq120
    have f121 := own_sta_keep f95 k120 (allS ⟨_, f100⟩ all0)
    have f122 := own_sta_keep f96 k120 (allS ⟨_, f100⟩ all0)
    have f123 := own_sta_keep f97 k120 (allS ⟨_, f100⟩ all0)
    have f124 := f100.keep k120
    have z120 := Nat.le_trans z94 k120.1
    have K120 := K94.trans k120 (allS (Or.inr kp21) all0)
    have N120 := Fr.app N94 n120
    show Gf p e below P T120 m 81 #[.val (.int av), .val (.long he), .second, .val (.int x1), .val (.int x2), .val (.int fl), .val (.ref ar1), .val (.ref ar2), .val (.ref gr), .val (.double x9_48), .second, .unset, .unset] [(.ref pm)]
    refine g_astore (pc' := 83) (Ls' := #[.val (.int av), .val (.long he), .second, .val (.int x1), .val (.int x2), .val (.int fl), .val (.ref ar1), .val (.ref ar2), .val (.ref gr), .val (.double x9_48), .second, .val (.ref pm), .unset]) X120 hx hby at_81 rfl rfl rfl rfl ?_
    refine g_aload (pc' := 85) X120 hx hby (v := (.ref pm)) at_83 rfl rfl rfl ?_
    refine g_virt (argsL := []) (pc' := 88) X120 hx hby (by rw [hml]; rfl) hZ hown e120 (own_rm9 l Z a0 hw [] pm x9_48 he h120 n0 z120 p120_3 p120_4) (hw _ (List.mem_of_getElem? (i := 55) rfl)) (hw _ (List.mem_of_getElem? (i := 56) rfl)) (hw _ (List.mem_of_getElem? (i := 58) rfl)) (hw _ (List.mem_of_getElem? (i := 57) rfl)) (hw _ (List.mem_of_getElem? (i := 6) rfl)) (hw _ (List.mem_of_getElem? (i := 59) rfl)) (by decide) p120_0 own_pd3 rfl rfl (W := 0) rfl (by decide) (by decide) (by decide) (by decide) at_85 rfl ?_
    intro T130 v130 L130 X130 qq130
    obtain ⟨h130, e130⟩ : ∃ h, T130.heap = h := ⟨_, rfl⟩
    rw [e130] at qq130
    obtain ⟨pp, rfl, n130, k130, p130_0, p130_1, p130_2, p130_3⟩ := qq130
    have f131 := own_sta_keep f121 k130 all0
    have f132 := own_sta_keep f122 k130 all0
    have f133 := own_sta_keep f123 k130 all0
    have f134 := p120_0.keep k130
    have f135 := p120_1.keep k130 nin0
    have f136 := p120_2.keep k130 nin0
    have f137 := p120_3.keep k130 nin0
    have f138 := p120_4.keep k130 nin0
    have ge139 : n0 ≤ pp := Nat.le_trans z120 p130_0
    have ne140 : pm ≠ pp := Nat.ne_of_lt (Nat.lt_of_lt_of_le p120_0.lt p130_0)
    have kp141 : h0.size ≤ pp := Nat.le_trans K120.1 p130_0
    have z130 := Nat.le_trans z120 k130.1
    have K130 := K120.trans k130 all0
    have N130 := Fr.app N120 n130
    show Gf p e below P T130 m 88 #[.val (.int av), .val (.long he), .second, .val (.int x1), .val (.int x2), .val (.int fl), .val (.ref ar1), .val (.ref ar2), .val (.ref gr), .val (.double x9_48), .second, .val (.ref pm), .unset] [(.ref pp)]
    refine g_astore (pc' := 90) (Ls' := #[.val (.int av), .val (.long he), .second, .val (.int x1), .val (.int x2), .val (.int fl), .val (.ref ar1), .val (.ref ar2), .val (.ref gr), .val (.double x9_48), .second, .val (.ref pm), .val (.ref pp)]) X130 hx hby at_88 rfl rfl rfl rfl ?_
    refine g_aload (pc' := 92) X130 hx hby (v := (.ref pp)) at_90 rfl rfl rfl ?_
    refine g_nullN (pc' := 95) X130 hx hby at_92 rfl rfl ?_
    refine g_aload (pc' := 97) X130 hx hby (v := (.ref pp)) at_95 rfl rfl rfl ?_
    refine g_virt (argsL := []) (pc' := 100) X130 hx hby (by rw [hml]; rfl) hZ hown e130 (own_rm11 l Z a0 hw [] pp x9_48 h130 n0 z130 p130_2) (hw _ (List.mem_of_getElem? (i := 71) rfl)) (hw _ (List.mem_of_getElem? (i := 72) rfl)) (hw _ (List.mem_of_getElem? (i := 74) rfl)) (hw _ (List.mem_of_getElem? (i := 73) rfl)) (hw _ (List.mem_of_getElem? (i := 62) rfl)) (hw _ (List.mem_of_getElem? (i := 75) rfl)) (by decide) p130_1 own_pd4 rfl rfl (W := 0) rfl (by decide) (by decide) (by decide) (by decide) at_97 rfl ?_
    intro T142 v142 L142 X142 qq142
    obtain ⟨rfl, n142, e142⟩ := qq142
    have N142 := Fr.app N130 n142
    show Gf p e below P T142 m 100 #[.val (.int av), .val (.long he), .second, .val (.int x1), .val (.int x2), .val (.int fl), .val (.ref ar1), .val (.ref ar2), .val (.ref gr), .val (.double x9_48), .second, .val (.ref pm), .val (.ref pp)] [(.double x9_48)]
    refine g_dload (pc' := 102) X142 hx hby (v := x9_48) at_100 rfl rfl ?_
    refine g_dcmp (pc' := 103) (v := (cmpValue (FP.dcmp x9_48 x9_48) .l)) X142 hx hby at_102 rfl rfl rfl ?_
    refine g_ifN (pc' := 106) X142 hx hby at_103 rfl (teq (own_nni h_x9_48 .l : (cmpValue (FP.dcmp x9_48 x9_48) .l) = (0 : Int32))).2 rfl ?_
    refine g_aload (pc' := 108) X142 hx hby (v := (.ref pp)) at_106 rfl rfl rfl ?_
    refine g_virt (argsL := []) (pc' := 111) X142 hx hby (by rw [hml]; rfl) hZ hown e142 (own_rm12 l Z a0 hw [] pp he h130 n0 z130 p130_3) (hw _ (List.mem_of_getElem? (i := 76) rfl)) (hw _ (List.mem_of_getElem? (i := 77) rfl)) (hw _ (List.mem_of_getElem? (i := 79) rfl)) (hw _ (List.mem_of_getElem? (i := 78) rfl)) (hw _ (List.mem_of_getElem? (i := 62) rfl)) (hw _ (List.mem_of_getElem? (i := 80) rfl)) (by decide) p130_1 own_pd5 rfl rfl (W := 0) rfl (by decide) (by decide) (by decide) (by decide) at_108 rfl ?_
    intro T143 v143 L143 X143 qq143
    obtain ⟨rfl, n143, e143⟩ := qq143
    have N143 := Fr.app N142 n143
    show Gf p e below P T143 m 111 #[.val (.int av), .val (.long he), .second, .val (.int x1), .val (.int x2), .val (.int fl), .val (.ref ar1), .val (.ref ar2), .val (.ref gr), .val (.double x9_48), .second, .val (.ref pm), .val (.ref pp)] [(.long he)]
    refine g_lloadN (pc' := 112) X143 hx hby (v := he) at_111 rfl rfl ?_
    refine g_lcmp (pc' := 113) (v := (lcmpW he he)) X143 hx hby at_112 rfl rfl rfl ?_
    refine g_ifN (pc' := 116) X143 hx hby at_113 rfl (teq (own_lc0 he : (lcmpW he he) = (0 : Int32))).2 rfl ?_
    refine g_iconst (pc' := 117) (v := (1 : Int32)) X143 hx hby at_116 rfl rfl ?_
    refine g_goto (pc' := 121) X143 hx hby at_117 (by decide) (by decide) ?_
    exact g_retZ X143 hx hby hf hlk hret at_121 rfl (by simp) rfl (by decide) (by decide) e143 ⟨rfl, N143, K130⟩
  · intro J33
    by_cases hc33 : (fl &&& (1 : Int32)) = (0 : Int32)
    · refine g_ifY (pc' := 42) X15 hx hby at_33 rfl (teq hc33).1 (by decide) (by decide) ?_
      refine g_getS (pc' := 45) X15 hx hby hZ hown (host := "") (Or.inl (hw _ (List.mem_of_getElem? (i := 81) rfl))) Via.refl e15 f18 at_42 rfl ?_
      intro T144 X144 e144
      rw [h_gr] at J33
      simp only [if_pos hc33] at J33
      exact J33 _ X144 e144
    · refine g_ifN (pc' := 36) X15 hx hby at_33 rfl (feq hc33).1 rfl ?_
      refine g_getS (pc' := 39) X15 hx hby hZ hown (host := "") (Or.inl (hw _ (List.mem_of_getElem? (i := 1) rfl))) Via.refl e15 f17 at_36 rfl ?_
      intro T145 X145 e145
      refine g_goto (pc' := 45) X145 hx hby at_39 (by decide) (by decide) ?_
      rw [h_gr] at J33
      simp only [if_neg hc33] at J33
      exact J33 _ X145 e145
theorem comes_1 {Post : Tables → Env → Array Value → State → Outcome → State → Prop} (hpost : ∀ tb e args s v u, (limb_1_1.after args s (.returned v) u = true ∧ limb_1_2.after args s (.returned v) u = true ∧ True) → FrameEnd s (.returned v) u (Jvm.fieldLocs frame_1_writes args s ++ Jvm.arrayLocs frame_1_arrays args s ++ Jvm.staticLocs frame_1_statics s) 24 128 → Post tb e args s (.returned v) u) :
    ArmFor flags0 classFile x code maxLocals ret World_1 tables_1 room_1 Calls_1 rest_1 Pre_1 Post := by
  intro l hfl _ _ p e ha hc hk s m args below hf hA hF happ hP
  obtain ⟨hcalls, hrest, hpre⟩ := hP
  obtain ⟨-, -, -, hnamed, -, -, -, hat⟩ := (Spec.applies_iff hf).mp happ
  obtain ⟨hg, hn⟩ := and_e (Cond.before_iff.mp (show (Jvm.Cond.and given_1 narrow_1).before args s = true from hpre))
  obtain ⟨h1, g0⟩ := and_e hg
  obtain ⟨w0, w1, w2, w3, w4, rfl⟩ : ∃ w0 w1 w2 w3 w4 : Value, args = #[w0, w1, w2, w3, w4] := by
    have hs : args.size = 5 := by simpa [Cond.value, given_1] using h1
    obtain ⟨L⟩ := args
    match L, hs with
    | [w0, w1, w2, w3, w4], _ => exact ⟨w0, w1, w2, w3, w4, rfl⟩
  have hw := fun d (hd : d ∈ tables_1) => atoms_spec (ws := Jvm.Cond.code x code maxLocals ret :: tables_1) hat d (List.mem_cons_of_mem _ hd)
  have hfit : Fit s := fun {y c} hc i hi => by
    obtain ⟨ha, rfl⟩ := Array.getElem?_eq_some_iff.mp hc
    have q := List.all_eq_true.mp ((Array.all_eq_true_iff_forall_mem.mp hF) _ (Array.getElem_mem ha)) i (List.mem_range.mpr hi)
    simpa [Array.getElem?_eq_getElem hi] using q
  obtain ⟨t0, g1⟩ := and_e g0
  obtain ⟨i0, e0⟩ := is_v t0
  obtain rfl : w0 = (.int i0) := Option.some.inj e0
  obtain ⟨t1, g2⟩ := and_e g1
  obtain ⟨i1, e1⟩ := isL_v t1
  obtain rfl : w1 = (.long i1) := Option.some.inj e1
  obtain ⟨t2, g3⟩ := and_e g2
  obtain ⟨i2, e2⟩ := is_v t2
  obtain rfl : w2 = (.int i2) := Option.some.inj e2
  obtain ⟨t3, g4⟩ := and_e g3
  obtain ⟨i3, e3⟩ := is_v t3
  obtain rfl : w3 = (.int i3) := Option.some.inj e3
  have t4 := g4
  obtain ⟨i4, e4⟩ := is_v t4
  obtain rfl : w4 = (.int i4) := Option.some.inj e4
  obtain ⟨hsets, hown0⟩ := atoms_of _ (rest_1_c_eq ▸ (show rest_1_c.before _ s = true from hrest))
  have n3 := not_v (Cond.before_iff.mp (hsets _ (List.mem_of_getElem? (i := 2) rfl)))
  obtain ⟨G1, e6⟩ := is_v (Cond.before_iff.mp (hsets _ (List.mem_of_getElem? (i := 1) rfl)))
  have S8 := Sta.start e6 (Or.inl (hsets _ (List.mem_of_getElem? (i := 0) rfl)))
  have c9 : ¬ (G1 = (0 : Int32)) := gotF (Cond.eq_ints e6 (Term.int_eval (0))) n3
  obtain ⟨n1, n2⟩ := and_e hn
  obtain ⟨po, ep⟩ := exa_v n1
  obtain ⟨cn, ec⟩ := exa_v n2
  have S1 := Sta.start ep (Or.inr ⟨(hw _ (List.mem_of_getElem? (i := 2) rfl)), (hw _ (List.mem_of_getElem? (i := 3) rfl))⟩)
  have S2 := Sta.start ec (Or.inr ⟨(hw _ (List.mem_of_getElem? (i := 2) rfl)), (hw _ (List.mem_of_getElem? (i := 82) rfl))⟩)
  obtain ⟨n, o, h1, h2, h3, _, L, rfl, ⟨rfl, N, _⟩, hq⟩ := own_rm0 l s _ hw tables_1 i0 i1 i2 i3 i4 G1 po cn s.heap s.heap.size (Nat.le_refl _) S8 c9 S1 S2 p e ha hc hk s m _ below hf ((Spec.applies_iff_loose hf).mp happ).1 ⟨rfl, State.Warmed39.refl s, rfl⟩ trivial
  refine ⟨n, _, h1, h2, h3, hpost _ _ _ _ _ _ ⟨Cond.after_iff.mpr rfl, Cond.after_iff.mpr (eq_i res_at (Term.int_eval (1)) rfl), trivial⟩ ⟨hq.1, hq.2.1, (hq.2.2.sift fun y hy => Or.inr (N y hy)).mono (by decide) (by decide)⟩⟩
theorem main_1_1 : Claimed_1_1 := comes_1 fun _ _ _ _ _ _ h hF => ⟨h.1, hF⟩
theorem main_1_2 : Claimed_1_2 := comes_1 fun _ _ _ _ _ _ h hF => ⟨h.2.1, hF⟩
end Jvm.Pilot.@@N@@
namespace Jvm.Pilot.@@N@@
open Jvm Jvm.ClassFile Sem Op Lib Jvm.Free Jvm.Stand Jvm.Pilot.@@N@@.Jvm.D
/-! MADE BY PROGRAM (witnessworld.py) out of the Statement's table words and the real class files: 22 classes; the members and pool entries that the words name. The judged class is class 1, her method 1. -/
namespace start1
open Jvm.ClassFile
def u (s : String) : CpInfo := .utf8 (stringToUtf16 s)
/-- a pool by its gaps: so many unusable entries, then the entry; so many at the end -/
def gap : Nat → List CpInfo → List CpInfo
  | 0, r => r
  | n + 1, r => .unusable :: gap n r
def poolList (es : List (Nat × CpInfo)) (last : Nat) : List CpInfo := es.foldr (fun e r => gap e.1 (e.2 :: r)) (gap last [])
def pool (es : List (Nat × CpInfo)) (last : Nat) : Array CpInfo := ⟨poolList es last⟩
def fileOf (pool : Array CpInfo) (this : Nat) (attrs : Array Attribute := #[]) (ms : Array MethodInfo := #[]) (fl : Nat := 33) (sup : Nat := 0) (ifs : Array Nat := #[]) (fds : Array FieldInfo := #[]) : ClassFile where
  minorVersion := 0
  majorVersion := 65
  constantPool := pool
  accessFlags := fl
  thisClass := this
  superClass := sup
  interfaces := ifs
  fields := fds
  methods := ms
  attributes := attrs
def plain (name : String) (sup : Option ClassId) : Class where
  name := name
  kind := .ordinary
  loader := none
  accessFlags := 33
  super := sup
  interfaces := #[]
  cf := none
  fields := #[]
  methods := #[]
  instanceTypes := #[]
  staticTypes := #[]
  resolved := #[]
  callSites := []
  init := .initialized
  statics := none
  mirror := none

def pool0 : Array CpInfo := pool [(5, u "<init>"), (0, u "()V"), (1, .class_ 10), (1, u "java/lang/Object")] 113

def k0c0 : Code := { maxStack := 0, maxLocals := 1, code := object_method_1_code, exceptionTable := #[], attributes := #[] }
def k0m0 : Method := { name := "<init>", desc := "()V", sig := { parameters := [], returnType := none }, accessFlags := 1, code := some k0c0 }
/-- java/lang/Object -/
def k0 : Class := { plain "java/lang/Object" none with
  accessFlags := 33
  interfaces := #[]
  cf := some (fileOf pool0 8 #[] #[{ accessFlags := 1, nameIndex := 5, descriptorIndex := 6, attributes := #[] }] 33 0 #[] #[])
  fields := #[]
  methods := #[k0m0]
  instanceTypes := #[]
  staticTypes := #[]
  resolved := Array.replicate 124 none
  statics := none }

def pool1 : Array CpInfo := pool [(2, .class_ 4), (1, u "java/lang/Object"), (0, u "<init>"), (0, u "()V"), (0, .fieldref 8 9), (0, .class_ 10), (0, .nameAndType 11 12), (0, u "com/example/attestry/attestry/store/PossibleMatch$Grade"), (0, u "POSSIBLE"), (0, u "Lcom/example/attestry/attestry/store/PossibleMatch$Grade;"), (0, .fieldref 8 14), (0, .nameAndType 15 12), (0, u "CERTAINLY_NOT"), (0, .class_ 17), (0, u "com/example/attestry/attestry/store/PossibleMatch"), (0, .class_ 19), (0, u "java/lang/String"), (0, .methodref 18 21), (0, .nameAndType 5 22), (0, u "([C)V"), (0, .methodref 16 24), (0, .nameAndType 5 25), (0, u "(Ljava/lang/String;Ljava/lang/String;DJLcom/example/attestry/attestry/store/PossibleMatch$Grade;)V"), (0, .methodref 16 27), (0, .nameAndType 28 29), (0, u "position"), (0, u "()Lcom/example/attestry/attestry/store/PossibleMatch$Position;"), (0, .methodref 31 32), (0, .class_ 33), (0, .nameAndType 34 35), (0, u "com/example/attestry/attestry/store/PossibleMatch$Position"), (0, u "agreement"), (0, u "()D"), (0, .methodref 31 37), (0, .nameAndType 38 39), (0, u "held"), (0, u "()J"), (0, .class_ 41), (0, u "com/example/attestry/attestry/store/PossibleMatchPositionPinLaw"), (2, u "law"), (0, u "(IJIII)Z")] 8

def k1m0 : Method := { name := "<init>", desc := "()V", sig := { parameters := [], returnType := none }, accessFlags := 1, code := none }
def k1c1 : Code := { maxStack := 9, maxLocals := 13, code := code, exceptionTable := #[], attributes := #[] }
def k1m1 : Method := { name := "law", desc := "(IJIII)Z", sig := { parameters := [.int, .long, .int, .int, .int], returnType := some .boolean }, accessFlags := 9, code := some k1c1 }
/-- com/example/attestry/attestry/store/PossibleMatchPositionPinLaw -/
def k1 : Class := { plain "com/example/attestry/attestry/store/PossibleMatchPositionPinLaw" (some 0) with
  accessFlags := 49
  interfaces := #[]
  cf := some (fileOf pool1 40 #[] #[{ accessFlags := 1, nameIndex := 5, descriptorIndex := 6, attributes := #[] }, { accessFlags := 9, nameIndex := 44, descriptorIndex := 45, attributes := #[] }] 49 2 #[] #[])
  fields := #[]
  methods := #[k1m0, k1m1]
  instanceTypes := #[]
  staticTypes := #[]
  resolved := Array.replicate 54 none
  statics := none }

def pool2 : Array CpInfo := pool [(1, .class_ 2), (0, u "java/lang/constant/Constable"), (0, .class_ 4), (0, u "java/lang/Object")] 6

/-- java/lang/constant/Constable -/
def k2 : Class := { plain "java/lang/constant/Constable" (some 0) with
  accessFlags := 1537
  interfaces := #[]
  cf := some (fileOf pool2 1 #[] #[] 1537 3 #[] #[])
  fields := #[]
  methods := #[]
  instanceTypes := #[]
  staticTypes := #[]
  resolved := Array.replicate 11 none
  statics := none }

def pool3 : Array CpInfo := pool [(1, .class_ 2), (0, u "java/lang/Comparable"), (0, .class_ 4), (0, u "java/lang/Object")] 7

/-- java/lang/Comparable -/
def k3 : Class := { plain "java/lang/Comparable" (some 0) with
  accessFlags := 1537
  interfaces := #[]
  cf := some (fileOf pool3 1 #[] #[] 1537 3 #[] #[])
  fields := #[]
  methods := #[]
  instanceTypes := #[]
  staticTypes := #[]
  resolved := Array.replicate 12 none
  statics := none }

def pool4 : Array CpInfo := pool [(1, .class_ 2), (0, u "java/io/Serializable"), (0, .class_ 4), (0, u "java/lang/Object")] 2

/-- java/io/Serializable -/
def k4 : Class := { plain "java/io/Serializable" (some 0) with
  accessFlags := 1537
  interfaces := #[]
  cf := some (fileOf pool4 1 #[] #[] 1537 3 #[] #[])
  fields := #[]
  methods := #[]
  instanceTypes := #[]
  staticTypes := #[]
  resolved := Array.replicate 7 none
  statics := none }

def pool5 : Array CpInfo := pool [(2, .class_ 4), (1, u "java/lang/Enum"), (0, u "name"), (0, u "Ljava/lang/String;"), (2, u "ordinal"), (0, u "I"), (1, .class_ 14), (1, u "java/lang/Object"), (4, u "hash"), (86, .class_ 108), (1, u "java/lang/Enum$EnumDesc"), (2, .class_ 112), (0, u "java/lang/constant/Constable"), (0, .class_ 114), (0, u "java/lang/Comparable"), (0, .class_ 116), (0, u "java/io/Serializable")] 87

/-- java/lang/Enum -/
def k5 : Class := { plain "java/lang/Enum" (some 0) with
  accessFlags := 1057
  interfaces := #[2, 3, 4]
  cf := some (fileOf pool5 2 #[.nestMembers #[106]] #[] 1057 12 #[111, 113, 115] #[{ accessFlags := 18, nameIndex := 5, descriptorIndex := 6, attributes := #[] }, { accessFlags := 18, nameIndex := 9, descriptorIndex := 10, attributes := #[] }, { accessFlags := 2, nameIndex := 19, descriptorIndex := 10, attributes := #[] }])
  fields := #[{ name := "name", type := (.object "java/lang/String"), accessFlags := 18, slot := 0, constantValue := 0 }, { name := "ordinal", type := .int, accessFlags := 18, slot := 1, constantValue := 0 }, { name := "hash", type := .int, accessFlags := 2, slot := 2, constantValue := 0 }]
  methods := #[]
  instanceTypes := #[(.object "java/lang/String"), .int, .int]
  staticTypes := #[]
  resolved := Array.replicate 204 none
  statics := none }

def pool6 : Array CpInfo := pool [(1, .class_ 2), (0, u "com/example/attestry/attestry/store/PossibleMatch$Grade"), (2, u "POSSIBLE"), (0, u "Lcom/example/attestry/attestry/store/PossibleMatch$Grade;"), (2, u "CERTAINLY_NOT"), (2, u "$VALUES"), (0, u "[Lcom/example/attestry/attestry/store/PossibleMatch$Grade;"), (6, .class_ 22), (1, u "java/lang/Enum"), (8, u "code"), (0, u "Ljava/lang/String;"), (45, .class_ 79), (0, u "com/example/attestry/attestry/store/PossibleMatch")] 2

/-- com/example/attestry/attestry/store/PossibleMatch$Grade -/
def k6 : Class := { plain "com/example/attestry/attestry/store/PossibleMatch$Grade" (some 5) with
  accessFlags := 16433
  interfaces := #[]
  cf := some (fileOf pool6 1 #[.nestHost 78] #[] 16433 20 #[] #[{ accessFlags := 16409, nameIndex := 5, descriptorIndex := 6, attributes := #[] }, { accessFlags := 16409, nameIndex := 9, descriptorIndex := 6, attributes := #[] }, { accessFlags := 18, nameIndex := 31, descriptorIndex := 32, attributes := #[] }, { accessFlags := 4122, nameIndex := 12, descriptorIndex := 13, attributes := #[] }])
  fields := #[{ name := "POSSIBLE", type := (.object "com/example/attestry/attestry/store/PossibleMatch$Grade"), accessFlags := 16409, slot := 0, constantValue := 0 }, { name := "CERTAINLY_NOT", type := (.object "com/example/attestry/attestry/store/PossibleMatch$Grade"), accessFlags := 16409, slot := 1, constantValue := 0 }, { name := "code", type := (.object "java/lang/String"), accessFlags := 18, slot := 3, constantValue := 0 }, { name := "$VALUES", type := (.array (.object "com/example/attestry/attestry/store/PossibleMatch$Grade")), accessFlags := 4122, slot := 2, constantValue := 0 }]
  methods := #[]
  instanceTypes := #[(.object "java/lang/String"), .int, .int, (.object "java/lang/String")]
  staticTypes := #[(.object "com/example/attestry/attestry/store/PossibleMatch$Grade"), (.object "com/example/attestry/attestry/store/PossibleMatch$Grade"), (.array (.object "com/example/attestry/attestry/store/PossibleMatch$Grade"))]
  resolved := Array.replicate 82 none
  statics := some 0 }

def pool7 : Array CpInfo := pool [(1, .methodref 2 3), (0, .class_ 4), (0, .nameAndType 5 6), (0, u "java/lang/Object"), (0, u "<init>"), (0, u "()V"), (0, .class_ 8), (0, u "java/lang/Record")] 13

def k7c0 : Code := { maxStack := 1, maxLocals := 1, code := jdk_30_method_1_code, exceptionTable := #[], attributes := #[] }
def k7m0 : Method := { name := "<init>", desc := "()V", sig := { parameters := [], returnType := none }, accessFlags := 4, code := some k7c0 }
/-- java/lang/Record -/
def k7 : Class := { plain "java/lang/Record" (some 0) with
  accessFlags := 1057
  interfaces := #[]
  cf := some (fileOf pool7 7 #[] #[{ accessFlags := 4, nameIndex := 5, descriptorIndex := 6, attributes := #[] }] 1057 2 #[] #[])
  fields := #[]
  methods := #[k7m0]
  instanceTypes := #[]
  staticTypes := #[]
  resolved := Array.replicate 22 none
  statics := none }

def pool8 : Array CpInfo := pool [(1, .methodref 2 3), (0, .class_ 4), (0, .nameAndType 5 6), (0, u "java/lang/Record"), (0, u "<init>"), (0, u "()V"), (0, .fieldref 8 9), (0, .class_ 10), (0, .nameAndType 11 12), (0, u "com/example/attestry/attestry/store/PossibleMatch"), (0, u "person"), (0, u "Ljava/lang/String;"), (0, .fieldref 8 14), (0, .nameAndType 15 12), (0, u "candidate"), (0, .fieldref 8 17), (0, .nameAndType 18 19), (0, u "agreement"), (0, u "D"), (0, .fieldref 8 21), (0, .nameAndType 22 23), (0, u "held"), (0, u "J"), (0, .fieldref 8 25), (0, .nameAndType 26 27), (0, u "grade"), (0, u "Lcom/example/attestry/attestry/store/PossibleMatch$Grade;"), (0, .class_ 29), (0, u "com/example/attestry/attestry/store/PossibleMatch$Position"), (0, .methodref 28 31), (0, .nameAndType 5 32), (0, u "(DJ)V"), (17, u "(Ljava/lang/String;Ljava/lang/String;DJLcom/example/attestry/attestry/store/PossibleMatch$Grade;)V"), (3, u "position"), (0, u "()Lcom/example/attestry/attestry/store/PossibleMatch$Position;"), (11, .class_ 68), (0, u "com/example/attestry/attestry/store/PossibleMatch$Grade")] 24

def k8c0 : Code := { maxStack := 3, maxLocals := 8, code := prog_23_method_1_code, exceptionTable := #[], attributes := #[] }
def k8m0 : Method := { name := "<init>", desc := "(Ljava/lang/String;Ljava/lang/String;DJLcom/example/attestry/attestry/store/PossibleMatch$Grade;)V", sig := { parameters := [(.object "java/lang/String"), (.object "java/lang/String"), .double, .long, (.object "com/example/attestry/attestry/store/PossibleMatch$Grade")], returnType := none }, accessFlags := 1, code := some k8c0 }
def k8c1 : Code := { maxStack := 6, maxLocals := 1, code := prog_23_method_2_code, exceptionTable := #[], attributes := #[] }
def k8m1 : Method := { name := "position", desc := "()Lcom/example/attestry/attestry/store/PossibleMatch$Position;", sig := { parameters := [], returnType := some (.object "com/example/attestry/attestry/store/PossibleMatch$Position") }, accessFlags := 1, code := some k8c1 }
/-- com/example/attestry/attestry/store/PossibleMatch -/
def k8 : Class := { plain "com/example/attestry/attestry/store/PossibleMatch" (some 7) with
  accessFlags := 49
  interfaces := #[]
  cf := some (fileOf pool8 8 #[.nestMembers #[28, 67]] #[{ accessFlags := 1, nameIndex := 5, descriptorIndex := 50, attributes := #[] }, { accessFlags := 1, nameIndex := 54, descriptorIndex := 55, attributes := #[] }] 49 2 #[] #[{ accessFlags := 18, nameIndex := 11, descriptorIndex := 12, attributes := #[] }, { accessFlags := 18, nameIndex := 15, descriptorIndex := 12, attributes := #[] }, { accessFlags := 18, nameIndex := 18, descriptorIndex := 19, attributes := #[] }, { accessFlags := 18, nameIndex := 22, descriptorIndex := 23, attributes := #[] }, { accessFlags := 18, nameIndex := 26, descriptorIndex := 27, attributes := #[] }])
  fields := #[{ name := "person", type := (.object "java/lang/String"), accessFlags := 18, slot := 0, constantValue := 0 }, { name := "candidate", type := (.object "java/lang/String"), accessFlags := 18, slot := 1, constantValue := 0 }, { name := "agreement", type := .double, accessFlags := 18, slot := 2, constantValue := 0 }, { name := "held", type := .long, accessFlags := 18, slot := 3, constantValue := 0 }, { name := "grade", type := (.object "com/example/attestry/attestry/store/PossibleMatch$Grade"), accessFlags := 18, slot := 4, constantValue := 0 }]
  methods := #[k8m0, k8m1]
  instanceTypes := #[(.object "java/lang/String"), (.object "java/lang/String"), .double, .long, (.object "com/example/attestry/attestry/store/PossibleMatch$Grade")]
  staticTypes := #[]
  resolved := Array.replicate 93 none
  statics := none }

def pool9 : Array CpInfo := pool [(2, .class_ 4), (1, u "java/lang/CharSequence"), (42, .class_ 48), (0, u "java/lang/CharSequence$1CodePointIterator"), (10, .class_ 60), (0, u "java/lang/CharSequence$1CharIterator"), (5, .class_ 67), (0, u "java/lang/Object")] 63

/-- java/lang/CharSequence -/
def k9 : Class := { plain "java/lang/CharSequence" (some 0) with
  accessFlags := 1537
  interfaces := #[]
  cf := some (fileOf pool9 2 #[.nestMembers #[47, 59]] #[] 1537 66 #[] #[])
  fields := #[]
  methods := #[]
  instanceTypes := #[]
  staticTypes := #[]
  resolved := Array.replicate 131 none
  statics := none }

def pool10 : Array CpInfo := pool [(1, .class_ 2), (0, u "java/lang/constant/ConstantDesc"), (0, .class_ 4), (0, u "java/lang/Object")] 32

/-- java/lang/constant/ConstantDesc -/
def k10 : Class := { plain "java/lang/constant/ConstantDesc" (some 0) with
  accessFlags := 1537
  interfaces := #[]
  cf := some (fileOf pool10 1 #[] #[] 1537 3 #[] #[])
  fields := #[]
  methods := #[]
  instanceTypes := #[]
  staticTypes := #[]
  resolved := Array.replicate 37 none
  statics := none }

def pool11 : Array CpInfo := pool [(1, .methodref 2 3), (0, .class_ 4), (0, .nameAndType 5 6), (0, u "java/lang/Object"), (0, u "<init>"), (0, u "()V"), (2, .fieldref 10 11), (0, .class_ 12), (0, .nameAndType 13 14), (0, u "java/lang/String"), (0, u "value"), (0, u "[B"), (0, .fieldref 10 16), (0, .nameAndType 17 18), (0, u "coder"), (0, u "B"), (2, u "hash"), (0, u "I"), (2, u "hashIsZero"), (0, u "Z"), (0, .methodref 10 28), (0, .nameAndType 5 29), (0, u "([CIILjava/lang/Void;)V"), (8, .fieldref 10 39), (0, .nameAndType 40 26), (0, u "COMPACT_STRINGS"), (1, .class_ 44), (1, u "java/lang/StringUTF16"), (0, u "compress"), (1, .methodref 42 48), (0, .nameAndType 49 50), (0, u "coderFromArrayLen"), (0, u "([BI)B"), (126, .methodref 42 178), (0, .nameAndType 45 179), (0, u "([CII)[B"), (395, .class_ 576), (0, u "java/lang/CharSequence"), (22, u "CASE_INSENSITIVE_ORDER"), (0, u "Ljava/util/Comparator;"), (409, u "([C)V"), (90, u "serialPersistentFields"), (0, u "[Ljava/io/ObjectStreamField;"), (0, .class_ 1104), (0, u "java/lang/String$CaseInsensitiveComparator"), (1, .class_ 1107), (0, u "java/io/Serializable"), (0, .class_ 1109), (0, u "java/lang/Comparable"), (0, .class_ 1111), (0, u "java/lang/constant/Constable"), (0, .class_ 1113), (0, u "java/lang/constant/ConstantDesc"), (2, u "serialVersionUID"), (0, u "J"), (3, u "REPL"), (0, u "C"), (2, u "LATIN1"), (1, u "UTF16")] 323

def k11m0 : Method := { name := "<init>", desc := "()V", sig := { parameters := [], returnType := none }, accessFlags := 1, code := none }
def k11c1 : Code := { maxStack := 5, maxLocals := 2, code := jdk_42_method_3_code, exceptionTable := #[], attributes := #[] }
def k11m1 : Method := { name := "<init>", desc := "([C)V", sig := { parameters := [(.array .char)], returnType := none }, accessFlags := 1, code := some k11c1 }
def k11c2 : Code := { maxStack := 4, maxLocals := 6, code := jdk_42_method_149_code, exceptionTable := #[], attributes := #[] }
def k11m2 : Method := { name := "<init>", desc := "([CIILjava/lang/Void;)V", sig := { parameters := [(.array .char), .int, .int, (.object "java/lang/Void")], returnType := none }, accessFlags := 2, code := some k11c2 }
/-- java/lang/String -/
def k11 : Class := { plain "java/lang/String" (some 0) with
  accessFlags := 49
  interfaces := #[4, 3, 9, 2, 10]
  cf := some (fileOf pool11 10 #[.nestMembers #[1103]] #[{ accessFlags := 1, nameIndex := 5, descriptorIndex := 6, attributes := #[] }, { accessFlags := 1, nameIndex := 5, descriptorIndex := 1010, attributes := #[] }, { accessFlags := 2, nameIndex := 5, descriptorIndex := 29, attributes := #[] }] 49 2 #[1106, 1108, 575, 1110, 1112] #[{ accessFlags := 18, nameIndex := 13, descriptorIndex := 14, attributes := #[] }, { accessFlags := 18, nameIndex := 17, descriptorIndex := 18, attributes := #[] }, { accessFlags := 2, nameIndex := 21, descriptorIndex := 22, attributes := #[] }, { accessFlags := 2, nameIndex := 25, descriptorIndex := 26, attributes := #[] }, { accessFlags := 26, nameIndex := 1116, descriptorIndex := 1117, attributes := #[] }, { accessFlags := 24, nameIndex := 40, descriptorIndex := 26, attributes := #[] }, { accessFlags := 26, nameIndex := 1101, descriptorIndex := 1102, attributes := #[] }, { accessFlags := 26, nameIndex := 1121, descriptorIndex := 1122, attributes := #[] }, { accessFlags := 25, nameIndex := 599, descriptorIndex := 600, attributes := #[] }, { accessFlags := 24, nameIndex := 1125, descriptorIndex := 18, attributes := #[] }, { accessFlags := 24, nameIndex := 1127, descriptorIndex := 18, attributes := #[] }])
  fields := #[{ name := "value", type := (.array .byte), accessFlags := 18, slot := 0, constantValue := 0 }, { name := "coder", type := .byte, accessFlags := 18, slot := 1, constantValue := 0 }, { name := "hash", type := .int, accessFlags := 2, slot := 2, constantValue := 0 }, { name := "hashIsZero", type := .boolean, accessFlags := 2, slot := 3, constantValue := 0 }, { name := "serialVersionUID", type := .long, accessFlags := 26, slot := 0, constantValue := 0 }, { name := "COMPACT_STRINGS", type := .boolean, accessFlags := 24, slot := 1, constantValue := 0 }, { name := "serialPersistentFields", type := (.array (.object "java/io/ObjectStreamField")), accessFlags := 26, slot := 2, constantValue := 0 }, { name := "REPL", type := .char, accessFlags := 26, slot := 3, constantValue := 0 }, { name := "CASE_INSENSITIVE_ORDER", type := (.object "java/util/Comparator"), accessFlags := 25, slot := 4, constantValue := 0 }, { name := "LATIN1", type := .byte, accessFlags := 24, slot := 5, constantValue := 0 }, { name := "UTF16", type := .byte, accessFlags := 24, slot := 6, constantValue := 0 }]
  methods := #[k11m0, k11m1, k11m2]
  instanceTypes := #[(.array .byte), .byte, .int, .boolean]
  staticTypes := #[.long, .boolean, (.array (.object "java/io/ObjectStreamField")), .char, (.object "java/util/Comparator"), .byte, .byte]
  resolved := Array.replicate 1451 none
  statics := some 1 }

def pool12 : Array CpInfo := pool [(6, .class_ 8), (1, u "java/lang/Object"), (0, u "<init>"), (0, u "()V"), (1, .class_ 14), (1, u "java/lang/StringUTF16"), (31, u "$assertionsDisabled"), (0, u "Z"), (13, u "HI_BYTE_SHIFT"), (0, u "I"), (2, u "LO_BYTE_SHIFT"), (49, .methodref 12 116), (0, .nameAndType 117 118), (0, u "compress"), (0, u "([CI[BII)I"), (3, u "([CII)[B"), (138, u "coderFromArrayLen"), (0, u "([BI)B"), (106, .class_ 371), (1, u "java/lang/StringUTF16$LinesSpliterator"), (58, u "MAX_LENGTH"), (196, .class_ 628), (0, u "java/lang/StringUTF16$CodePointsSpliterator"), (0, .class_ 630), (0, u "java/lang/StringUTF16$CharsSpliterator")] 4

def k12m0 : Method := { name := "<init>", desc := "()V", sig := { parameters := [], returnType := none }, accessFlags := 0, code := none }
def k12c1 : Code := { maxStack := 2, maxLocals := 2, code := jdk_52_method_15_code, exceptionTable := #[], attributes := #[] }
def k12m1 : Method := { name := "coderFromArrayLen", desc := "([BI)B", sig := { parameters := [(.array .byte), .int], returnType := some .byte }, accessFlags := 8, code := some k12c1 }
def k12c2 : Code := { maxStack := 5, maxLocals := 6, code := jdk_52_method_16_code, exceptionTable := #[], attributes := #[] }
def k12m2 : Method := { name := "compress", desc := "([CII)[B", sig := { parameters := [(.array .char), .int, .int], returnType := some (.array .byte) }, accessFlags := 9, code := some k12c2 }
def k12c3 : Code := { maxStack := 3, maxLocals := 7, code := jdk_52_method_21_code, exceptionTable := #[], attributes := #[] }
def k12m3 : Method := { name := "compress", desc := "([CI[BII)I", sig := { parameters := [(.array .char), .int, (.array .byte), .int, .int], returnType := some .int }, accessFlags := 9, code := some k12c3 }
/-- java/lang/StringUTF16 -/
def k12 : Class := { plain "java/lang/StringUTF16" (some 0) with
  accessFlags := 48
  interfaces := #[]
  cf := some (fileOf pool12 12 #[.nestMembers #[627, 629, 369]] #[{ accessFlags := 0, nameIndex := 9, descriptorIndex := 10, attributes := #[] }, { accessFlags := 8, nameIndex := 261, descriptorIndex := 262, attributes := #[] }, { accessFlags := 9, nameIndex := 117, descriptorIndex := 122, attributes := #[] }, { accessFlags := 9, nameIndex := 117, descriptorIndex := 118, attributes := #[] }] 48 6 #[] #[{ accessFlags := 26, nameIndex := 61, descriptorIndex := 62, attributes := #[] }, { accessFlags := 26, nameIndex := 65, descriptorIndex := 62, attributes := #[] }, { accessFlags := 24, nameIndex := 430, descriptorIndex := 62, attributes := #[] }, { accessFlags := 4120, nameIndex := 46, descriptorIndex := 47, attributes := #[] }])
  fields := #[{ name := "HI_BYTE_SHIFT", type := .int, accessFlags := 26, slot := 0, constantValue := 0 }, { name := "LO_BYTE_SHIFT", type := .int, accessFlags := 26, slot := 1, constantValue := 0 }, { name := "MAX_LENGTH", type := .int, accessFlags := 24, slot := 2, constantValue := 0 }, { name := "$assertionsDisabled", type := .boolean, accessFlags := 4120, slot := 3, constantValue := 0 }]
  methods := #[k12m0, k12m1, k12m2, k12m3]
  instanceTypes := #[]
  staticTypes := #[.int, .int, .int, .boolean]
  resolved := Array.replicate 635 none
  statics := none }

def pool13 : Array CpInfo := pool [(1, .methodref 2 3), (0, .class_ 4), (0, .nameAndType 5 6), (0, u "java/lang/Record"), (0, u "<init>"), (0, u "()V"), (0, .fieldref 8 9), (0, .class_ 10), (0, .nameAndType 11 12), (0, u "com/example/attestry/attestry/store/PossibleMatch$Position"), (0, u "agreement"), (0, u "D"), (0, .fieldref 8 14), (0, .nameAndType 15 16), (0, u "held"), (0, u "J"), (12, u "(DJ)V"), (6, u "()D"), (0, u "()J"), (3, .class_ 42), (0, u "com/example/attestry/attestry/store/PossibleMatch")] 20

def k13c0 : Code := { maxStack := 3, maxLocals := 5, code := prog_25_method_1_code, exceptionTable := #[], attributes := #[] }
def k13m0 : Method := { name := "<init>", desc := "(DJ)V", sig := { parameters := [.double, .long], returnType := none }, accessFlags := 1, code := some k13c0 }
def k13c1 : Code := { maxStack := 2, maxLocals := 1, code := prog_25_method_5_code, exceptionTable := #[], attributes := #[] }
def k13m1 : Method := { name := "agreement", desc := "()D", sig := { parameters := [], returnType := some .double }, accessFlags := 1, code := some k13c1 }
def k13c2 : Code := { maxStack := 2, maxLocals := 1, code := prog_25_method_6_code, exceptionTable := #[], attributes := #[] }
def k13m2 : Method := { name := "held", desc := "()J", sig := { parameters := [], returnType := some .long }, accessFlags := 1, code := some k13c2 }
/-- com/example/attestry/attestry/store/PossibleMatch$Position -/
def k13 : Class := { plain "com/example/attestry/attestry/store/PossibleMatch$Position" (some 7) with
  accessFlags := 49
  interfaces := #[]
  cf := some (fileOf pool13 8 #[.nestHost 41] #[{ accessFlags := 1, nameIndex := 5, descriptorIndex := 29, attributes := #[] }, { accessFlags := 1, nameIndex := 11, descriptorIndex := 36, attributes := #[] }, { accessFlags := 1, nameIndex := 15, descriptorIndex := 37, attributes := #[] }] 49 2 #[] #[{ accessFlags := 18, nameIndex := 11, descriptorIndex := 12, attributes := #[] }, { accessFlags := 18, nameIndex := 15, descriptorIndex := 16, attributes := #[] }])
  fields := #[{ name := "agreement", type := .double, accessFlags := 18, slot := 0, constantValue := 0 }, { name := "held", type := .long, accessFlags := 18, slot := 1, constantValue := 0 }]
  methods := #[k13m0, k13m1, k13m2]
  instanceTypes := #[.double, .long]
  staticTypes := #[]
  resolved := Array.replicate 63 none
  statics := none }

def pool14 : Array CpInfo := pool [(4, .class_ 6), (1, u "java/lang/Object"), (0, u "<init>"), (0, u "()V"), (5, .class_ 16), (1, u "java/lang/StringLatin1"), (104, u "$assertionsDisabled"), (0, u "Z"), (98, .class_ 223), (1, u "java/lang/StringLatin1$LinesSpliterator"), (166, .class_ 391), (0, u "java/lang/StringLatin1$CharsSpliterator")] 3

def k14m0 : Method := { name := "<init>", desc := "()V", sig := { parameters := [], returnType := none }, accessFlags := 0, code := none }
/-- java/lang/StringLatin1 -/
def k14 : Class := { plain "java/lang/StringLatin1" (some 0) with
  accessFlags := 48
  interfaces := #[]
  cf := some (fileOf pool14 14 #[.nestMembers #[390, 221]] #[{ accessFlags := 0, nameIndex := 7, descriptorIndex := 8, attributes := #[] }] 48 4 #[] #[{ accessFlags := 4120, nameIndex := 121, descriptorIndex := 122, attributes := #[] }])
  fields := #[{ name := "$assertionsDisabled", type := .boolean, accessFlags := 4120, slot := 0, constantValue := 0 }]
  methods := #[k14m0]
  instanceTypes := #[]
  staticTypes := #[.boolean]
  resolved := Array.replicate 395 none
  statics := none }

def pool15 : Array CpInfo := pool [(2, .class_ 4), (1, u "java/lang/Object"), (0, u "<init>"), (0, u "()V"), (17, .class_ 26), (1, u "jdk/internal/util/Preconditions"), (28, .class_ 56), (0, u "jdk/internal/util/Preconditions$4"), (57, .class_ 115), (0, u "jdk/internal/util/Preconditions$1"), (7, u "SIOOBE_FORMATTER"), (0, u "Ljava/util/function/BiFunction;"), (0, .class_ 126), (0, u "jdk/internal/util/Preconditions$2"), (3, u "AIOOBE_FORMATTER"), (0, .class_ 132), (0, u "jdk/internal/util/Preconditions$3"), (3, u "IOOBE_FORMATTER")] 57

def k15m0 : Method := { name := "<init>", desc := "()V", sig := { parameters := [], returnType := none }, accessFlags := 1, code := none }
/-- jdk/internal/util/Preconditions -/
def k15 : Class := { plain "jdk/internal/util/Preconditions" (some 0) with
  accessFlags := 33
  interfaces := #[]
  cf := some (fileOf pool15 24 #[.nestMembers #[55, 131, 125, 114]] #[{ accessFlags := 1, nameIndex := 5, descriptorIndex := 6, attributes := #[] }] 33 2 #[] #[{ accessFlags := 25, nameIndex := 123, descriptorIndex := 124, attributes := #[] }, { accessFlags := 25, nameIndex := 130, descriptorIndex := 124, attributes := #[] }, { accessFlags := 25, nameIndex := 136, descriptorIndex := 124, attributes := #[] }])
  fields := #[{ name := "SIOOBE_FORMATTER", type := (.object "java/util/function/BiFunction"), accessFlags := 25, slot := 0, constantValue := 0 }, { name := "AIOOBE_FORMATTER", type := (.object "java/util/function/BiFunction"), accessFlags := 25, slot := 1, constantValue := 0 }, { name := "IOOBE_FORMATTER", type := (.object "java/util/function/BiFunction"), accessFlags := 25, slot := 2, constantValue := 0 }]
  methods := #[k15m0]
  instanceTypes := #[]
  staticTypes := #[(.object "java/util/function/BiFunction"), (.object "java/util/function/BiFunction"), (.object "java/util/function/BiFunction")]
  resolved := Array.replicate 194 none
  statics := some 2 }

def pool16 : Array CpInfo := pool [(9, u "<init>"), (6, .class_ 18), (1, u "java/lang/Object"), (0, u "()V"), (1, .class_ 23), (1, u "jdk/internal/util/ArraysSupport"), (0, u "LOG2_ARRAY_LONG_INDEX_SCALE"), (0, u "I"), (2, u "U"), (0, u "Ljdk/internal/misc/Unsafe;"), (8, u "BIG_ENDIAN"), (0, u "Z"), (8, u "LOG2_BYTE_BIT_SIZE"), (4, u "LOG2_ARRAY_INT_INDEX_SCALE"), (54, u "JLA"), (0, u "Ljdk/internal/access/JavaLangAccess;"), (11, u "LOG2_ARRAY_BOOLEAN_INDEX_SCALE"), (9, u "LOG2_ARRAY_BYTE_INDEX_SCALE"), (5, u "LOG2_ARRAY_CHAR_INDEX_SCALE"), (5, u "LOG2_ARRAY_SHORT_INDEX_SCALE"), (18, u "LOG2_ARRAY_FLOAT_INDEX_SCALE"), (24, u "LOG2_ARRAY_DOUBLE_INDEX_SCALE"), (89, u "T_BOOLEAN"), (2, u "T_CHAR"), (1, u "T_FLOAT"), (1, u "T_DOUBLE"), (1, u "T_BYTE"), (1, u "T_SHORT"), (1, u "T_INT"), (1, u "T_LONG"), (1, u "SOFT_MAX_ARRAY_LENGTH")] 83

def k16m0 : Method := { name := "<init>", desc := "()V", sig := { parameters := [], returnType := none }, accessFlags := 2, code := none }
/-- jdk/internal/util/ArraysSupport -/
def k16 : Class := { plain "jdk/internal/util/ArraysSupport" (some 0) with
  accessFlags := 33
  interfaces := #[]
  cf := some (fileOf pool16 21 #[] #[{ accessFlags := 2, nameIndex := 9, descriptorIndex := 19, attributes := #[] }] 33 16 #[] #[{ accessFlags := 24, nameIndex := 28, descriptorIndex := 29, attributes := #[] }, { accessFlags := 26, nameIndex := 38, descriptorIndex := 39, attributes := #[] }, { accessFlags := 25, nameIndex := 121, descriptorIndex := 25, attributes := #[] }, { accessFlags := 25, nameIndex := 131, descriptorIndex := 25, attributes := #[] }, { accessFlags := 25, nameIndex := 137, descriptorIndex := 25, attributes := #[] }, { accessFlags := 25, nameIndex := 143, descriptorIndex := 25, attributes := #[] }, { accessFlags := 25, nameIndex := 53, descriptorIndex := 25, attributes := #[] }, { accessFlags := 25, nameIndex := 24, descriptorIndex := 25, attributes := #[] }, { accessFlags := 25, nameIndex := 162, descriptorIndex := 25, attributes := #[] }, { accessFlags := 25, nameIndex := 187, descriptorIndex := 25, attributes := #[] }, { accessFlags := 26, nameIndex := 48, descriptorIndex := 25, attributes := #[] }, { accessFlags := 25, nameIndex := 277, descriptorIndex := 25, attributes := #[] }, { accessFlags := 25, nameIndex := 280, descriptorIndex := 25, attributes := #[] }, { accessFlags := 25, nameIndex := 282, descriptorIndex := 25, attributes := #[] }, { accessFlags := 25, nameIndex := 284, descriptorIndex := 25, attributes := #[] }, { accessFlags := 25, nameIndex := 286, descriptorIndex := 25, attributes := #[] }, { accessFlags := 25, nameIndex := 288, descriptorIndex := 25, attributes := #[] }, { accessFlags := 25, nameIndex := 290, descriptorIndex := 25, attributes := #[] }, { accessFlags := 25, nameIndex := 292, descriptorIndex := 25, attributes := #[] }, { accessFlags := 26, nameIndex := 108, descriptorIndex := 109, attributes := #[] }, { accessFlags := 25, nameIndex := 294, descriptorIndex := 25, attributes := #[] }])
  fields := #[{ name := "U", type := (.object "jdk/internal/misc/Unsafe"), accessFlags := 24, slot := 0, constantValue := 0 }, { name := "BIG_ENDIAN", type := .boolean, accessFlags := 26, slot := 1, constantValue := 0 }, { name := "LOG2_ARRAY_BOOLEAN_INDEX_SCALE", type := .int, accessFlags := 25, slot := 2, constantValue := 0 }, { name := "LOG2_ARRAY_BYTE_INDEX_SCALE", type := .int, accessFlags := 25, slot := 3, constantValue := 0 }, { name := "LOG2_ARRAY_CHAR_INDEX_SCALE", type := .int, accessFlags := 25, slot := 4, constantValue := 0 }, { name := "LOG2_ARRAY_SHORT_INDEX_SCALE", type := .int, accessFlags := 25, slot := 5, constantValue := 0 }, { name := "LOG2_ARRAY_INT_INDEX_SCALE", type := .int, accessFlags := 25, slot := 6, constantValue := 0 }, { name := "LOG2_ARRAY_LONG_INDEX_SCALE", type := .int, accessFlags := 25, slot := 7, constantValue := 0 }, { name := "LOG2_ARRAY_FLOAT_INDEX_SCALE", type := .int, accessFlags := 25, slot := 8, constantValue := 0 }, { name := "LOG2_ARRAY_DOUBLE_INDEX_SCALE", type := .int, accessFlags := 25, slot := 9, constantValue := 0 }, { name := "LOG2_BYTE_BIT_SIZE", type := .int, accessFlags := 26, slot := 10, constantValue := 0 }, { name := "T_BOOLEAN", type := .int, accessFlags := 25, slot := 11, constantValue := 0 }, { name := "T_CHAR", type := .int, accessFlags := 25, slot := 12, constantValue := 0 }, { name := "T_FLOAT", type := .int, accessFlags := 25, slot := 13, constantValue := 0 }, { name := "T_DOUBLE", type := .int, accessFlags := 25, slot := 14, constantValue := 0 }, { name := "T_BYTE", type := .int, accessFlags := 25, slot := 15, constantValue := 0 }, { name := "T_SHORT", type := .int, accessFlags := 25, slot := 16, constantValue := 0 }, { name := "T_INT", type := .int, accessFlags := 25, slot := 17, constantValue := 0 }, { name := "T_LONG", type := .int, accessFlags := 25, slot := 18, constantValue := 0 }, { name := "JLA", type := (.object "jdk/internal/access/JavaLangAccess"), accessFlags := 26, slot := 19, constantValue := 0 }, { name := "SOFT_MAX_ARRAY_LENGTH", type := .int, accessFlags := 25, slot := 20, constantValue := 0 }]
  methods := #[k16m0]
  instanceTypes := #[]
  staticTypes := #[(.object "jdk/internal/misc/Unsafe"), .boolean, .int, .int, .int, .int, .int, .int, .int, .int, .int, .int, .int, .int, .int, .int, .int, .int, .int, (.object "jdk/internal/access/JavaLangAccess"), .int]
  resolved := Array.replicate 378 none
  statics := none }

def pool17 : Array CpInfo := pool [(1, u "java/lang/Cloneable"), (0, .class_ 1), (0, u "java/lang/Object"), (0, .class_ 3)] 3

/-- java/lang/Cloneable -/
def k17 : Class := { plain "java/lang/Cloneable" (some 0) with
  accessFlags := 1537
  interfaces := #[]
  cf := some (fileOf pool17 2 #[] #[] 1537 4 #[] #[])
  fields := #[]
  methods := #[]
  instanceTypes := #[]
  staticTypes := #[]
  resolved := Array.replicate 8 none
  statics := none }

/-- the primitive byte -/
def k18 : Class := { plain "byte" none with kind := .primitive 'B', accessFlags := 0x411 }
/-- [B -/
def k19 : Class := { plain "[B" (some 0) with kind := .array 18 .byte, interfaces := #[17, 4], accessFlags := 1041 }

/-- the primitive char -/
def k20 : Class := { plain "char" none with kind := .primitive 'C', accessFlags := 0x411 }
/-- [C -/
def k21 : Class := { plain "[C" (some 0) with kind := .array 20 .char, interfaces := #[17, 4], accessFlags := 1041 }

def heap : Heap := #[{ cls := 6, slots := #[.ref 3, .ref 4, .null], vm := .statics 6 },
  { cls := 11, slots := #[.long 0, .int 1, .null, .int 0, .null, .int 0, .int 0], vm := .statics 11 },
  { cls := 15, slots := #[.null, .null, .null], vm := .statics 15 },
  { cls := 6, slots := #[.null, .int 0, .int 0, .null], vm := .none },
  { cls := 6, slots := #[.null, .int 1, .int 0, .null], vm := .none }]
def classes : Array Class := #[k0, k1, k2, k3, k4, k5, k6, k7, k8, k9, k10, k11, k12, k13, k14, k15, k16, k17, k18, k19, k20, k21]
def interned : List (Array UInt16 × Addr) := []
def slotsUsed : Nat := 21
def theMethod : MethodId := ⟨1, 1⟩
def args0 : Array Value := #[.int 5, .long 5, .int 5, .int 5, .int 5]
def aboutOver (below : List Frame) : State where
  vm := { classes := classes, interned := interned.toArray }
  heap := heap
  slotsUsed := slotsUsed
  threads := #[{ frames := .invoking theMethod args0 :: below }]
def below0 : List Frame := [.native { method := ⟨0, 0⟩, args := #[] }]
def about1 : State := aboutOver below0
def p0 : Program := .bare "" "" ""
def e0 : Env := launch0.env 0 0 0
theorem w_frames : about1.frames = Frame.invoking theMethod args0 :: below0 := rfl
set_option maxRecDepth 65536 in
theorem w_args : argsFit about1.vm theMethod args0 = true := by decide +kernel
set_option maxRecDepth 65536 in
theorem w_heap : heapFits about1 = true := by decide +kernel
set_option maxRecDepth 65536 in
theorem w_runnable : about1.curStatus? = some .runnable := by decide +kernel
set_option maxRecDepth 65536 in
theorem w_alone : about1.alone = true := by decide +kernel
set_option maxRecDepth 65536 in
theorem w_named : about1.methodNamed? x = some theMethod := by decide +kernel
set_option maxRecDepth 65536 in
theorem w_hears : about1.hears theMethod below0 = true := by decide +kernel
set_option maxRecDepth 65536 in
theorem w_ripe : about1.ripe theMethod args0 below0 = true := by decide +kernel
theorem w_running : about1.status = .running := rfl
set_option maxRecDepth 65536 in
theorem w_room : about1.hasRoom e0.platform room_1 = true :=
  launch0.hasRoom_least _ room_1 (by decide +kernel) (by decide +kernel) (by decide +kernel) (by decide +kernel) (by decide +kernel) (by decide +kernel)
theorem allAtoms_all (ts : List Jvm.Cond) (a : Array Jvm.Value) (st : Jvm.State) : (allAtoms ts).before a st = ts.all (fun c => c.before a st) := by
  induction ts with
  | nil => rfl
  | cons c t ih =>
    show (Jvm.Cond.and c (allAtoms t)).before a st = _
    rw [Jvm.Cond.before_and, ih, List.all_cons]
def words1 : List Jvm.Cond := Jvm.Cond.code x code maxLocals ret :: tables_1
/-- a 'code' word, met by the world's own term for the bytes: nothing is compared byte by byte -/
theorem code_word {y : MethodName} {bytes : ByteArray} {mx : Nat} {rt : Option FieldType} {a : Array Value} {s : State} {m : MethodId} {meth : Method} {c : Code} (h1 : s.methodNamed? y = some m) (h2 : s.vm.method? m = some meth) (h3 : meth.code = some c) (h4 : c.code = bytes)
    (h5 : (c.maxLocals == mx && c.exceptionTable.isEmpty && decide (c.maxStack ≤ mostOperands) && decide (meth.sig.returnType = rt) && !meth.locks && decide (parseMethodDescriptor y.desc = some meth.sig)) = true) : (Jvm.Cond.code y bytes mx rt).before a s = true := by
  simp only [Bool.and_eq_true, beq_iff_eq, Bool.not_eq_true', decide_eq_true_eq] at h5
  obtain ⟨⟨⟨⟨⟨g1, g2⟩, g3⟩, g4⟩, g5⟩, g6⟩ := h5
  simp [Cond.before, Cond.holds, Cond.value, h1, h2, h3, h4, g1, g2, g3, g4, g5, g6]
def isCode : Jvm.Cond → Bool
  | .code _ _ _ _ => true
  | _ => false
theorem all_split {L : List Jvm.Cond} {P : Jvm.Cond → Bool} (h1 : L.all (fun c => isCode c || P c) = true) (h2 : ∀ c ∈ L.filter isCode, P c = true) : L.all P = true := by
  refine List.all_eq_true.mpr fun c hc => ?_
  have h := List.all_eq_true.mp h1 c hc
  rcases Bool.eq_false_or_eq_true (isCode c) with hi | hi
  · exact h2 c (List.mem_filter.mpr ⟨hc, hi⟩)
  · simpa [hi] using h
set_option maxRecDepth 65536 in
theorem w_c0 : (Jvm.Cond.code x code maxLocals ret).before args0 about1 = true := code_word (m := ⟨1, 1⟩) (meth := k1m1) (c := k1c1) (by decide +kernel) rfl rfl rfl (by decide +kernel)
set_option maxRecDepth 65536 in
theorem w_c1 : (Jvm.Cond.code ({ cls := "java/lang/String", name := "<init>", desc := "([C)V" } : Jvm.MethodName) jdk_42_method_3_code (2 : Nat) (Option.none : Option Jvm.ClassFile.FieldType)).before args0 about1 = true := code_word (m := ⟨11, 1⟩) (meth := k11m1) (c := k11c1) (by decide +kernel) rfl rfl rfl (by decide +kernel)
set_option maxRecDepth 65536 in
theorem w_c2 : (Jvm.Cond.code ({ cls := "java/lang/String", name := "<init>", desc := "([CIILjava/lang/Void;)V" } : Jvm.MethodName) jdk_42_method_149_code (6 : Nat) (Option.none : Option Jvm.ClassFile.FieldType)).before args0 about1 = true := code_word (m := ⟨11, 2⟩) (meth := k11m2) (c := k11c2) (by decide +kernel) rfl rfl rfl (by decide +kernel)
set_option maxRecDepth 65536 in
theorem w_c3 : (Jvm.Cond.code ({ cls := "java/lang/Object", name := "<init>", desc := "()V" } : Jvm.MethodName) object_method_1_code (1 : Nat) (Option.none : Option Jvm.ClassFile.FieldType)).before args0 about1 = true := code_word (m := ⟨0, 0⟩) (meth := k0m0) (c := k0c0) (by decide +kernel) rfl rfl rfl (by decide +kernel)
set_option maxRecDepth 65536 in
theorem w_c4 : (Jvm.Cond.code ({ cls := "java/lang/StringUTF16", name := "compress", desc := "([CII)[B" } : Jvm.MethodName) jdk_52_method_16_code (6 : Nat) (Option.some (Jvm.ClassFile.FieldType.array Jvm.ClassFile.FieldType.byte))).before args0 about1 = true := code_word (m := ⟨12, 2⟩) (meth := k12m2) (c := k12c2) (by decide +kernel) rfl rfl rfl (by decide +kernel)
set_option maxRecDepth 65536 in
theorem w_c5 : (Jvm.Cond.code ({ cls := "java/lang/StringUTF16", name := "compress", desc := "([CI[BII)I" } : Jvm.MethodName) jdk_52_method_21_code (7 : Nat) (Option.some Jvm.ClassFile.FieldType.int)).before args0 about1 = true := code_word (m := ⟨12, 3⟩) (meth := k12m3) (c := k12c3) (by decide +kernel) rfl rfl rfl (by decide +kernel)
set_option maxRecDepth 65536 in
theorem w_c6 : (Jvm.Cond.code ({ cls := "java/lang/StringUTF16", name := "coderFromArrayLen", desc := "([BI)B" } : Jvm.MethodName) jdk_52_method_15_code (2 : Nat) (Option.some Jvm.ClassFile.FieldType.byte)).before args0 about1 = true := code_word (m := ⟨12, 1⟩) (meth := k12m1) (c := k12c1) (by decide +kernel) rfl rfl rfl (by decide +kernel)
set_option maxRecDepth 65536 in
theorem w_c7 : (Jvm.Cond.code ({ cls := "com/example/attestry/attestry/store/PossibleMatch", name := "<init>", desc := "(Ljava/lang/String;Ljava/lang/String;DJLcom/example/attestry/attestry/store/PossibleMatch$Grade;)V" } : Jvm.MethodName) prog_23_method_1_code (8 : Nat) (Option.none : Option Jvm.ClassFile.FieldType)).before args0 about1 = true := code_word (m := ⟨8, 0⟩) (meth := k8m0) (c := k8c0) (by decide +kernel) rfl rfl rfl (by decide +kernel)
set_option maxRecDepth 65536 in
theorem w_c8 : (Jvm.Cond.code ({ cls := "java/lang/Record", name := "<init>", desc := "()V" } : Jvm.MethodName) jdk_30_method_1_code (1 : Nat) (Option.none : Option Jvm.ClassFile.FieldType)).before args0 about1 = true := code_word (m := ⟨7, 0⟩) (meth := k7m0) (c := k7c0) (by decide +kernel) rfl rfl rfl (by decide +kernel)
set_option maxRecDepth 65536 in
theorem w_c9 : (Jvm.Cond.code ({ cls := "com/example/attestry/attestry/store/PossibleMatch", name := "position", desc := "()Lcom/example/attestry/attestry/store/PossibleMatch$Position;" } : Jvm.MethodName) prog_23_method_2_code (1 : Nat) (Option.some (Jvm.ClassFile.FieldType.object "com/example/attestry/attestry/store/PossibleMatch$Position"))).before args0 about1 = true := code_word (m := ⟨8, 1⟩) (meth := k8m1) (c := k8c1) (by decide +kernel) rfl rfl rfl (by decide +kernel)
set_option maxRecDepth 65536 in
theorem w_c10 : (Jvm.Cond.code ({ cls := "com/example/attestry/attestry/store/PossibleMatch$Position", name := "<init>", desc := "(DJ)V" } : Jvm.MethodName) prog_25_method_1_code (5 : Nat) (Option.none : Option Jvm.ClassFile.FieldType)).before args0 about1 = true := code_word (m := ⟨13, 0⟩) (meth := k13m0) (c := k13c0) (by decide +kernel) rfl rfl rfl (by decide +kernel)
set_option maxRecDepth 65536 in
theorem w_c11 : (Jvm.Cond.code ({ cls := "com/example/attestry/attestry/store/PossibleMatch$Position", name := "agreement", desc := "()D" } : Jvm.MethodName) prog_25_method_5_code (1 : Nat) (Option.some Jvm.ClassFile.FieldType.double)).before args0 about1 = true := code_word (m := ⟨13, 1⟩) (meth := k13m1) (c := k13c1) (by decide +kernel) rfl rfl rfl (by decide +kernel)
set_option maxRecDepth 65536 in
theorem w_c12 : (Jvm.Cond.code ({ cls := "com/example/attestry/attestry/store/PossibleMatch$Position", name := "held", desc := "()J" } : Jvm.MethodName) prog_25_method_6_code (1 : Nat) (Option.some Jvm.ClassFile.FieldType.long)).before args0 about1 = true := code_word (m := ⟨13, 2⟩) (meth := k13m2) (c := k13c2) (by decide +kernel) rfl rfl rfl (by decide +kernel)
def codes1 : List Jvm.Cond := [Jvm.Cond.code x code maxLocals ret, Jvm.Cond.code ({ cls := "java/lang/String", name := "<init>", desc := "([C)V" } : Jvm.MethodName) jdk_42_method_3_code (2 : Nat) (Option.none : Option Jvm.ClassFile.FieldType), Jvm.Cond.code ({ cls := "java/lang/String", name := "<init>", desc := "([CIILjava/lang/Void;)V" } : Jvm.MethodName) jdk_42_method_149_code (6 : Nat) (Option.none : Option Jvm.ClassFile.FieldType), Jvm.Cond.code ({ cls := "java/lang/Object", name := "<init>", desc := "()V" } : Jvm.MethodName) object_method_1_code (1 : Nat) (Option.none : Option Jvm.ClassFile.FieldType), Jvm.Cond.code ({ cls := "java/lang/StringUTF16", name := "compress", desc := "([CII)[B" } : Jvm.MethodName) jdk_52_method_16_code (6 : Nat) (Option.some (Jvm.ClassFile.FieldType.array Jvm.ClassFile.FieldType.byte)), Jvm.Cond.code ({ cls := "java/lang/StringUTF16", name := "compress", desc := "([CI[BII)I" } : Jvm.MethodName) jdk_52_method_21_code (7 : Nat) (Option.some Jvm.ClassFile.FieldType.int), Jvm.Cond.code ({ cls := "java/lang/StringUTF16", name := "coderFromArrayLen", desc := "([BI)B" } : Jvm.MethodName) jdk_52_method_15_code (2 : Nat) (Option.some Jvm.ClassFile.FieldType.byte), Jvm.Cond.code ({ cls := "com/example/attestry/attestry/store/PossibleMatch", name := "<init>", desc := "(Ljava/lang/String;Ljava/lang/String;DJLcom/example/attestry/attestry/store/PossibleMatch$Grade;)V" } : Jvm.MethodName) prog_23_method_1_code (8 : Nat) (Option.none : Option Jvm.ClassFile.FieldType), Jvm.Cond.code ({ cls := "java/lang/Record", name := "<init>", desc := "()V" } : Jvm.MethodName) jdk_30_method_1_code (1 : Nat) (Option.none : Option Jvm.ClassFile.FieldType), Jvm.Cond.code ({ cls := "com/example/attestry/attestry/store/PossibleMatch", name := "position", desc := "()Lcom/example/attestry/attestry/store/PossibleMatch$Position;" } : Jvm.MethodName) prog_23_method_2_code (1 : Nat) (Option.some (Jvm.ClassFile.FieldType.object "com/example/attestry/attestry/store/PossibleMatch$Position")), Jvm.Cond.code ({ cls := "com/example/attestry/attestry/store/PossibleMatch$Position", name := "<init>", desc := "(DJ)V" } : Jvm.MethodName) prog_25_method_1_code (5 : Nat) (Option.none : Option Jvm.ClassFile.FieldType), Jvm.Cond.code ({ cls := "com/example/attestry/attestry/store/PossibleMatch$Position", name := "agreement", desc := "()D" } : Jvm.MethodName) prog_25_method_5_code (1 : Nat) (Option.some Jvm.ClassFile.FieldType.double), Jvm.Cond.code ({ cls := "com/example/attestry/attestry/store/PossibleMatch$Position", name := "held", desc := "()J" } : Jvm.MethodName) prog_25_method_6_code (1 : Nat) (Option.some Jvm.ClassFile.FieldType.long)]
set_option maxRecDepth 65536 in
theorem codes_eq : words1.filter isCode = codes1 := rfl
theorem w_codes : ∀ c ∈ words1.filter isCode, c.before args0 about1 = true := by
  rw [codes_eq]
  intro c hc
  simp only [codes1, List.mem_cons, List.not_mem_nil, or_false] at hc
  rcases hc with rfl | rfl | rfl | rfl | rfl | rfl | rfl | rfl | rfl | rfl | rfl | rfl | rfl
  · exact w_c0
  · exact w_c1
  · exact w_c2
  · exact w_c3
  · exact w_c4
  · exact w_c5
  · exact w_c6
  · exact w_c7
  · exact w_c8
  · exact w_c9
  · exact w_c10
  · exact w_c11
  · exact w_c12
set_option maxRecDepth 65536 in
theorem w_t1 : (words1.take 24).all (fun c => isCode c || c.before args0 about1) = true := by decide +kernel
set_option maxRecDepth 65536 in
theorem w_t2 : ((words1.drop 24).take 24).all (fun c => isCode c || c.before args0 about1) = true := by decide +kernel
set_option maxRecDepth 65536 in
theorem w_t3 : (((words1.drop 24).drop 24).take 24).all (fun c => isCode c || c.before args0 about1) = true := by decide +kernel
set_option maxRecDepth 65536 in
theorem w_t4 : (((words1.drop 24).drop 24).drop 24).all (fun c => isCode c || c.before args0 about1) = true := by decide +kernel
theorem w_tables : (allAtoms (Jvm.Cond.code x code maxLocals ret :: tables_1)).before args0 about1 = true := by
  rw [allAtoms_all]
  show words1.all (fun c => c.before args0 about1) = true
  refine all_split ?_ w_codes
  rw [← List.take_append_drop 24 words1, List.all_append, w_t1, ← List.take_append_drop 24 (words1.drop 24), List.all_append, w_t2, ← List.take_append_drop 24 ((words1.drop 24).drop 24), List.all_append, w_t3, w_t4]
  rfl
set_option maxRecDepth 65536 in
theorem w_rest : rest_1_c.before args0 about1 = true := by decide +kernel
set_option maxRecDepth 65536 in
theorem w_case : (Jvm.Cond.and given_1 narrow_1).before args0 about1 = true := by decide +kernel
theorem w_applies : (headSpec (Jvm.Cond.code x code maxLocals ret :: tables_1) room_1).applies x e0.platform about1 = true :=
  (Spec.applies_iff w_frames).mpr ⟨w_running, w_runnable, w_alone, w_named, w_hears, w_ripe, w_room, w_tables⟩
theorem atStart : AtStart classFile x code maxLocals ret World_1 tables_1 room_1 Calls_1 rest_1 Pre_1 launch0 p0 e0 about1 theMethod args0 below0 :=
  ⟨lists_1, trivial, launch0.admits_env _ _ _, launch0.least_env, fairChoices_fair.cas, fairChoices_fair.clock, w_frames, w_args, w_heap, w_applies, trivial, w_rest, w_case⟩
end start1
theorem witness_1 : WitnessClaimed_1 := ⟨start1.p0, start1.e0, start1.about1, start1.theMethod, start1.args0, start1.below0, start1.atStart⟩
end Jvm.Pilot.@@N@@
