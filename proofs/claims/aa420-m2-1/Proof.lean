import JvmDerived
import JvmDerived.Pilot.@@N@@Statement
import JvmDerived.Pilot.@@N@@Code
set_option linter.unusedVariables false
set_option linter.unusedSimpArgs false
@@BLOCK:NumsL.lean.txt@@
namespace Jvm.Own
open Jvm Jvm.ClassFile Sem Op Lib Jvm.Free Jvm.Stand Jvm.LawKit Jvm.RoadKit
/-- from A the run comes to the invocation's end, where P holds -/
def Go (p : Program) (e : Env) (below : List Frame) (P : Outcome → State → Prop) (A : State) : Prop := ∃ s₂ o, Steps p.tables e below A s₂ ∧ s₂.status = .running ∧ Ended s₂ below o ∧ P o s₂
def Gf (p : Program) (e : Env) (below : List Frame) (P : Outcome → State → Prop) (T : State) (m : MethodId) (pc : Nat) (Ls : Array Slot) (st : List Value) : Prop := Go p e below P (T.setTop (mkF m pc Ls st))
theorem Go.step {p : Program} {e : Env} {below : List Frame} {P : Outcome → State → Prop} {A B : State} (h : ∀ t, Steps p.tables e below B t → Steps p.tables e below A t) (g : Go p e below P B) : Go p e below P A := by
  obtain ⟨s2, o, h1, h2⟩ := g
  exact ⟨s2, o, h _ h1, h2⟩
section Steps1
variable {p : Program} {l : Launch} {e : Env} {R : Room} {s : State} {m : MethodId} {args : Array Value} {below : List Frame} {meth : Method} {c : Code} {T : State} {locs : List Loc} {cells slots : Nat} {P : Outcome → State → Prop} {code : ByteArray} {pc pc' : Nat} {Ls Ls' : Array Slot} {st st' : List Value}
theorem g_iloadN (X : Stand p l e R s m args below meth c T locs cells slots) (hx : p.tables.exec = Jvm.exec) (hby : c.code = code) {k : Fin 4} {v : Int32} (hd : decode code pc = .ok (.iload_n k, 1)) (hl : Ls[k.val]? = some (.val (.int v))) (hp : pc + 1 = pc') (g : Gf p e below P T m pc' Ls (.int v :: st)) : Gf p e below P T m pc Ls st := by
  subst hp
  exact Go.step (fun t k => XS.iloadN X.here hx rfl (hb hby hd) hl k) g
theorem g_iload (X : Stand p l e R s m args below meth c T locs cells slots) (hx : p.tables.exec = Jvm.exec) (hby : c.code = code) {k : Nat} {v : Int32} (hd : decode code pc = .ok (.iload k, 2)) (hl : Ls[k]? = some (.val (.int v))) (hp : pc + 2 = pc') (g : Gf p e below P T m pc' Ls (.int v :: st)) : Gf p e below P T m pc Ls st := by
  subst hp
  exact Go.step (fun t k => XS.iload X.here hx rfl (hb hby hd) hl k) g
theorem g_istoreN (X : Stand p l e R s m args below meth c T locs cells slots) (hx : p.tables.exec = Jvm.exec) (hby : c.code = code) {k : Fin 4} {v : Int32} (hd : decode code pc = .ok (.istore_n k, 1)) (hst : st = .int v :: st') (hl : storeLocals Ls k.val (.int v) = some Ls') (hp : pc + 1 = pc') (g : Gf p e below P T m pc' Ls' st') : Gf p e below P T m pc Ls st := by
  subst hp hst
  exact Go.step (fun t k => XS.istoreN X.here hx rfl (hb hby hd) rfl hl k) g
theorem g_istore (X : Stand p l e R s m args below meth c T locs cells slots) (hx : p.tables.exec = Jvm.exec) (hby : c.code = code) {k : Nat} {v : Int32} (hd : decode code pc = .ok (.istore k, 2)) (hst : st = .int v :: st') (hl : storeLocals Ls k (.int v) = some Ls') (hp : pc + 2 = pc') (g : Gf p e below P T m pc' Ls' st') : Gf p e below P T m pc Ls st := by
  subst hp hst
  exact Go.step (fun t k => XS.istore X.here hx rfl (hb hby hd) rfl hl k) g
theorem g_lloadN (X : Stand p l e R s m args below meth c T locs cells slots) (hx : p.tables.exec = Jvm.exec) (hby : c.code = code) {k : Fin 4} {v : Int64} (hd : decode code pc = .ok (.lload_n k, 1)) (hl : Ls[k.val]? = some (.val (.long v))) (hp : pc + 1 = pc') (g : Gf p e below P T m pc' Ls (.long v :: st)) : Gf p e below P T m pc Ls st := by
  subst hp
  exact Go.step (fun t k => XS.lloadN X.here hx rfl (hb hby hd) hl k) g
theorem g_lload (X : Stand p l e R s m args below meth c T locs cells slots) (hx : p.tables.exec = Jvm.exec) (hby : c.code = code) {k : Nat} {v : Int64} (hd : decode code pc = .ok (.lload k, 2)) (hl : Ls[k]? = some (.val (.long v))) (hp : pc + 2 = pc') (g : Gf p e below P T m pc' Ls (.long v :: st)) : Gf p e below P T m pc Ls st := by
  subst hp
  exact Go.step (fun t k => XS.lload X.here hx rfl (hb hby hd) hl k) g
theorem g_lstoreN (X : Stand p l e R s m args below meth c T locs cells slots) (hx : p.tables.exec = Jvm.exec) (hby : c.code = code) {k : Fin 4} {v : Int64} (hd : decode code pc = .ok (.lstore_n k, 1)) (hst : st = .long v :: st') (hl : storeLocals Ls k.val (.long v) = some Ls') (hp : pc + 1 = pc') (g : Gf p e below P T m pc' Ls' st') : Gf p e below P T m pc Ls st := by
  subst hp hst
  exact Go.step (fun t k => XS.lstoreN X.here hx rfl (hb hby hd) rfl hl k) g
theorem g_lstore (X : Stand p l e R s m args below meth c T locs cells slots) (hx : p.tables.exec = Jvm.exec) (hby : c.code = code) {k : Nat} {v : Int64} (hd : decode code pc = .ok (.lstore k, 2)) (hst : st = .long v :: st') (hl : storeLocals Ls k (.long v) = some Ls') (hp : pc + 2 = pc') (g : Gf p e below P T m pc' Ls' st') : Gf p e below P T m pc Ls st := by
  subst hp hst
  exact Go.step (fun t k => XS.lstore X.here hx rfl (hb hby hd) rfl hl k) g
theorem g_dloadN (X : Stand p l e R s m args below meth c T locs cells slots) (hx : p.tables.exec = Jvm.exec) (hby : c.code = code) {k : Fin 4} {v : UInt64} (hd : decode code pc = .ok (.dload_n k, 1)) (hl : Ls[k.val]? = some (.val (.double v))) (hp : pc + 1 = pc') (g : Gf p e below P T m pc' Ls (.double v :: st)) : Gf p e below P T m pc Ls st := by
  subst hp
  exact Go.step (fun t k => XS.dloadN X.here hx rfl (hb hby hd) hl k) g
theorem g_dload (X : Stand p l e R s m args below meth c T locs cells slots) (hx : p.tables.exec = Jvm.exec) (hby : c.code = code) {k : Nat} {v : UInt64} (hd : decode code pc = .ok (.dload k, 2)) (hl : Ls[k]? = some (.val (.double v))) (hp : pc + 2 = pc') (g : Gf p e below P T m pc' Ls (.double v :: st)) : Gf p e below P T m pc Ls st := by
  subst hp
  exact Go.step (fun t k => XS.dload X.here hx rfl (hb hby hd) hl k) g
theorem g_dstoreN (X : Stand p l e R s m args below meth c T locs cells slots) (hx : p.tables.exec = Jvm.exec) (hby : c.code = code) {k : Fin 4} {v : UInt64} (hd : decode code pc = .ok (.dstore_n k, 1)) (hst : st = .double v :: st') (hl : storeLocals Ls k.val (.double v) = some Ls') (hp : pc + 1 = pc') (g : Gf p e below P T m pc' Ls' st') : Gf p e below P T m pc Ls st := by
  subst hp hst
  exact Go.step (fun t k => XS.dstoreN X.here hx rfl (hb hby hd) rfl hl k) g
theorem g_dstore (X : Stand p l e R s m args below meth c T locs cells slots) (hx : p.tables.exec = Jvm.exec) (hby : c.code = code) {k : Nat} {v : UInt64} (hd : decode code pc = .ok (.dstore k, 2)) (hst : st = .double v :: st') (hl : storeLocals Ls k (.double v) = some Ls') (hp : pc + 2 = pc') (g : Gf p e below P T m pc' Ls' st') : Gf p e below P T m pc Ls st := by
  subst hp hst
  exact Go.step (fun t k => XS.dstore X.here hx rfl (hb hby hd) rfl hl k) g
theorem g_aloadN (X : Stand p l e R s m args below meth c T locs cells slots) (hx : p.tables.exec = Jvm.exec) (hby : c.code = code) {k : Fin 4} {v : Value} (hd : decode code pc = .ok (.aload_n k, 1)) (hl : Ls[k.val]? = some (.val v)) (hv : v.isRef = true) (hp : pc + 1 = pc') (g : Gf p e below P T m pc' Ls (v :: st)) : Gf p e below P T m pc Ls st := by
  subst hp
  exact Go.step (fun t k => XS.aloadN X.here hx rfl (hb hby hd) hl hv k) g
theorem g_aload (X : Stand p l e R s m args below meth c T locs cells slots) (hx : p.tables.exec = Jvm.exec) (hby : c.code = code) {k : Nat} {v : Value} (hd : decode code pc = .ok (.aload k, 2)) (hl : Ls[k]? = some (.val v)) (hv : v.isRef = true) (hp : pc + 2 = pc') (g : Gf p e below P T m pc' Ls (v :: st)) : Gf p e below P T m pc Ls st := by
  subst hp
  exact Go.step (fun t k => XS.aload X.here hx rfl (hb hby hd) hl hv k) g
theorem g_astoreN (X : Stand p l e R s m args below meth c T locs cells slots) (hx : p.tables.exec = Jvm.exec) (hby : c.code = code) {k : Fin 4} {v : Value} (hd : decode code pc = .ok (.astore_n k, 1)) (hst : st = v :: st') (hv : v.isRef = true) (hl : storeLocals Ls k.val v = some Ls') (hp : pc + 1 = pc') (g : Gf p e below P T m pc' Ls' st') : Gf p e below P T m pc Ls st := by
  subst hp hst
  exact Go.step (fun t k => XS.astoreN X.here hx rfl (hb hby hd) rfl hv hl k) g
theorem g_astore (X : Stand p l e R s m args below meth c T locs cells slots) (hx : p.tables.exec = Jvm.exec) (hby : c.code = code) {k : Nat} {v : Value} (hd : decode code pc = .ok (.astore k, 2)) (hst : st = v :: st') (hv : v.isRef = true) (hl : storeLocals Ls k v = some Ls') (hp : pc + 2 = pc') (g : Gf p e below P T m pc' Ls' st') : Gf p e below P T m pc Ls st := by
  subst hp hst
  exact Go.step (fun t k => XS.astore X.here hx rfl (hb hby hd) rfl hv hl k) g
theorem g_iconst (X : Stand p l e R s m args below meth c T locs cells slots) (hx : p.tables.exec = Jvm.exec) (hby : c.code = code) {i : Int} {v : Int32} (hd : decode code pc = .ok (.iconst i, 1)) (hv : Int32.ofInt i = v) (hp : pc + 1 = pc') (g : Gf p e below P T m pc' Ls (.int v :: st)) : Gf p e below P T m pc Ls st := by
  subst hp
  exact Go.step (fun t k => XS.iconst X.here hx rfl (hb hby hd) (by subst hv; exact k)) g
theorem g_bipush (X : Stand p l e R s m args below meth c T locs cells slots) (hx : p.tables.exec = Jvm.exec) (hby : c.code = code) {i : Int} {v : Int32} (hd : decode code pc = .ok (.bipush i, 2)) (hv : (Int8.ofInt i).toInt32 = v) (hp : pc + 2 = pc') (g : Gf p e below P T m pc' Ls (.int v :: st)) : Gf p e below P T m pc Ls st := by
  subst hp
  exact Go.step (fun t k => XS.bipush X.here hx rfl (hb hby hd) (by subst hv; exact k)) g
theorem g_sipush (X : Stand p l e R s m args below meth c T locs cells slots) (hx : p.tables.exec = Jvm.exec) (hby : c.code = code) {i : Int} {v : Int32} (hd : decode code pc = .ok (.sipush i, 3)) (hv : (Int16.ofInt i).toInt32 = v) (hp : pc + 3 = pc') (g : Gf p e below P T m pc' Ls (.int v :: st)) : Gf p e below P T m pc Ls st := by
  subst hp
  exact Go.step (fun t k => XS.sipush X.here hx rfl (hb hby hd) (by subst hv; exact k)) g
theorem g_lconst (X : Stand p l e R s m args below meth c T locs cells slots) (hx : p.tables.exec = Jvm.exec) (hby : c.code = code) {i : Fin 2} {v : Int64} (hd : decode code pc = .ok (.lconst i, 1)) (hv : Int64.ofInt i.val = v) (hp : pc + 1 = pc') (g : Gf p e below P T m pc' Ls (.long v :: st)) : Gf p e below P T m pc Ls st := by
  subst hp
  exact Go.step (fun t k => XS.lconst X.here hx rfl (hb hby hd) (by subst hv; exact k)) g
theorem g_dconst0 (X : Stand p l e R s m args below meth c T locs cells slots) (hx : p.tables.exec = Jvm.exec) (hby : c.code = code) {v : UInt64} (hd : decode code pc = .ok (.dconst 0, 1)) (hv : FP.dconst0 = v) (hp : pc + 1 = pc') (g : Gf p e below P T m pc' Ls (.double v :: st)) : Gf p e below P T m pc Ls st := by
  subst hp
  exact Go.step (fun t k => XS.dconst0 X.here hx rfl (hb hby hd) hv k) g
theorem g_dconst1 (X : Stand p l e R s m args below meth c T locs cells slots) (hx : p.tables.exec = Jvm.exec) (hby : c.code = code) {v : UInt64} (hd : decode code pc = .ok (.dconst 1, 1)) (hv : FP.dconst1 = v) (hp : pc + 1 = pc') (g : Gf p e below P T m pc' Ls (.double v :: st)) : Gf p e below P T m pc Ls st := by
  subst hp
  exact Go.step (fun t k => XS.dconst1 X.here hx rfl (hb hby hd) hv k) g
theorem g_aconst_null (X : Stand p l e R s m args below meth c T locs cells slots) (hx : p.tables.exec = Jvm.exec) (hby : c.code = code)  (hd : decode code pc = .ok (.aconst_null, 1)) (hp : pc + 1 = pc') (g : Gf p e below P T m pc' Ls (.null :: st)) : Gf p e below P T m pc Ls st := by
  subst hp
  exact Go.step (fun t k => XS.aconstNull X.here hx rfl (hb hby hd) k) g
theorem g_ldcI (X : Stand p l e R s m args below meth c T locs cells slots) (hx : p.tables.exec = Jvm.exec) (hby : c.code = code) {own : String} {a0 : Array Value} {Z : State} (hZ : Z.Warmed39 s.vm) (hown : s.vm.findClass own = some m.cls) {i : Nat} {v : Int32} (w : (Cond.constant own i v).before a0 Z = true) (hd : decode code pc = .ok (.ldc i, 2)) (hp : pc + 2 = pc') (g : Gf p e below P T m pc' Ls (.int v :: st)) : Gf p e below P T m pc Ls st := by
  subst hp
  exact Go.step (fun t k => X.ldcInt hx hown (mvT hZ w) (g := mkF m pc Ls st) rfl (hb hby hd) t k) g
theorem g_ldcJ (X : Stand p l e R s m args below meth c T locs cells slots) (hx : p.tables.exec = Jvm.exec) (hby : c.code = code) {own : String} {a0 : Array Value} {Z : State} (hZ : Z.Warmed39 s.vm) (hown : s.vm.findClass own = some m.cls) {i : Nat} {v : Int64} (w : (Cond.constantLong own i v).before a0 Z = true) (hd : decode code pc = .ok (.ldc2_w i, 3)) (hp : pc + 3 = pc') (g : Gf p e below P T m pc' Ls (.long v :: st)) : Gf p e below P T m pc Ls st := by
  subst hp
  exact Go.step (fun t k => X.ldc2Long hx hown (mvT hZ w) (g := mkF m pc Ls st) rfl (hb hby hd) t k) g
theorem g_ldcD (X : Stand p l e R s m args below meth c T locs cells slots) (hx : p.tables.exec = Jvm.exec) (hby : c.code = code) {own : String} {a0 : Array Value} {Z : State} (hZ : Z.Warmed39 s.vm) (hown : s.vm.findClass own = some m.cls) {i : Nat} {v : UInt64} (w : (Cond.constantDouble own i v).before a0 Z = true) (hd : decode code pc = .ok (.ldc2_w i, 3)) (hp : pc + 3 = pc') (g : Gf p e below P T m pc' Ls (.double v :: st)) : Gf p e below P T m pc Ls st := by
  subst hp
  exact Go.step (fun t k => X.ldc2DoubleC hx hown (mvT hZ w) (g := mkF m pc Ls st) rfl (hb hby hd) t k) g
theorem g_iadd (X : Stand p l e R s m args below meth c T locs cells slots) (hx : p.tables.exec = Jvm.exec) (hby : c.code = code) {x y v : Int32} (hd : decode code pc = .ok (.iadd, 1)) (hst : st = .int y :: .int x :: st') (hv : x + y = v) (hp : pc + 1 = pc') (g : Gf p e below P T m pc' Ls (.int v :: st')) : Gf p e below P T m pc Ls st := by
  subst hp hst
  exact Go.step (fun t k => XS.iadd X.here hx rfl (hb hby hd) rfl (by subst hv; exact k)) g
theorem g_isub (X : Stand p l e R s m args below meth c T locs cells slots) (hx : p.tables.exec = Jvm.exec) (hby : c.code = code) {x y v : Int32} (hd : decode code pc = .ok (.isub, 1)) (hst : st = .int y :: .int x :: st') (hv : x - y = v) (hp : pc + 1 = pc') (g : Gf p e below P T m pc' Ls (.int v :: st')) : Gf p e below P T m pc Ls st := by
  subst hp hst
  exact Go.step (fun t k => XS.isub X.here hx rfl (hb hby hd) rfl (by subst hv; exact k)) g
theorem g_imul (X : Stand p l e R s m args below meth c T locs cells slots) (hx : p.tables.exec = Jvm.exec) (hby : c.code = code) {x y v : Int32} (hd : decode code pc = .ok (.imul, 1)) (hst : st = .int y :: .int x :: st') (hv : x * y = v) (hp : pc + 1 = pc') (g : Gf p e below P T m pc' Ls (.int v :: st')) : Gf p e below P T m pc Ls st := by
  subst hp hst
  exact Go.step (fun t k => XS.imul X.here hx rfl (hb hby hd) rfl (by subst hv; exact k)) g
theorem g_iand (X : Stand p l e R s m args below meth c T locs cells slots) (hx : p.tables.exec = Jvm.exec) (hby : c.code = code) {x y v : Int32} (hd : decode code pc = .ok (.iand, 1)) (hst : st = .int y :: .int x :: st') (hv : x &&& y = v) (hp : pc + 1 = pc') (g : Gf p e below P T m pc' Ls (.int v :: st')) : Gf p e below P T m pc Ls st := by
  subst hp hst
  exact Go.step (fun t k => XS.iand X.here hx rfl (hb hby hd) rfl (by subst hv; exact k)) g
theorem g_ior (X : Stand p l e R s m args below meth c T locs cells slots) (hx : p.tables.exec = Jvm.exec) (hby : c.code = code) {x y v : Int32} (hd : decode code pc = .ok (.ior, 1)) (hst : st = .int y :: .int x :: st') (hv : x ||| y = v) (hp : pc + 1 = pc') (g : Gf p e below P T m pc' Ls (.int v :: st')) : Gf p e below P T m pc Ls st := by
  subst hp hst
  exact Go.step (fun t k => XS.ior X.here hx rfl (hb hby hd) rfl (by subst hv; exact k)) g
theorem g_ixor (X : Stand p l e R s m args below meth c T locs cells slots) (hx : p.tables.exec = Jvm.exec) (hby : c.code = code) {x y v : Int32} (hd : decode code pc = .ok (.ixor, 1)) (hst : st = .int y :: .int x :: st') (hv : x ^^^ y = v) (hp : pc + 1 = pc') (g : Gf p e below P T m pc' Ls (.int v :: st')) : Gf p e below P T m pc Ls st := by
  subst hp hst
  exact Go.step (fun t k => XS.ixor X.here hx rfl (hb hby hd) rfl (by subst hv; exact k)) g
theorem g_ishl (X : Stand p l e R s m args below meth c T locs cells slots) (hx : p.tables.exec = Jvm.exec) (hby : c.code = code) {x y v : Int32} (hd : decode code pc = .ok (.ishl, 1)) (hst : st = .int y :: .int x :: st') (hv : x <<< (y &&& 31) = v) (hp : pc + 1 = pc') (g : Gf p e below P T m pc' Ls (.int v :: st')) : Gf p e below P T m pc Ls st := by
  subst hp hst
  exact Go.step (fun t k => XS.ishl X.here hx rfl (hb hby hd) rfl (by subst hv; exact k)) g
theorem g_ishr (X : Stand p l e R s m args below meth c T locs cells slots) (hx : p.tables.exec = Jvm.exec) (hby : c.code = code) {x y v : Int32} (hd : decode code pc = .ok (.ishr, 1)) (hst : st = .int y :: .int x :: st') (hv : x >>> (y &&& 31) = v) (hp : pc + 1 = pc') (g : Gf p e below P T m pc' Ls (.int v :: st')) : Gf p e below P T m pc Ls st := by
  subst hp hst
  exact Go.step (fun t k => XS.ishr X.here hx rfl (hb hby hd) rfl (by subst hv; exact k)) g
theorem g_iushr (X : Stand p l e R s m args below meth c T locs cells slots) (hx : p.tables.exec = Jvm.exec) (hby : c.code = code) {x y v : Int32} (hd : decode code pc = .ok (.iushr, 1)) (hst : st = .int y :: .int x :: st') (hv : (x.toUInt32 >>> (y &&& 31).toUInt32).toInt32 = v) (hp : pc + 1 = pc') (g : Gf p e below P T m pc' Ls (.int v :: st')) : Gf p e below P T m pc Ls st := by
  subst hp hst
  exact Go.step (fun t k => XS.iushr X.here hx rfl (hb hby hd) rfl (by subst hv; exact k)) g
theorem g_ladd (X : Stand p l e R s m args below meth c T locs cells slots) (hx : p.tables.exec = Jvm.exec) (hby : c.code = code) {x y v : Int64} (hd : decode code pc = .ok (.ladd, 1)) (hst : st = .long y :: .long x :: st') (hv : x + y = v) (hp : pc + 1 = pc') (g : Gf p e below P T m pc' Ls (.long v :: st')) : Gf p e below P T m pc Ls st := by
  subst hp hst
  exact Go.step (fun t k => XS.ladd X.here hx rfl (hb hby hd) rfl (by subst hv; exact k)) g
theorem g_lsub (X : Stand p l e R s m args below meth c T locs cells slots) (hx : p.tables.exec = Jvm.exec) (hby : c.code = code) {x y v : Int64} (hd : decode code pc = .ok (.lsub, 1)) (hst : st = .long y :: .long x :: st') (hv : x - y = v) (hp : pc + 1 = pc') (g : Gf p e below P T m pc' Ls (.long v :: st')) : Gf p e below P T m pc Ls st := by
  subst hp hst
  exact Go.step (fun t k => XS.lsub X.here hx rfl (hb hby hd) rfl (by subst hv; exact k)) g
theorem g_lmul (X : Stand p l e R s m args below meth c T locs cells slots) (hx : p.tables.exec = Jvm.exec) (hby : c.code = code) {x y v : Int64} (hd : decode code pc = .ok (.lmul, 1)) (hst : st = .long y :: .long x :: st') (hv : x * y = v) (hp : pc + 1 = pc') (g : Gf p e below P T m pc' Ls (.long v :: st')) : Gf p e below P T m pc Ls st := by
  subst hp hst
  exact Go.step (fun t k => XS.lmul X.here hx rfl (hb hby hd) rfl (by subst hv; exact k)) g
theorem g_land (X : Stand p l e R s m args below meth c T locs cells slots) (hx : p.tables.exec = Jvm.exec) (hby : c.code = code) {x y v : Int64} (hd : decode code pc = .ok (.land, 1)) (hst : st = .long y :: .long x :: st') (hv : x &&& y = v) (hp : pc + 1 = pc') (g : Gf p e below P T m pc' Ls (.long v :: st')) : Gf p e below P T m pc Ls st := by
  subst hp hst
  exact Go.step (fun t k => XS.land X.here hx rfl (hb hby hd) rfl (by subst hv; exact k)) g
theorem g_lor (X : Stand p l e R s m args below meth c T locs cells slots) (hx : p.tables.exec = Jvm.exec) (hby : c.code = code) {x y v : Int64} (hd : decode code pc = .ok (.lor, 1)) (hst : st = .long y :: .long x :: st') (hv : x ||| y = v) (hp : pc + 1 = pc') (g : Gf p e below P T m pc' Ls (.long v :: st')) : Gf p e below P T m pc Ls st := by
  subst hp hst
  exact Go.step (fun t k => XS.lor X.here hx rfl (hb hby hd) rfl (by subst hv; exact k)) g
theorem g_lxor (X : Stand p l e R s m args below meth c T locs cells slots) (hx : p.tables.exec = Jvm.exec) (hby : c.code = code) {x y v : Int64} (hd : decode code pc = .ok (.lxor, 1)) (hst : st = .long y :: .long x :: st') (hv : x ^^^ y = v) (hp : pc + 1 = pc') (g : Gf p e below P T m pc' Ls (.long v :: st')) : Gf p e below P T m pc Ls st := by
  subst hp hst
  exact Go.step (fun t k => XS.lxor X.here hx rfl (hb hby hd) rfl (by subst hv; exact k)) g
theorem g_lshl (X : Stand p l e R s m args below meth c T locs cells slots) (hx : p.tables.exec = Jvm.exec) (hby : c.code = code) {x v : Int64} {y : Int32} (hd : decode code pc = .ok (.lshl, 1)) (hst : st = .int y :: .long x :: st') (hv : x <<< (y &&& 0x3f).toInt64 = v) (hp : pc + 1 = pc') (g : Gf p e below P T m pc' Ls (.long v :: st')) : Gf p e below P T m pc Ls st := by
  subst hp hst
  exact Go.step (fun t k => XS.lshl X.here hx rfl (hb hby hd) rfl (by subst hv; exact k)) g
theorem g_lshr (X : Stand p l e R s m args below meth c T locs cells slots) (hx : p.tables.exec = Jvm.exec) (hby : c.code = code) {x v : Int64} {y : Int32} (hd : decode code pc = .ok (.lshr, 1)) (hst : st = .int y :: .long x :: st') (hv : x >>> (y &&& 0x3f).toInt64 = v) (hp : pc + 1 = pc') (g : Gf p e below P T m pc' Ls (.long v :: st')) : Gf p e below P T m pc Ls st := by
  subst hp hst
  exact Go.step (fun t k => XS.lshr X.here hx rfl (hb hby hd) rfl (by subst hv; exact k)) g
theorem g_lushr (X : Stand p l e R s m args below meth c T locs cells slots) (hx : p.tables.exec = Jvm.exec) (hby : c.code = code) {x v : Int64} {y : Int32} (hd : decode code pc = .ok (.lushr, 1)) (hst : st = .int y :: .long x :: st') (hv : (x.toUInt64 >>> (y &&& 0x3f).toInt64.toUInt64).toInt64 = v) (hp : pc + 1 = pc') (g : Gf p e below P T m pc' Ls (.long v :: st')) : Gf p e below P T m pc Ls st := by
  subst hp hst
  exact Go.step (fun t k => XS.lushr X.here hx rfl (hb hby hd) rfl (by subst hv; exact k)) g
theorem g_irem (X : Stand p l e R s m args below meth c T locs cells slots) (hx : p.tables.exec = Jvm.exec) (hby : c.code = code) {x y v : Int32} (hd : decode code pc = .ok (.irem, 1)) (hst : st = .int y :: .int x :: st') (hy : y ≠ 0) (hv : x % y = v) (hp : pc + 1 = pc') (g : Gf p e below P T m pc' Ls (.int v :: st')) : Gf p e below P T m pc Ls st := by
  subst hp hst
  exact Go.step (fun t k => iremM X hx (g := mkF m pc Ls _) rfl (hb hby hd) rfl hy (by subst hv; exact k)) g
theorem g_idiv (X : Stand p l e R s m args below meth c T locs cells slots) (hx : p.tables.exec = Jvm.exec) (hby : c.code = code) {x y v : Int32} (hd : decode code pc = .ok (.idiv, 1)) (hst : st = .int y :: .int x :: st') (hy : y ≠ 0) (hv : x / y = v) (hp : pc + 1 = pc') (g : Gf p e below P T m pc' Ls (.int v :: st')) : Gf p e below P T m pc Ls st := by
  subst hp hst
  exact Go.step (fun t k => XS.idiv X.here hx rfl (hb hby hd) rfl hy (by subst hv; exact k)) g
theorem g_ineg (X : Stand p l e R s m args below meth c T locs cells slots) (hx : p.tables.exec = Jvm.exec) (hby : c.code = code) {x : Int32} {v : Int32} (hd : decode code pc = .ok (.ineg, 1)) (hst : st = .int x :: st') (hv : -x = v) (hp : pc + 1 = pc') (g : Gf p e below P T m pc' Ls (.int v :: st')) : Gf p e below P T m pc Ls st := by
  subst hp hst
  exact Go.step (fun t k => XS.ineg X.here hx rfl (hb hby hd) rfl (by subst hv; exact k)) g
theorem g_lneg (X : Stand p l e R s m args below meth c T locs cells slots) (hx : p.tables.exec = Jvm.exec) (hby : c.code = code) {x : Int64} {v : Int64} (hd : decode code pc = .ok (.lneg, 1)) (hst : st = .long x :: st') (hv : -x = v) (hp : pc + 1 = pc') (g : Gf p e below P T m pc' Ls (.long v :: st')) : Gf p e below P T m pc Ls st := by
  subst hp hst
  exact Go.step (fun t k => XS.lneg X.here hx rfl (hb hby hd) rfl (by subst hv; exact k)) g
theorem g_i2l (X : Stand p l e R s m args below meth c T locs cells slots) (hx : p.tables.exec = Jvm.exec) (hby : c.code = code) {x : Int32} {v : Int64} (hd : decode code pc = .ok (.i2l, 1)) (hst : st = .int x :: st') (hv : x.toInt64 = v) (hp : pc + 1 = pc') (g : Gf p e below P T m pc' Ls (.long v :: st')) : Gf p e below P T m pc Ls st := by
  subst hp hst
  exact Go.step (fun t k => XS.i2l X.here hx rfl (hb hby hd) rfl (by subst hv; exact k)) g
theorem g_l2i (X : Stand p l e R s m args below meth c T locs cells slots) (hx : p.tables.exec = Jvm.exec) (hby : c.code = code) {x : Int64} {v : Int32} (hd : decode code pc = .ok (.l2i, 1)) (hst : st = .long x :: st') (hv : x.toInt32 = v) (hp : pc + 1 = pc') (g : Gf p e below P T m pc' Ls (.int v :: st')) : Gf p e below P T m pc Ls st := by
  subst hp hst
  exact Go.step (fun t k => XS.l2i X.here hx rfl (hb hby hd) rfl (by subst hv; exact k)) g
theorem g_i2b (X : Stand p l e R s m args below meth c T locs cells slots) (hx : p.tables.exec = Jvm.exec) (hby : c.code = code) {x : Int32} {v : Int32} (hd : decode code pc = .ok (.i2b, 1)) (hst : st = .int x :: st') (hv : x.toInt8.toInt32 = v) (hp : pc + 1 = pc') (g : Gf p e below P T m pc' Ls (.int v :: st')) : Gf p e below P T m pc Ls st := by
  subst hp hst
  exact Go.step (fun t k => XS.i2b X.here hx rfl (hb hby hd) rfl (by subst hv; exact k)) g
theorem g_i2s (X : Stand p l e R s m args below meth c T locs cells slots) (hx : p.tables.exec = Jvm.exec) (hby : c.code = code) {x : Int32} {v : Int32} (hd : decode code pc = .ok (.i2s, 1)) (hst : st = .int x :: st') (hv : x.toInt16.toInt32 = v) (hp : pc + 1 = pc') (g : Gf p e below P T m pc' Ls (.int v :: st')) : Gf p e below P T m pc Ls st := by
  subst hp hst
  exact Go.step (fun t k => XS.i2s X.here hx rfl (hb hby hd) rfl (by subst hv; exact k)) g
theorem g_i2c (X : Stand p l e R s m args below meth c T locs cells slots) (hx : p.tables.exec = Jvm.exec) (hby : c.code = code) {x : Int32} {v : Int32} (hd : decode code pc = .ok (.i2c, 1)) (hst : st = .int x :: st') (hv : x.toUInt32.toUInt16.toUInt32.toInt32 = v) (hp : pc + 1 = pc') (g : Gf p e below P T m pc' Ls (.int v :: st')) : Gf p e below P T m pc Ls st := by
  subst hp hst
  exact Go.step (fun t k => XS.i2c X.here hx rfl (hb hby hd) rfl (by subst hv; exact k)) g
theorem g_lcmp (X : Stand p l e R s m args below meth c T locs cells slots) (hx : p.tables.exec = Jvm.exec) (hby : c.code = code) {x y : Int64} {v : Int32} (hd : decode code pc = .ok (.lcmp, 1)) (hst : st = .long y :: .long x :: st') (hv : lcmpW x y = v) (hp : pc + 1 = pc') (g : Gf p e below P T m pc' Ls (.int v :: st')) : Gf p e below P T m pc Ls st := by
  subst hp hst
  exact Go.step (fun t k => XS.lcmp X.here hx rfl (hb hby hd) rfl (by subst hv; exact k)) g
theorem g_i2d (X : Stand p l e R s m args below meth c T locs cells slots) (hx : p.tables.exec = Jvm.exec) (hby : c.code = code) {x : Int32} {v : UInt64} (hd : decode code pc = .ok (.i2d, 1)) (hst : st = .int x :: st') (hv : FP.i2d x = v) (hp : pc + 1 = pc') (g : Gf p e below P T m pc' Ls (.double v :: st')) : Gf p e below P T m pc Ls st := by
  subst hp hst
  exact Go.step (fun t k => XS.i2dS X.here hx rfl (hb hby hd) rfl hv k) g
theorem g_l2d (X : Stand p l e R s m args below meth c T locs cells slots) (hx : p.tables.exec = Jvm.exec) (hby : c.code = code) {x : Int64} {v : UInt64} (hd : decode code pc = .ok (.l2d, 1)) (hst : st = .long x :: st') (hv : FP.l2d x = v) (hp : pc + 1 = pc') (g : Gf p e below P T m pc' Ls (.double v :: st')) : Gf p e below P T m pc Ls st := by
  subst hp hst
  exact Go.step (fun t k => XS.l2dS X.here hx rfl (hb hby hd) rfl hv k) g
theorem g_d2i (X : Stand p l e R s m args below meth c T locs cells slots) (hx : p.tables.exec = Jvm.exec) (hby : c.code = code) {x : UInt64} {v : Int32} (hd : decode code pc = .ok (.d2i, 1)) (hst : st = .double x :: st') (hv : FP.d2i x = v) (hp : pc + 1 = pc') (g : Gf p e below P T m pc' Ls (.int v :: st')) : Gf p e below P T m pc Ls st := by
  subst hp hst
  exact Go.step (fun t k => XS.d2iS X.here hx rfl (hb hby hd) rfl hv k) g
theorem g_d2l (X : Stand p l e R s m args below meth c T locs cells slots) (hx : p.tables.exec = Jvm.exec) (hby : c.code = code) {x : UInt64} {v : Int64} (hd : decode code pc = .ok (.d2l, 1)) (hst : st = .double x :: st') (hv : FP.d2l x = v) (hp : pc + 1 = pc') (g : Gf p e below P T m pc' Ls (.long v :: st')) : Gf p e below P T m pc Ls st := by
  subst hp hst
  exact Go.step (fun t k => XS.d2lS X.here hx rfl (hb hby hd) rfl hv k) g
theorem g_dneg (X : Stand p l e R s m args below meth c T locs cells slots) (hx : p.tables.exec = Jvm.exec) (hby : c.code = code) {x : UInt64} {v : UInt64} (hd : decode code pc = .ok (.dneg, 1)) (hst : st = .double x :: st') (hv : FP.dneg x = v) (hp : pc + 1 = pc') (g : Gf p e below P T m pc' Ls (.double v :: st')) : Gf p e below P T m pc Ls st := by
  subst hp hst
  exact Go.step (fun t k => XS.dnegS X.here hx rfl (hb hby hd) rfl hv k) g
theorem g_dadd (X : Stand p l e R s m args below meth c T locs cells slots) (hx : p.tables.exec = Jvm.exec) (hby : c.code = code) {x y v : UInt64} (hd : decode code pc = .ok (.dadd, 1)) (hst : st = .double y :: .double x :: st') (hn : Jvm.Free.Fl.NoNaN64 (FP.dadd x y)) (hv : FP.dadd x y = v) (hp : pc + 1 = pc') (g : Gf p e below P T m pc' Ls (.double v :: st')) : Gf p e below P T m pc Ls st := by
  subst hp hst
  exact Go.step (fun t k => XS.daddS X.here hx rfl (hb hby hd) rfl hn hv k) g
theorem g_dsub (X : Stand p l e R s m args below meth c T locs cells slots) (hx : p.tables.exec = Jvm.exec) (hby : c.code = code) {x y v : UInt64} (hd : decode code pc = .ok (.dsub, 1)) (hst : st = .double y :: .double x :: st') (hn : Jvm.Free.Fl.NoNaN64 (FP.dsub x y)) (hv : FP.dsub x y = v) (hp : pc + 1 = pc') (g : Gf p e below P T m pc' Ls (.double v :: st')) : Gf p e below P T m pc Ls st := by
  subst hp hst
  exact Go.step (fun t k => XS.dsubS X.here hx rfl (hb hby hd) rfl hn hv k) g
theorem g_dmul (X : Stand p l e R s m args below meth c T locs cells slots) (hx : p.tables.exec = Jvm.exec) (hby : c.code = code) {x y v : UInt64} (hd : decode code pc = .ok (.dmul, 1)) (hst : st = .double y :: .double x :: st') (hn : Jvm.Free.Fl.NoNaN64 (FP.dmul x y)) (hv : FP.dmul x y = v) (hp : pc + 1 = pc') (g : Gf p e below P T m pc' Ls (.double v :: st')) : Gf p e below P T m pc Ls st := by
  subst hp hst
  exact Go.step (fun t k => XS.dmulS X.here hx rfl (hb hby hd) rfl hn hv k) g
theorem g_ddiv (X : Stand p l e R s m args below meth c T locs cells slots) (hx : p.tables.exec = Jvm.exec) (hby : c.code = code) {x y v : UInt64} (hd : decode code pc = .ok (.ddiv, 1)) (hst : st = .double y :: .double x :: st') (hn : Jvm.Free.Fl.NoNaN64 (FP.ddiv x y)) (hv : FP.ddiv x y = v) (hp : pc + 1 = pc') (g : Gf p e below P T m pc' Ls (.double v :: st')) : Gf p e below P T m pc Ls st := by
  subst hp hst
  exact Go.step (fun t k => XS.ddivS X.here hx rfl (hb hby hd) rfl hn hv k) g
theorem g_dcmp (X : Stand p l e R s m args below meth c T locs cells slots) (hx : p.tables.exec = Jvm.exec) (hby : c.code = code) {o : CmpOp} {x y : UInt64} {v : Int32} (hd : decode code pc = .ok (.dcmp o, 1)) (hst : st = .double y :: .double x :: st') (hv : cmpValue (FP.dcmp x y) o = v) (hp : pc + 1 = pc') (g : Gf p e below P T m pc' Ls (.int v :: st')) : Gf p e below P T m pc Ls st := by
  subst hp hst
  exact Go.step (fun t k => XS.dcmpS X.here hx rfl (hb hby hd) rfl hv k) g
theorem g_dup (X : Stand p l e R s m args below meth c T locs cells slots) (hx : p.tables.exec = Jvm.exec) (hby : c.code = code) {x : Value} (hd : decode code pc = .ok (.dup, 1)) (hst : st = x :: st') (hc : x.category = 1) (hp : pc + 1 = pc') (g : Gf p e below P T m pc' Ls (x :: x :: st')) : Gf p e below P T m pc Ls st := by
  subst hp hst
  exact Go.step (fun t k => XS.dup X.here hx rfl (hb hby hd) rfl hc k) g
theorem g_pop (X : Stand p l e R s m args below meth c T locs cells slots) (hx : p.tables.exec = Jvm.exec) (hby : c.code = code) {x : Value} (hd : decode code pc = .ok (.pop, 1)) (hst : st = x :: st') (hc : x.category = 1) (hp : pc + 1 = pc') (g : Gf p e below P T m pc' Ls st') : Gf p e below P T m pc Ls st := by
  subst hp hst
  exact Go.step (fun t k => XS.pop X.here hx rfl (hb hby hd) rfl hc k) g
theorem g_iinc (X : Stand p l e R s m args below meth c T locs cells slots) (hx : p.tables.exec = Jvm.exec) (hby : c.code = code) {n : Nat} {i : Int} {x : Int32} (hd : decode code pc = .ok (.iinc n i, 3)) (hl : Ls[n]? = some (.val (.int x))) (hl' : storeLocals Ls n (.int (x + Int32.ofInt i)) = some Ls') (hp : pc + 3 = pc') (g : Gf p e below P T m pc' Ls' st) : Gf p e below P T m pc Ls st := by
  subst hp
  exact Go.step (fun t k => XS.iinc X.here hx rfl (hb hby hd) hl hl' k) g
theorem g_goto (X : Stand p l e R s m args below meth c T locs cells slots) (hx : p.tables.exec = Jvm.exec) (hby : c.code = code) {o : Int} (hd : decode code pc = .ok (.goto o, 3)) (ho : 0 ≤ (pc : Int) + o) (hp : ((pc : Int) + o).toNat = pc') (g : Gf p e below P T m pc' Ls st) : Gf p e below P T m pc Ls st := Go.step (fun t k => XS.goto X.here hx rfl (pc0 := pc) (pc' := pc') rfl (hb hby hd) ho hp k) g
theorem g_ifY (X : Stand p l e R s m args below meth c T locs cells slots) (hx : p.tables.exec = Jvm.exec) (hby : c.code = code) {cd : ClassFile.Cond} {o : Int} {x : Int32} (hd : decode code pc = .ok (.ifCond cd o, 3)) (hst : st = .int x :: st') (hc : if_icmp.holds cd x 0 = true) (ho : 0 ≤ (pc : Int) + o) (hp : ((pc : Int) + o).toNat = pc') (g : Gf p e below P T m pc' Ls st') : Gf p e below P T m pc Ls st := by
  subst hst
  exact Go.step (fun t k => XS.ifYes X.here hx rfl (pc0 := pc) (pc' := pc') rfl (hb hby hd) rfl ((if0 _ _).trans hc) ho hp k) g
theorem g_ifN (X : Stand p l e R s m args below meth c T locs cells slots) (hx : p.tables.exec = Jvm.exec) (hby : c.code = code) {cd : ClassFile.Cond} {o : Int} {x : Int32} (hd : decode code pc = .ok (.ifCond cd o, 3)) (hst : st = .int x :: st') (hc : if_icmp.holds cd x 0 = false) (hp : pc + 3 = pc') (g : Gf p e below P T m pc' Ls st') : Gf p e below P T m pc Ls st := by
  subst hst hp
  exact Go.step (fun t k => XS.ifNo X.here hx rfl (hb hby hd) rfl ((if0 _ _).trans hc) k) g
theorem g_icY (X : Stand p l e R s m args below meth c T locs cells slots) (hx : p.tables.exec = Jvm.exec) (hby : c.code = code) {cd : ClassFile.Cond} {o : Int} {x y : Int32} (hd : decode code pc = .ok (.if_icmp cd o, 3)) (hst : st = .int y :: .int x :: st') (hc : if_icmp.holds cd x y = true) (ho : 0 ≤ (pc : Int) + o) (hp : ((pc : Int) + o).toNat = pc') (g : Gf p e below P T m pc' Ls st') : Gf p e below P T m pc Ls st := by
  subst hst
  exact Go.step (fun t k => XS.icmpYes X.here hx rfl (pc0 := pc) (pc' := pc') rfl (hb hby hd) rfl hc ho hp k) g
theorem g_icN (X : Stand p l e R s m args below meth c T locs cells slots) (hx : p.tables.exec = Jvm.exec) (hby : c.code = code) {cd : ClassFile.Cond} {o : Int} {x y : Int32} (hd : decode code pc = .ok (.if_icmp cd o, 3)) (hst : st = .int y :: .int x :: st') (hc : if_icmp.holds cd x y = false) (hp : pc + 3 = pc') (g : Gf p e below P T m pc' Ls st') : Gf p e below P T m pc Ls st := by
  subst hst hp
  exact Go.step (fun t k => XS.icmpNo X.here hx rfl (hb hby hd) rfl hc k) g
theorem g_nullY (X : Stand p l e R s m args below meth c T locs cells slots) (hx : p.tables.exec = Jvm.exec) (hby : c.code = code) {o : Int} (hd : decode code pc = .ok (.ifnull o, 3)) (hst : st = .null :: st') (ho : 0 ≤ (pc : Int) + o) (hp : ((pc : Int) + o).toNat = pc') (g : Gf p e below P T m pc' Ls st') : Gf p e below P T m pc Ls st := by
  subst hst
  exact Go.step (fun t k => XS.ifnullYes X.here hx rfl (pc0 := pc) (pc' := pc') rfl (hb hby hd) rfl ho hp k) g
theorem g_nullN (X : Stand p l e R s m args below meth c T locs cells slots) (hx : p.tables.exec = Jvm.exec) (hby : c.code = code) {o : Int} {b : Addr} (hd : decode code pc = .ok (.ifnull o, 3)) (hst : st = .ref b :: st') (hp : pc + 3 = pc') (g : Gf p e below P T m pc' Ls st') : Gf p e below P T m pc Ls st := by
  subst hst hp
  exact Go.step (fun t k => XS.ifnullNo X.here hx rfl (hb hby hd) rfl k) g
theorem g_nnY (X : Stand p l e R s m args below meth c T locs cells slots) (hx : p.tables.exec = Jvm.exec) (hby : c.code = code) {o : Int} {b : Addr} (hd : decode code pc = .ok (.ifnonnull o, 3)) (hst : st = .ref b :: st') (ho : 0 ≤ (pc : Int) + o) (hp : ((pc : Int) + o).toNat = pc') (g : Gf p e below P T m pc' Ls st') : Gf p e below P T m pc Ls st := by
  subst hst
  exact Go.step (fun t k => XS.ifnonnullYes X.here hx rfl (pc0 := pc) (pc' := pc') rfl (hb hby hd) rfl ho hp k) g
theorem g_nnN (X : Stand p l e R s m args below meth c T locs cells slots) (hx : p.tables.exec = Jvm.exec) (hby : c.code = code) {o : Int} (hd : decode code pc = .ok (.ifnonnull o, 3)) (hst : st = .null :: st') (hp : pc + 3 = pc') (g : Gf p e below P T m pc' Ls st') : Gf p e below P T m pc Ls st := by
  subst hst hp
  exact Go.step (fun t k => XS.ifnonnullNo X.here hx rfl (hb hby hd) rfl k) g
theorem g_acmp (X : Stand p l e R s m args below meth c T locs cells slots) (hx : p.tables.exec = Jvm.exec) (hby : c.code = code) {cd : ACond} {o : Int} {x y : Value} {same : Bool} (hd : decode code pc = .ok (.if_acmp cd o, 3)) (hst : st = y :: x :: st') (h1 : x.isRef = true) (h2 : y.isRef = true) (hq : decide (x = y) = same) (ho : 0 ≤ (pc : Int) + o) (hp : pc' = if acV cd same = true then ((pc : Int) + o).toNat else pc + 3) (g : Gf p e below P T m pc' Ls st') : Gf p e below P T m pc Ls st := by
  subst hst
  exact Go.step (fun t k => Jvm.RoadKit.acmp (g := mkF m pc Ls _) X hx rfl h1 h2 (pc0 := pc) (pc' := pc') rfl (hb hby hd) rfl hq ho hp k) g
/-! the returns -/
variable {Q : Option Value → Heap → List Loc → Prop} {rm : Room} {h : Heap}
def FinR (l : Launch) (s : State) (rm : Room) (Q : Option Value → Heap → List Loc → Prop) (P : Outcome → State → Prop) : Prop := ∀ o U, (∃ v L, o = .returned v ∧ Q v U.heap L ∧ FrameEnd s o U L rm.cells rm.slots) → P o U
theorem g_retV (X : Stand p l e R s m args below meth c T locs cells slots) (hx : p.tables.exec = Jvm.exec) (hby : c.code = code) (hf : FinR l s rm Q P) (hlk : meth.locks = false) {t : FieldType} {i : Instr} {w : Value} (hret : meth.sig.returnType = some t) (hd : decode code pc = .ok (i, 1)) (hst : st = w :: st') (hn : narrow t w = w)
    (hi : (i = .ireturn ∧ (t = .int ∨ t = .boolean ∨ t = .byte ∨ t = .char ∨ t = .short) ∧ ∃ z, w = .int z) ∨ (i = .lreturn ∧ t = .long ∧ ∃ z, w = .long z) ∨ (i = .dreturn ∧ t = .double ∧ ∃ z, w = .double z) ∨ (i = .freturn ∧ t = .float ∧ ∃ z, w = .float z) ∨ (i = .areturn ∧ t.isReference = true ∧ w.isRef = true))
    (hc : cells ≤ rm.cells) (hs : slots ≤ rm.slots) (eT : T.heap = h) (q : Q (some w) h locs) : Gf p e below P T m pc Ls st := by
  subst hst
  obtain ⟨fs, hr, hrun, hended, hW, hsame⟩ := X.leave (v := some w) (fun q => by rw [hret] at q; cases q) hlk
  exact ⟨_, _, retOut X hx hret hn hi (hb hby hd) hr, hrun, hended, hf _ _ ⟨_, _, rfl, by show Q (some w) T.heap locs; rw [eT]; exact q, ⟨_, rfl⟩, hW, hsame.mono hc hs⟩⟩
theorem g_retZ (X : Stand p l e R s m args below meth c T locs cells slots) (hx : p.tables.exec = Jvm.exec) (hby : c.code = code) (hf : FinR l s rm Q P) (hlk : meth.locks = false) {t : FieldType} {z w : Int32} (hret : meth.sig.returnType = some t) (hd : decode code pc = .ok (.ireturn, 1)) (hst : st = .int z :: st') (ht : t = .boolean ∨ t = .byte ∨ t = .char ∨ t = .short)
    (hw : nar t z = w) (hc : cells ≤ rm.cells) (hs : slots ≤ rm.slots) (eT : T.heap = h) (q : Q (some (.int w)) h locs) : Gf p e below P T m pc Ls st := by
  subst hst hw
  obtain ⟨fs, hr, hrun, hended, hW, hsame⟩ := X.leave (v := some (.int (nar t z))) (fun q => by rw [hret] at q; cases q) hlk
  exact ⟨_, _, retN X hx hret ht (hb hby hd) hr, hrun, hended, hf _ _ ⟨_, _, rfl, by show Q (some (.int (nar t z))) T.heap locs; rw [eT]; exact q, ⟨_, rfl⟩, hW, hsame.mono hc hs⟩⟩
theorem g_ret (X : Stand p l e R s m args below meth c T locs cells slots) (hx : p.tables.exec = Jvm.exec) (hby : c.code = code) (hf : FinR l s rm Q P) (hlk : meth.locks = false) (hret : meth.sig.returnType = none) (hd : decode code pc = .ok (.return_, 1)) (hst : st = [])
    (hc : cells ≤ rm.cells) (hs : slots ≤ rm.slots) (eT : T.heap = h) (q : Q none h locs) : Gf p e below P T m pc Ls st := by
  subst hst
  obtain ⟨fs, hr, hrun, hended, hW, hsame⟩ := X.leave (v := none) (fun _ => rfl) hlk
  exact ⟨_, _, X.returnOut hx hret (hb hby hd) hr, hrun, hended, hf _ _ ⟨_, _, rfl, by show Q none T.heap locs; rw [eT]; exact q, ⟨_, rfl⟩, hW, hsame.mono hc hs⟩⟩
/-! the heap -/
variable {Z : State} {a0 : Array Value} {own : String} {a : Addr}
theorem g_new (X : Stand p l e R s m args below meth c T locs cells slots) (hx : p.tables.exec = Jvm.exec) (hby : c.code = code) (hZ : Z.Warmed39 s.vm) (hown : s.vm.findClass own = some m.cls) {C : String} {i n : Nat} (w : (Cond.classLink own i C).before a0 Z = true) (wi : (Cond.instantiable C n).before a0 Z = true) (wz : (Cond.initialized C).before a0 Z = true) (eT : T.heap = h)
    (hd : decode code pc = .ok (.new i, 3)) (hp : pc + 3 = pc') (hc : cells + 1 ≤ R.cells) (hl : slots + n ≤ R.slots)
    (g : ∀ (T' : State) (h' : Heap) (a : Addr), Stand p l e R s m args below meth c T' locs (cells + 1) (slots + n) → T'.heap = h' → Ext h h' → Exa Z h' a C → (∀ {O nm d : String} {ty : FieldType}, Laid Z a0 C O nm d → parseFieldDescriptor d = some ty → Fld Z h' a O nm d (defaultValue ty)) → a = h.size → Gf p e below P T' m pc' Ls (.ref a :: st)) : Gf p e below P T m pc Ls st := by
  subst hp
  obtain ⟨T', h', X', e', E', A', D', -, st'⟩ := newO X hx hZ hown w wi wz eT (g := mkF m pc Ls st) rfl (hb hby hd) hc hl
  exact Go.step st' (g T' h' h.size X' e' E' A' D' rfl)
theorem g_initO (X : Stand p l e R s m args below meth c T locs cells slots) (hx : p.tables.exec = Jvm.exec) (hby : c.code = code) (hZ : Z.Warmed39 s.vm) (hown : s.vm.findClass own = some m.cls) {i : Nat} (w1 : (Cond.methodLink own i Lib.objectInit).before a0 Z = true) (w2 : (Cond.instanceMethod Lib.objectInit).before a0 Z = true) (w3 : (Cond.code Lib.objectInit ⟨#[0xb1]⟩ 1 none).before a0 Z = true) (eT : T.heap = h)
    (hsize : Ls.size = c.maxLocals) (hst : st = .ref a :: st') (hd : decode code pc = .ok (.invokespecial i, 3)) (hp : pc + 3 = pc') (hf : 1 ≤ R.frames) {W : Nat} (hW : 2 * 0 + (st'.map fun v => v.category).sum = W) (hl : W + 12 ≤ R.locals)
    (g : ∀ (T' : State), Stand p l e R s m args below meth c T' locs cells slots → T'.heap = h → Gf p e below P T' m pc' Ls st') : Gf p e below P T m pc Ls st := by
  subst hp hst
  obtain ⟨T', X', e', k⟩ := initO X hx hZ hown w1 w2 w3 eT (g := mkF m pc Ls _) rfl hsize rfl (hb hby hd) hf (W := W) (Nat.le_of_eq hW) hl
  exact Go.step k (g T' X' e')
theorem g_getF (X : Stand p l e R s m args below meth c T locs cells slots) (hx : p.tables.exec = Jvm.exec) (hby : c.code = code) (hZ : Z.Warmed39 s.vm) (hown : s.vm.findClass own = some m.cls) {R0 O n d host : String} {i : Nat} {v : Value} (w : (Cond.fieldLink own i R0 n d).before a0 Z = true ∨ (Cond.fieldLinkNest own i R0 n d host).before a0 Z = true) (via : Via Z R0 O n d) (eT : T.heap = h) (F : Fld Z h a O n d v)
    (hst : st = .ref a :: st') (hd : decode code pc = .ok (.getfield i, 3)) (hp : pc + 3 = pc') (g : ∀ (T' : State), Stand p l e R s m args below meth c T' locs cells slots → T'.heap = h → Gf p e below P T' m pc' Ls (v :: st')) : Gf p e below P T m pc Ls st := by
  subst hp hst
  obtain ⟨T', X', e', k⟩ := getF X hx hZ hown w via eT F (g := mkF m pc Ls _) rfl rfl (hb hby hd)
  exact Go.step k (g T' X' e')
theorem g_getS (X : Stand p l e R s m args below meth c T locs cells slots) (hx : p.tables.exec = Jvm.exec) (hby : c.code = code) (hZ : Z.Warmed39 s.vm) (hown : s.vm.findClass own = some m.cls) {R0 O n d host : String} {i : Nat} {v : Value} (w : (Cond.fieldLink own i R0 n d).before a0 Z = true ∨ (Cond.fieldLinkNest own i R0 n d host).before a0 Z = true) (via : Via Z R0 O n d) (eT : T.heap = h) (F : Sta Z h O n d v)
    (hd : decode code pc = .ok (.getstatic i, 3)) (hp : pc + 3 = pc') (g : ∀ (T' : State), Stand p l e R s m args below meth c T' locs cells slots → T'.heap = h → Gf p e below P T' m pc' Ls (v :: st)) : Gf p e below P T m pc Ls st := by
  subst hp
  obtain ⟨T', X', e', k⟩ := getS2 X hx hZ hown w via eT F (g := mkF m pc Ls st) rfl (hb hby hd)
  exact Go.step k (g T' X' e')
theorem g_putF (X : Stand p l e R s m args below meth c T locs cells slots) (hx : p.tables.exec = Jvm.exec) (hby : c.code = code) (hZ : Z.Warmed39 s.vm) (hown : s.vm.findClass own = some m.cls) {R0 O n d host C : String} {i kk : Nat} {ty : FieldType} {v old : Value} (w : (Cond.fieldLink own i R0 n d).before a0 Z = true ∨ (Cond.fieldLinkNest own i R0 n d host).before a0 Z = true) (via : Via Z R0 O n d) (eT : T.heap = h) (F : Fld Z h a O n d old) (E : Exa Z h a C)
    (L : (Cond.lays C O n d).before a0 Z = true ∨ ((Cond.laysFinal C O n d).before a0 Z = true ∧ own = O ∧ meth.name = "<init>")) (wi : (Cond.instantiable C kk).before a0 Z = true) (hty : parseFieldDescriptor d = some ty) (hn : narrow ty v = v) (hf : fits ty v = true)
    (hst : st = v :: .ref a :: st') (hd : decode code pc = .ok (.putfield i, 3)) (hp : pc + 3 = pc') {k0 : Nat} (N : Fr k0 locs) (q : k0 ≤ a)
    (g : ∀ (T' : State) (h' : Heap), Stand p l e R s m args below meth c T' (locs ++ [⟨a, Jvm.RoadKit.slotOf Z O n d⟩]) cells slots → T'.heap = h' → Wr h h' a (Jvm.RoadKit.slotOf Z O n d) v → Fr k0 (locs ++ [⟨a, Jvm.RoadKit.slotOf Z O n d⟩]) → Gf p e below P T' m pc' Ls st') : Gf p e below P T m pc Ls st := by
  subst hp hst
  obtain ⟨T', h', X', e', W', k⟩ := putF X hx hZ hown w via eT F E L wi hty hn hf (g := mkF m pc Ls _) rfl rfl (hb hby hd)
  exact Go.step k (g T' h' X' e' W' (Fr.snoc X' N q))
/-! the calls, by a callee's contract -/
def Con (l : Launch) (Z : State) (y : MethodName) (bytes : ByteArray) (maxL : Nat) (ret : Option FieldType) (ws : List Cond) (rm : Room) (as : Array Value) (h : Heap) (Q : Option Value → Heap → List Loc → Prop) : Prop :=
  MetFree l y (head1 (Cond.code y bytes maxL ret :: ws) rm) (fun a U => a = as ∧ Z.Warmed39 U.vm ∧ U.heap = h) (fun _ _ _ _ _ => True) (fun _ U o U' => ∃ v L, o = .returned v ∧ Q v U'.heap L ∧ FrameEnd U o U' L rm.cells rm.slots)
theorem Con.start {y : MethodName} {bytes : ByteArray} {maxL : Nat} {ret : Option FieldType} {ws : List Cond} {as : Array Value} (Ls : Array Slot) (hn : plainFor y = true) (hef : ∀ m, entryFrame m as maxL = mkF m 0 Ls [])
    (k : ∀ (p : Program) (e : Env) (s : State) (m : MethodId) (below : List Frame) (meth : Method) (c : Code) (s₁ : State) (P : Outcome → State → Prop), Stand p l e rm s m as below meth c s₁ [] 0 0 → p.tables.exec = Jvm.exec → c.code = bytes → c.maxLocals = maxL → meth.sig.returnType = ret → meth.locks = false → s.vm.findClass y.cls = some m.cls → meth.name = y.name → Z.Warmed39 s.vm → s₁.heap = h → FinR l s rm Q P → Gf p e below P s₁ m 0 Ls []) :
    Con l Z y bytes maxL ret ws rm as h Q := by
  refine MetFree.of_bodySF hn hisR ?_
  intro p e s m args below meth c s₁ Bd hml0 hP hK
  obtain ⟨rfl, hZ, hh⟩ := hP
  have e0 : s₁.heap = h := by rw [← hh, Bd.state]; rfl
  obtain ⟨s2, o, h1, h2⟩ := k p e s m below meth c s₁ _ (Stand.of_body Bd) Bd.exec Bd.bytes hml0 Bd.returns (BodyLoose.notSynchronized Bd) (findClass_of_methodNamed Bd.named) (name_of_methodNamed Bd.named Bd.method).1 hZ e0 (fun o U q => q)
  exact ⟨s2, o, castTop (hef m) h1, h2⟩
theorem g_callS (X : Stand p l e R s m args below meth c T locs cells slots) (hx : p.tables.exec = Jvm.exec) (hby : c.code = code) (hml : Ls.size = c.maxLocals) (hZ : Z.Warmed39 s.vm) (hown : s.vm.findClass own = some m.cls) {i : Nat} {y : MethodName} {bytes : ByteArray} {maxL W : Nat} {ret : Option FieldType} {ps : List FieldType} {argsL : List Value} (eT : T.heap = h)
    (hM : Con l Z y bytes maxL ret [] rm argsL.toArray h Q) (w1 : (Cond.methodLink own i y).before a0 Z = true) (w2 : (Cond.static y).before a0 Z = true) (w3 : (Cond.initialized y.cls).before a0 Z = true) (w4 : (Cond.code y bytes maxL ret).before a0 Z = true) (hy : y.cls ≠ "java/lang/invoke/MethodHandle" ∧ y.cls ≠ "java/lang/invoke/VarHandle")
    (hpd : parseMethodDescriptor y.desc = some ⟨ps, ret⟩) (hlen : argsL.length = ps.length) (hst : st = argsL.reverse ++ st') (hW : 2 * 0 + (st'.map fun v => v.category).sum = W) (hf : rm.frames + 1 ≤ R.frames) (hl : W + (maxL + 11) + rm.locals ≤ R.locals) (hc : cells + rm.cells ≤ R.cells) (hs : slots + rm.slots ≤ R.slots)
    (hd : decode code pc = .ok (.invokestatic i, 3)) (hp : pc + 3 = pc')
    (g : ∀ (T' : State) (v : Option Value) (L : List Loc), Stand p l e R s m args below meth c T' (locs ++ L) (cells + rm.cells) (slots + rm.slots) → Q v T'.heap L → Gf p e below P T' m pc' Ls (v.toList ++ st')) : Gf p e below P T m pc Ls st := by
  subst hp hst
  obtain ⟨v, _, ⟨T', L', k', n'⟩, -, X', ⟨Lc, hQ, hl', hy', hz'⟩, k⟩ := Jvm.LawKit.callS X hx (y := y) hown (mvT hZ w1) (mvT hZ w2) (mvT hZ w3) (mvT hZ w4) hy (backOf (W := W) hM hZ w4 w3 hf hl) (g := mkF m pc Ls _) rfl hml (argsL := argsL) (rest := st') (lenOf hpd hlen) rfl (Nat.le_of_eq hW) (hb hby hd) (fun _ _ => ⟨rfl, eT, hc, hs⟩)
  dsimp only [Pt.U, Pt.locs, Pt.cells, Pt.slots] at X' hl' hy' hz' k hQ
  subst hl' hy' hz'
  exact Go.step k (g T' v Lc X' hQ)
theorem g_init (X : Stand p l e R s m args below meth c T locs cells slots) (hx : p.tables.exec = Jvm.exec) (hby : c.code = code) (hml : Ls.size = c.maxLocals) (hZ : Z.Warmed39 s.vm) (hown : s.vm.findClass own = some m.cls) {i : Nat} {y : MethodName} {bytes : ByteArray} {maxL W : Nat} {ps : List FieldType} {argsL : List Value} (hy1 : y.name = "<init>") (eT : T.heap = h)
    (hM : Con l Z y bytes maxL none [] rm (.ref a :: argsL).toArray h Q) (w1 : (Cond.methodLink own i y).before a0 Z = true) (w2 : (Cond.instanceMethod y).before a0 Z = true) (w3 : (Cond.initialized y.cls).before a0 Z = true) (w4 : (Cond.code y bytes maxL none).before a0 Z = true) (hy : y.cls ≠ "java/lang/invoke/MethodHandle" ∧ y.cls ≠ "java/lang/invoke/VarHandle")
    (hpd : parseMethodDescriptor y.desc = some ⟨ps, none⟩) (hlen : argsL.length = ps.length) (hst : st = argsL.reverse ++ .ref a :: st') (hW : 2 * 0 + (st'.map fun v => v.category).sum = W) (hf : rm.frames + 1 ≤ R.frames) (hl : W + (maxL + 11) + rm.locals ≤ R.locals) (hc : cells + rm.cells ≤ R.cells) (hs : slots + rm.slots ≤ R.slots)
    (hd : decode code pc = .ok (.invokespecial i, 3)) (hp : pc + 3 = pc')
    (g : ∀ (T' : State) (v : Option Value) (L : List Loc), Stand p l e R s m args below meth c T' (locs ++ L) (cells + rm.cells) (slots + rm.slots) → Q v T'.heap L → Gf p e below P T' m pc' Ls (v.toList ++ st')) : Gf p e below P T m pc Ls st := by
  subst hp hst
  obtain ⟨v, _, ⟨T', L', k', n'⟩, -, X', ⟨Lc, hQ, hl', hy', hz'⟩, k⟩ := X.specialBack hx (y := y) hy1 hown (mvT hZ w1) (mvT hZ w2) (mvT hZ w4) hy (backOf (W := W) hM hZ w4 w3 hf hl) (g := mkF m pc Ls _) rfl hml (Steps.refl _) (a := a) (argsL := argsL) (rest := st') (lenOf hpd hlen) rfl (Nat.le_of_eq hW) (hb hby hd) (fun _ _ => ⟨rfl, eT, hc, hs⟩)
  dsimp only [Pt.U, Pt.locs, Pt.cells, Pt.slots] at X' hl' hy' hz' k hQ
  subst hl' hy' hz'
  exact Go.step (fun t k2 => k.trans k2) (g T' v Lc X' hQ)
theorem g_virt (X : Stand p l e R s m args below meth c T locs cells slots) (hx : p.tables.exec = Jvm.exec) (hby : c.code = code) (hml : Ls.size = c.maxLocals) (hZ : Z.Warmed39 s.vm) (hown : s.vm.findClass own = some m.cls) {i : Nat} {y : MethodName} {bytes : ByteArray} {maxL W : Nat} {ret : Option FieldType} {ps : List FieldType} {argsL : List Value} {C : String} (eT : T.heap = h)
    (hM : Con l Z y bytes maxL ret [] rm (.ref a :: argsL).toArray h Q) (w1 : (Cond.methodLink own i y).before a0 Z = true) (wd : (Cond.declares y).before a0 Z = true) (ws : (Cond.selects C y y).before a0 Z = true) (w2 : (Cond.instanceMethod y).before a0 Z = true) (w3 : (Cond.initialized y.cls).before a0 Z = true) (w4 : (Cond.code y bytes maxL ret).before a0 Z = true) (hy : y.cls ≠ "java/lang/invoke/MethodHandle" ∧ y.cls ≠ "java/lang/invoke/VarHandle") (E : Exa Z h a C)
    (hpd : parseMethodDescriptor y.desc = some ⟨ps, ret⟩) (hlen : argsL.length = ps.length) (hst : st = argsL.reverse ++ .ref a :: st') (hW : 2 * 0 + (st'.map fun v => v.category).sum = W) (hf : rm.frames + 1 ≤ R.frames) (hl : W + (maxL + 11) + rm.locals ≤ R.locals) (hc : cells + rm.cells ≤ R.cells) (hs : slots + rm.slots ≤ R.slots)
    (hd : decode code pc = .ok (.invokevirtual i, 3)) (hp : pc + 3 = pc')
    (g : ∀ (T' : State) (v : Option Value) (L : List Loc), Stand p l e R s m args below meth c T' (locs ++ L) (cells + rm.cells) (slots + rm.slots) → Q v T'.heap L → Gf p e below P T' m pc' Ls (v.toList ++ st')) : Gf p e below P T m pc Ls st := by
  subst hp hst
  obtain ⟨cq, kq, qa, qb, qc⟩ := isOf hZ eT E
  obtain ⟨v, _, ⟨T', L', k', n'⟩, -, X', ⟨Lc, hQ, hl', hy', hz'⟩, k⟩ := X.virtualBack hx (y := y) (z := y) hown (mvT hZ w1) (mvT hZ wd) (notFace_of_selects (args := #[]) (mvT hZ ws)) (mvT hZ ws) (mvT hZ w2) hy (backOf (W := W) hM hZ w4 w3 hf hl) qa qc (g := mkF m pc Ls _) rfl hml (Steps.refl _) (argsL := argsL) (rest := st') (lenOf hpd hlen) rfl (Nat.le_of_eq hW) (hb hby hd) (fun _ _ => ⟨rfl, eT, hc, hs⟩)
  dsimp only [Pt.U, Pt.locs, Pt.cells, Pt.slots] at X' hl' hy' hz' k hQ
  subst hl' hy' hz'
  exact Go.step (fun t k2 => k.trans k2) (g T' v Lc X' hQ)
theorem g_newA (X : Stand p l e R s m args below meth c T locs cells slots) (hx : p.tables.exec = Jvm.exec) (hby : c.code = code) (hZ : Z.Warmed39 s.vm) {aty : ArrayType} {n : Int32} {cap : Nat} (w : (Cond.arrayClass (newarray.typeOf aty)).before a0 Z = true) (eT : T.heap = h) (hst : st = .int n :: st') (hn : ¬ n < 0) (hcap : n.toNatClampNeg ≤ cap) (hb8 : cap * 8 ≤ 536870912)
    (hc : cells + 1 ≤ R.cells) (hl : slots + cap ≤ R.slots) (hd : decode code pc = .ok (.newarray aty, 2)) (hp : pc + 2 = pc') (k : Nat)
    (g : ∀ (T' : State) (h' : Heap) (cA : ClassId) (a : Addr), Stand p l e R s m args below meth c T' locs (cells + 1) (slots + cap) → T'.heap = h' → Ext h h' → Arv Z h' a cA (newarray.typeOf aty) n ([] ++ List.replicate k (defaultValue (newarray.typeOf aty))) (defaultValue (newarray.typeOf aty)) → a = h.size → Gf p e below P T' m pc' Ls (.ref a :: st')) : Gf p e below P T m pc Ls st := by
  subst hp hst
  obtain ⟨T', h', cA, X', e', E', A', k'⟩ := newP X hx hZ w eT (g := mkF m pc Ls _) rfl (hb hby hd) rfl hn hcap hb8 hc hl
  exact Go.step k' (g T' h' cA h.size X' e' E' ((Arv.new A' hn).pad (pad_rep [] _ k)) rfl)
theorem g_stC (X : Stand p l e R s m args below meth c T locs cells slots) (hx : p.tables.exec = Jvm.exec) (hby : c.code = code) (hZ : Z.Warmed39 s.vm) {cA : ClassId} {n j x : Int32} {vs : List Value} {dv : Value} (eT : T.heap = h) (V : Arv Z h a cA .char n vs dv) (hj : ¬ j < 0 ∧ j < n) (i : Nat) (hi : j.toNatClampNeg = i) (hl : i < vs.length) (hst : st = .int x :: .int j :: .ref a :: st') (hd : decode code pc = .ok (.castore, 1)) (hp : pc + 1 = pc') {k0 : Nat} (N : Fr k0 locs) (q : k0 ≤ a)
    (g : ∀ (T' : State) (h' : Heap), Stand p l e R s m args below meth c T' (locs ++ [⟨a, j.toNatClampNeg⟩]) cells slots → T'.heap = h' → Wr h h' a j.toNatClampNeg (.int (nar .char x)) → Fr k0 (locs ++ [⟨a, j.toNatClampNeg⟩]) → Arv Z h' a cA .char n (vs.set i (.int (nar .char x))) dv → Gf p e below P T' m pc' Ls st') : Gf p e below P T m pc Ls st := by
  subst hp hst
  obtain ⟨c1, A1, q1, S1, M1, H1, U1⟩ := id V
  obtain ⟨T', h', X', e', W', k'⟩ := stC X hx hZ eT A1 (inb_of S1 hj) (g := mkF m pc Ls _) rfl rfl (hb hby hd)
  exact Go.step k' (g T' h' X' e' W' (Fr.snoc X' N q) (Arv.set A1 q1 S1 M1 H1 U1 (fits_nar_char _) W' i hi hl))
theorem g_stD (X : Stand p l e R s m args below meth c T locs cells slots) (hx : p.tables.exec = Jvm.exec) (hby : c.code = code) (hZ : Z.Warmed39 s.vm) {cA : ClassId} {n j : Int32} {x : UInt64} {vs : List Value} {dv : Value} (eT : T.heap = h) (V : Arv Z h a cA .double n vs dv) (hj : ¬ j < 0 ∧ j < n) (i : Nat) (hi : j.toNatClampNeg = i) (hl : i < vs.length) (hst : st = .double x :: .int j :: .ref a :: st') (hd : decode code pc = .ok (.dastore, 1)) (hp : pc + 1 = pc') {k0 : Nat} (N : Fr k0 locs) (q : k0 ≤ a)
    (g : ∀ (T' : State) (h' : Heap), Stand p l e R s m args below meth c T' (locs ++ [⟨a, j.toNatClampNeg⟩]) cells slots → T'.heap = h' → Wr h h' a j.toNatClampNeg (.double x) → Fr k0 (locs ++ [⟨a, j.toNatClampNeg⟩]) → Arv Z h' a cA .double n (vs.set i (.double x)) dv → Gf p e below P T' m pc' Ls st') : Gf p e below P T m pc Ls st := by
  subst hp hst
  obtain ⟨c1, A1, q1, S1, M1, H1, U1⟩ := id V
  obtain ⟨T', h', X', e', W', k'⟩ := stD X hx hZ eT A1 (inb_of S1 hj) (g := mkF m pc Ls _) rfl rfl (hb hby hd)
  exact Go.step k' (g T' h' X' e' W' (Fr.snoc X' N q) (Arv.set A1 q1 S1 M1 H1 U1 rfl W' i hi hl))
theorem g_ldD (X : Stand p l e R s m args below meth c T locs cells slots) (hx : p.tables.exec = Jvm.exec) (hby : c.code = code) (hZ : Z.Warmed39 s.vm) {cA : ClassId} {n j : Int32} {v : UInt64} {vs : List Value} {dv : Value} (eT : T.heap = h) (V : Arv Z h a cA .double n vs dv) (hj : ¬ j < 0 ∧ j < n) (hv : vs.getD j.toNatClampNeg dv = .double v) (hst : st = .int j :: .ref a :: st') (hd : decode code pc = .ok (.daload, 1)) (hp : pc + 1 = pc')
    (g : Gf p e below P T m pc' Ls (.double v :: st')) : Gf p e below P T m pc Ls st := by
  subst hp hst
  obtain ⟨c1, A1, q1, S1, M1, H1, U1⟩ := id V
  have hj' := inb_of S1 hj
  exact Go.step (fun t k => X.daload hx (a := a) (cell := c1) (j := j) (v := .double v) (by rw [eT]; exact A1.1) (State.isArrayOf_alike hZ.alike A1.2.1) A1.2.2 hj' (Has.at H1 hj' hv) (g := mkF m pc Ls _) rfl rfl (hb hby hd) t k) g
theorem g_absD (X : Stand p l e R s m args below meth c T locs cells slots) (hx : p.tables.exec = Jvm.exec) (hby : c.code = code) (hml : Ls.size = c.maxLocals) (hZ : Z.Warmed39 s.vm) (hown : s.vm.findClass own = some m.cls) {i : Nat} {x v : UInt64} (eT : T.heap = h) (w1 : (Cond.methodLink own i Jvm.Free.Fl.Abs.absDN).before a0 Z = true) (w2 : (Cond.static Jvm.Free.Fl.Abs.absDN).before a0 Z = true) (w3 : (Cond.initialized "java/lang/Math").before a0 Z = true) (w4 : (Cond.code Jvm.Free.Fl.Abs.absDN Jvm.Free.Fl.Abs.absDCode 2 (some .double)).before a0 Z = true)
    (hn : Jvm.Free.Fl.NoNaN64 x) (hv : x &&& 0x7fffffffffffffff = v) (hst : st = .double x :: st') {W : Nat} (hW : 2 * 0 + (st'.map fun v => v.category).sum = W) (hf : 1 ≤ R.frames) (hl : W + 13 ≤ R.locals) (hc : cells ≤ R.cells) (hs : slots ≤ R.slots) (hd : decode code pc = .ok (.invokestatic i, 3)) (hp : pc + 3 = pc')
    (g : ∀ (T' : State), Stand p l e R s m args below meth c T' locs cells slots → T'.heap = h → Gf p e below P T' m pc' Ls (.double v :: st')) : Gf p e below P T m pc Ls st := by
  subst hp hst hv
  obtain ⟨T', X', e', k⟩ := natS X hx hZ hown w1 w2 w3 w4 (by decide) eT (F := fun a' => a' = #[.double x] ∧ Jvm.Free.Fl.NoNaN64 x) (fun hcode => Jvm.Free.Fl.Abs.absD_pays x hcode hf hl) (g := mkF m pc Ls _) rfl hml (argsL := [.double x]) (rest := st') (lenOf (ps := [.double]) (r := some .double) (by decide +kernel) rfl) rfl (Nat.le_of_eq hW) (hb hby hd) hc hs ⟨rfl, hn⟩ rfl
  exact Go.step k (g T' X' e')
theorem g_maxD (X : Stand p l e R s m args below meth c T locs cells slots) (hx : p.tables.exec = Jvm.exec) (hby : c.code = code) (hml : Ls.size = c.maxLocals) (hZ : Z.Warmed39 s.vm) (hown : s.vm.findClass own = some m.cls) {i : Nat} {x y v : UInt64} (eT : T.heap = h) (w1 : (Cond.methodLink own i Jvm.Free.Fl.Abs.maxDN).before a0 Z = true) (w2 : (Cond.static Jvm.Free.Fl.Abs.maxDN).before a0 Z = true) (w3 : (Cond.initialized "java/lang/Math").before a0 Z = true) (w4 : (Cond.code Jvm.Free.Fl.Abs.maxDN Jvm.Free.Fl.Abs.maxDCode 4 (some .double)).before a0 Z = true)
    (hn : Jvm.Free.Fl.NoNaN64 x) (hm : Jvm.Free.Fl.NoNaN64 y) (hv : Jvm.Native.java_lang_Math.nans.pick64 true x y = v) (hst : st = .double y :: .double x :: st') {W : Nat} (hW : 2 * 0 + (st'.map fun v => v.category).sum = W) (hf : 1 ≤ R.frames) (hl : W + 15 ≤ R.locals) (hc : cells ≤ R.cells) (hs : slots ≤ R.slots) (hd : decode code pc = .ok (.invokestatic i, 3)) (hp : pc + 3 = pc')
    (g : ∀ (T' : State), Stand p l e R s m args below meth c T' locs cells slots → T'.heap = h → Gf p e below P T' m pc' Ls (.double v :: st')) : Gf p e below P T m pc Ls st := by
  subst hp hst hv
  obtain ⟨T', X', e', k⟩ := natS X hx hZ hown w1 w2 w3 w4 (by decide) eT (F := fun a' => a' = #[.double x, .double y] ∧ Jvm.Free.Fl.NoNaN64 x ∧ Jvm.Free.Fl.NoNaN64 y) (fun hcode => Jvm.Free.Fl.Abs.maxD_pays x y hcode hf hl) (g := mkF m pc Ls _) rfl hml (argsL := [.double x, .double y]) (rest := st') (lenOf (ps := [.double, .double]) (r := some .double) (by decide +kernel) rfl) rfl (Nat.le_of_eq hW) (hb hby hd) hc hs ⟨rfl, hn, hm⟩ rfl
  exact Go.step k (g T' X' e')
theorem g_pop2D (X : Stand p l e R s m args below meth c T locs cells slots) (hx : p.tables.exec = Jvm.exec) (hby : c.code = code) {x : UInt64} (hd : decode code pc = .ok (.pop2, 1)) (hst : st = .double x :: st') (hp : pc + 1 = pc') (g : Gf p e below P T m pc' Ls st') : Gf p e below P T m pc Ls st := by
  subst hp hst
  have hd' := hb hby hd
  refine Go.step (fun t k => ?_) g
  show Steps p.tables e below (T.setTop { method := m, pc := pc, locals := Ls, stack := .double x :: st', locked := none }) t
  jvm_step X.here [X.here.top, hx, hd', Value.category]
  exact k
/-! where a String constant may be loaded for the first time: the Stand lies over (s.setVm vm0) -/
theorem g_ldcS {vm0 : Vm} (X : Stand p l e R (s.setVm vm0) m args below meth c T locs cells slots) (hx : p.tables.exec = Jvm.exec) (hby : c.code = code) (hZ : Z.Warmed39 vm0) (hown : vm0.findClass own = some m.cls) {i n : Nat} {text : String} (w : (Cond.stringLink own i text).before a0 Z = true) (wS : ∀ a ∈ Bundle.stringAtoms, a.before a0 Z = true) (eT : T.heap = h) {k0 : Nat} (hS : s.Since vm0 k0) (hk : k0 ≤ h.size)
    (hd : decode code pc = .ok (.ldc i, 2)) (hp : pc + 2 = pc') (hn : 4 * text.toList.length ≤ n) (hbig : n ≤ 536870912) (hc : cells + 2 ≤ R.cells) (hl : slots + (n + 4) ≤ R.slots)
    (g : ∀ (a : Addr) (T' : State) (h' : Heap) (k1 : Nat), Stand p l e R (s.setVm T'.vm) m args below meth c T' locs (cells + 2) (slots + (n + 4)) → T'.heap = h' → Ext h h' → s.Since T'.vm k1 → k1 ≤ h'.size → Z.Warmed39 (s.setVm T'.vm).vm → (s.setVm T'.vm).vm.findClass own = some m.cls → Gf p e below P T' m pc' Ls (.ref a :: st)) : Gf p e below P T m pc Ls st := by
  subst hp
  obtain ⟨a, T', h', k1, X', e', E', hS', hk', hZ', hown', k⟩ := ldcS X hx hZ hown w wS eT hS hk (g := mkF m pc Ls st) rfl (hb hby hd) hn hbig hc hl
  exact Go.step k (g a T' h' k1 X' e' E' hS' hk' hZ' hown')
def ConW (l : Launch) (Z : State) (y : MethodName) (bytes : ByteArray) (maxL : Nat) (ret : Option FieldType) (ws : List Cond) (rm : Room) (as : Array Value) (h : Heap) (Q : Option Value → Heap → List Loc → Prop) : Prop :=
  MetFree l y (head1 (Cond.code y bytes maxL ret :: ws) rm) (fun a U => a = as ∧ Z.Warmed39 U.vm ∧ U.heap = h) (fun _ _ _ _ _ => True) (fun _ U o U' => ∃ v L, o = .returned v ∧ Q v U'.heap L ∧ ReturnedEndW U o U' L rm.cells rm.slots)
def FinW (l : Launch) (s : State) (rm : Room) (Q : Option Value → Heap → List Loc → Prop) (P : Outcome → State → Prop) : Prop := ∀ o U, (∃ v L, o = .returned v ∧ Q v U.heap L ∧ ReturnedEndW s o U L rm.cells rm.slots) → P o U
theorem ConW.start {y : MethodName} {bytes : ByteArray} {maxL : Nat} {ret : Option FieldType} {ws : List Cond} {as : Array Value} (Ls : Array Slot) (hn : plainFor y = true) (hef : ∀ m, entryFrame m as maxL = mkF m 0 Ls [])
    (k : ∀ (p : Program) (e : Env) (s : State) (m : MethodId) (below : List Frame) (meth : Method) (c : Code) (s₁ : State) (P : Outcome → State → Prop), Stand p l e rm (s.setVm s.vm) m as below meth c s₁ [] 0 0 → p.tables.exec = Jvm.exec → c.code = bytes → c.maxLocals = maxL → meth.sig.returnType = ret → meth.locks = false → (s.setVm s.vm).vm.findClass y.cls = some m.cls → meth.name = y.name → Z.Warmed39 (s.setVm s.vm).vm → s₁.heap = h → FinW l s rm Q P → s.Since s.vm 0 → Gf p e below P s₁ m 0 Ls []) :
    ConW l Z y bytes maxL ret ws rm as h Q := by
  refine MetFree.of_bodySF hn hisR ?_
  intro p e s m args below meth c s₁ Bd hml0 hP hK
  obtain ⟨rfl, hZ, hh⟩ := hP
  have e0 : s₁.heap = h := by rw [← hh, Bd.state]; rfl
  obtain ⟨s2, o, h1, h2⟩ := k p e s m below meth c s₁ _ (Stand.of_body Bd) Bd.exec Bd.bytes hml0 Bd.returns (BodyLoose.notSynchronized Bd) (findClass_of_methodNamed Bd.named) (name_of_methodNamed Bd.named Bd.method).1 hZ e0 (fun o U q => q) ((State.WarmedH.refl s).since 0)
  exact ⟨s2, o, castTop (hef m) h1, h2⟩
theorem own_endW {s t : State} {o : Outcome} {L : List Loc} {k n k' n' : Nat} (h : ReturnedEndW s o t L k n) (hk : k ≤ k') (hn : n ≤ n') : ReturnedEndW s o t L k' n' := ⟨h.1, h.2.1, h.2.2.1, h.2.2.2.mono hk hn⟩
theorem g_retVW {vm0 : Vm} (X : Stand p l e R (s.setVm vm0) m args below meth c T locs cells slots) (hx : p.tables.exec = Jvm.exec) (hby : c.code = code) {k0 : Nat} (hS : s.Since vm0 k0) (hk : k0 ≤ h.size) (hf : FinW l s rm Q P) (hlk : meth.locks = false) {t : FieldType} {i : Instr} {w : Value} (hret : meth.sig.returnType = some t) (hd : decode code pc = .ok (i, 1)) (hst : st = w :: st') (hn : narrow t w = w)
    (hi : (i = .ireturn ∧ (t = .int ∨ t = .boolean ∨ t = .byte ∨ t = .char ∨ t = .short) ∧ ∃ z, w = .int z) ∨ (i = .lreturn ∧ t = .long ∧ ∃ z, w = .long z) ∨ (i = .dreturn ∧ t = .double ∧ ∃ z, w = .double z) ∨ (i = .freturn ∧ t = .float ∧ ∃ z, w = .float z) ∨ (i = .areturn ∧ t.isReference = true ∧ w.isRef = true))
    (hc : cells ≤ rm.cells) (hs : slots ≤ rm.slots) (eT : T.heap = h) (q : Q (some w) h locs) : Gf p e below P T m pc Ls st := by
  subst hst
  obtain ⟨fs, hr, hrun, hended, hE⟩ := X.leaveW hS (by rw [eT]; exact hk) (v := some w) (fun q => by rw [hret] at q; cases q) hlk
  exact ⟨_, _, retOut X hx hret hn hi (hb hby hd) hr, hrun, hended, hf _ _ ⟨_, _, rfl, by show Q (some w) T.heap locs; rw [eT]; exact q, own_endW hE hc hs⟩⟩
theorem g_retZW {vm0 : Vm} (X : Stand p l e R (s.setVm vm0) m args below meth c T locs cells slots) (hx : p.tables.exec = Jvm.exec) (hby : c.code = code) {k0 : Nat} (hS : s.Since vm0 k0) (hk : k0 ≤ h.size) (hf : FinW l s rm Q P) (hlk : meth.locks = false) {t : FieldType} {z w : Int32} (hret : meth.sig.returnType = some t) (hd : decode code pc = .ok (.ireturn, 1)) (hst : st = .int z :: st') (ht : t = .boolean ∨ t = .byte ∨ t = .char ∨ t = .short)
    (hw : nar t z = w) (hc : cells ≤ rm.cells) (hs : slots ≤ rm.slots) (eT : T.heap = h) (q : Q (some (.int w)) h locs) : Gf p e below P T m pc Ls st := by
  subst hst hw
  obtain ⟨fs, hr, hrun, hended, hE⟩ := X.leaveW hS (by rw [eT]; exact hk) (v := some (.int (nar t z))) (fun q => by rw [hret] at q; cases q) hlk
  exact ⟨_, _, retN X hx hret ht (hb hby hd) hr, hrun, hended, hf _ _ ⟨_, _, rfl, by show Q (some (.int (nar t z))) T.heap locs; rw [eT]; exact q, own_endW hE hc hs⟩⟩
theorem g_retW {vm0 : Vm} (X : Stand p l e R (s.setVm vm0) m args below meth c T locs cells slots) (hx : p.tables.exec = Jvm.exec) (hby : c.code = code) {k0 : Nat} (hS : s.Since vm0 k0) (hk : k0 ≤ h.size) (hf : FinW l s rm Q P) (hlk : meth.locks = false) (hret : meth.sig.returnType = none) (hd : decode code pc = .ok (.return_, 1)) (hst : st = [])
    (hc : cells ≤ rm.cells) (hs : slots ≤ rm.slots) (eT : T.heap = h) (q : Q none h locs) : Gf p e below P T m pc Ls st := by
  subst hst
  obtain ⟨fs, hr, hrun, hended, hE⟩ := X.leaveW hS (by rw [eT]; exact hk) (v := none) (fun _ => rfl) hlk
  exact ⟨_, _, X.returnOut hx hret (hb hby hd) hr, hrun, hended, hf _ _ ⟨_, _, rfl, by show Q none T.heap locs; rw [eT]; exact q, own_endW hE hc hs⟩⟩
theorem g_initW {vm0 : Vm} (X : Stand p l e R (s.setVm vm0) m args below meth c T locs cells slots) (hx : p.tables.exec = Jvm.exec) (hby : c.code = code) (hml : Ls.size = c.maxLocals) (hZ : Z.Warmed39 (s.setVm vm0).vm) (hown : (s.setVm vm0).vm.findClass own = some m.cls) {k0 : Nat} (hS : s.Since vm0 k0) (hk : k0 ≤ h.size) {i : Nat} {y : MethodName} {bytes : ByteArray} {maxL W : Nat} {ps : List FieldType} {argsL : List Value} (hy1 : y.name = "<init>") (eT : T.heap = h)
    (hM : ConW l Z y bytes maxL none [] rm (.ref a :: argsL).toArray h Q) (w1 : (Cond.methodLink own i y).before a0 Z = true) (w2 : (Cond.instanceMethod y).before a0 Z = true) (w3 : (Cond.initialized y.cls).before a0 Z = true) (w4 : (Cond.code y bytes maxL none).before a0 Z = true) (hy : y.cls ≠ "java/lang/invoke/MethodHandle" ∧ y.cls ≠ "java/lang/invoke/VarHandle")
    (hpd : parseMethodDescriptor y.desc = some ⟨ps, none⟩) (hlen : argsL.length = ps.length) (hst : st = argsL.reverse ++ .ref a :: st') (hW : 2 * 0 + (st'.map fun v => v.category).sum = W) (hf : rm.frames + 1 ≤ R.frames) (hl : W + (maxL + 11) + rm.locals ≤ R.locals) (hc : cells + rm.cells ≤ R.cells) (hs : slots + rm.slots ≤ R.slots)
    (hd : decode code pc = .ok (.invokespecial i, 3)) (hp : pc + 3 = pc')
    (g : ∀ (T' : State) (v : Option Value) (L : List Loc), Stand p l e R (s.setVm T'.vm) m args below meth c T' (locs ++ L) (cells + rm.cells) (slots + rm.slots) → Q v T'.heap L → s.Since T'.vm T'.heap.size → Z.Warmed39 (s.setVm T'.vm).vm → (s.setVm T'.vm).vm.findClass own = some m.cls → Gf p e below P T' m pc' Ls (v.toList ++ st')) : Gf p e below P T m pc Ls st := by
  subst hp hst
  obtain ⟨v, _, ⟨T', L', k', n'⟩, -, X', hS', hgr, ⟨Lc, hQ, hl', hy', hz'⟩, k⟩ := X.specialBackS hx (y := y) hy1 hown (mvT hZ w1) (mvT hZ w2) (mvT hZ w4) hy (backOfS (W := W) hM hZ w4 w3 hf hl) (g := mkF m pc Ls _) rfl hml (Steps.refl _) (a := a) (argsL := argsL) (rest := st') (lenOf hpd hlen) rfl (Nat.le_of_eq hW) (hb hby hd) (fun _ _ => ⟨rfl, eT, hc, hs⟩)
  dsimp only [Pt.U, Pt.locs, Pt.cells, Pt.slots] at X' hl' hy' hz' k hQ hS' hgr
  subst hl' hy' hz'
  have hZ' : Z.Warmed39 (s.setVm T'.vm).vm := State.Warmed39.trans (t := s.setVm vm0) hZ hS'.1
  exact Go.step (fun t k2 => k.trans k2) (g T' v Lc X' hQ (foldS hS (by rw [eT]; exact hk) hS' hgr) hZ' (by rw [show (s.setVm T'.vm).vm = T'.vm from rfl, hS'.1.alike.findClass]; exact hown))
theorem own_join {G : Prop} (P : Outcome → State → Prop) (X : Stand p l e R s m args below meth c T locs cells slots) (eT : T.heap = h) (pc : Nat) (Ls : Array Slot) (st : List Value) (J : ∀ T', Stand p l e R s m args below meth c T' locs cells slots → T'.heap = h → Gf p e below P T' m pc Ls st)
    (k : (∀ T', Stand p l e R s m args below meth c T' locs cells slots → T'.heap = h → Gf p e below P T' m pc Ls st) → G) : G := k J
end Steps1
theorem own_sta_keep {Z : State} {h h' : Heap} {ws : List Addr} {C n d : String} {v : Value} (F : Sta Z h C n d v) (K : Keep h h' ws) (q : ∀ x ∈ ws, ∃ C', Exa Z h x C') : Sta Z h' C n d v := by
  obtain ⟨cf, i, k, f, st, cell, h1, h2, h3, h4, h5, h6, h7⟩ := F
  refine ⟨cf, i, k, f, st, cell, h1, h2, h3, h4, K.2.1 st cell h5 fun hm => ?_, h6, h7⟩
  obtain ⟨C', cell', _, g1, -, -, g4, -⟩ := q st hm
  cases h5.symm.trans g1
  rw [g4] at h6
  cases h6
theorem own_ef {m : MethodId} {as : Array Value} {n : Nat} {Ls : Array Slot} (h : Jvm.Sym.laidSlots as.toList ++ List.replicate (n - (Jvm.Sym.laidSlots as.toList).length) .unset = Ls.toList) : entryFrame m as n = mkF m 0 Ls [] := by
  have e : argsToLocals as n = Ls := Array.toList_inj.mp (by rw [Jvm.Sym.argsToLocals_toList]; exact h)
  first | exact congrArg (fun L => mkF m 0 L []) e | (show mkF m 0 (argsToLocals as n) [] = mkF m 0 Ls []; rw [e])
theorem own_fitZ {z : Int32} (h : z = 0 ∨ z = 1) : fits .boolean (.int z) = true := by rcases h with rfl | rfl <;> rfl
theorem own_narZ {z : Int32} (h : z = 0 ∨ z = 1) : narrow .boolean (.int z) = .int z := by rcases h with rfl | rfl <;> rfl
theorem own_nar {z : Int32} (h : z = 0 ∨ z = 1) : nar .boolean z = z := by rcases h with rfl | rfl <;> rfl
theorem own_01 {c : Prop} [Decidable c] {z : Int32} (h : z = if c then 0 else 1) : z = 0 ∨ z = 1 := by subst h; split <;> simp
theorem own_10 {c : Prop} [Decidable c] {z : Int32} (h : z = if c then 1 else 0) : z = 0 ∨ z = 1 := by subst h; split <;> simp
end Jvm.Own
namespace Jvm.Own
open Jvm.FP Jvm.FP.Core
/-- a double's value in units of 2^(-1074) -/
abbrev zv (a : UInt64) : Int := zval b64 (val64 a)
theorem own_qmin : b64.qmin = -1074 := by decide +kernel
theorem own_qmax : b64.qmax = 971 := by decide +kernel
theorem ring1 {za zb d d' n n' o zV : Int} (h1 : za * d = n * o) (h2 : zb * d' = n' * o) (h3 : zV * (d * d') = n * n' * o) : za * zb * (d * d') = zV * o * (d * d') := by
  calc za * zb * (d * d') = (za * d) * (zb * d') := by ac_rfl
    _ = n * o * (n' * o) := by rw [h1, h2]
    _ = (n * n' * o) * o := by ac_rfl
    _ = zV * o * (d * d') := by rw [← h3]; ac_rfl
theorem ring2 {za zb d d' k n n' m o zV : Int} (h1 : za * d = n * o) (h2 : zb * d' = n' * o) (h3 : zV * k = m * o) (h : m * (d * n') = n * (d' * k)) : za * o * (d * (d' * k)) = zV * zb * (d * (d' * k)) := by
  calc za * o * (d * (d' * k)) = (za * d) * (o * (d' * k)) := by ac_rfl
    _ = (n * (d' * k)) * (o * o) := by rw [h1]; ac_rfl
    _ = (m * (d * n')) * (o * o) := by rw [h]
    _ = (m * o) * ((n' * o) * d) := by ac_rfl
    _ = (zV * k) * ((zb * d') * d) := by rw [h2, h3]
    _ = zV * zb * (d * (d' * k)) := by ac_rfl
theorem ring3 {z d d' n o : Int} (h : z * d = n * o) : z * (d * d') = n * d' * o := by rw [← Int.mul_assoc, h]; ac_rfl
theorem ring4 {z d d' n o : Int} (h : z * d' = n * o) : z * (d * d') = n * d * o := by rw [Int.mul_comm d, ← Int.mul_assoc, h]; ac_rfl
theorem own_fin {a : UInt64} (h : DFin a) : ∃ s c q, val64 a = .fin s c q ∧ Jvm.FP.Core.fits b64 (.fin s c q) := by
  obtain ⟨s, c, q, h⟩ := h
  exact ⟨s, c, q, h, h ▸ val64_fits a⟩
/-- what has a finite number's value is finite -/
theorem own_fin_of {x V : UInt64} (hx : val64 x ≠ .nan) (hV : DFin V) (h : (zv x).natAbs ≤ (zv V).natAbs) : DFin x := by
  have h1 := hV.zval_lt
  cases hv : val64 x with
  | nan => exact absurd hv hx
  | fin s c q => exact ⟨s, c, q, hv⟩
  | inf s =>
    exfalso
    unfold zv zval at h
    rw [natAbs_signed, natAbs_signed, hv] at h
    have h2 : b64.tails * 2 ^ (b64.exps - 2) ≤ zmag b64 (val64 V) := h
    exact absurd h1 (Nat.not_lt.mpr h2)
/-- Rv a n d: a is finite and of the value n / d -/
def Rv (a : UInt64) (n : Int) (d : Nat) : Prop := DFin a ∧ zv a * (d : Int) = n * (one64 : Int)
theorem one_pos : 0 < (one64 : Int) := Int.natCast_pos.mpr one64_pos
theorem round_units {s : Bool} {c : Nat} {q e0 : Int} {V : UInt64} (hV : DFin V) (h0 : e0 ≤ b64.qmin) (h0e : e0 ≤ q) (h : signed s (inUnits c q e0) = zv V * ((2 ^ (b64.qmin - e0).toNat : Nat) : Int)) : zval b64 (round b64 (.fin s c q)) = zv V := by
  have h1 := zval_round_le good_b64 (V := val64 V) (val64_fits V) hV.ne_nan h0 h0e (Int.le_of_eq h)
  have h2 := zval_round_ge good_b64 (V := val64 V) (val64_fits V) hV.ne_nan h0 h0e (Int.le_of_eq h.symm)
  exact Int.le_antisymm h1 h2
theorem dadd_zv {a b V : UInt64} (ha : DFin a) (hb : DFin b) (hV : DFin V) (h : zv a + zv b = zv V) : DFin (FP.dadd a b) ∧ zv (FP.dadd a b) = zv V := by
  have hn : val64 (FP.dadd a b) ≠ .nan := (notNaN_iff _).mp (dadd_out ha.notNaN hb)
  obtain ⟨s, c, q, h1, f1⟩ := own_fin ha
  obtain ⟨t, d, r, h2, f2⟩ := own_fin hb
  obtain ⟨sg, n, e, p1, p2, p3⟩ := sum_units f1 f2
  have hz : zv (FP.dadd a b) = zv V := by
    show zval b64 (val64 (Core.dadd a b)) = _
    rw [val64_dadd, h1, h2, p1]
    refine round_units hV (Int.le_refl _) p2 ?_
    rw [p3, Int.sub_self, Int.toNat_zero, Nat.pow_zero, ← h, ← h1, ← h2]
    exact (Int.mul_one _).symm
  exact ⟨own_fin_of hn hV (Nat.le_of_eq (by rw [hz])), hz⟩
theorem zv_dneg (a : UInt64) : zv (FP.dneg a) = -zv a := by
  show zval b64 (val64 (FP.dneg a)) = _
  rw [Jvm.FP.val64_dneg, zval_negate]
theorem fin_dneg {a : UInt64} (h : DFin a) : DFin (FP.dneg a) := by
  obtain ⟨s, c, q, h⟩ := h
  exact ⟨!s, c, q, by rw [Jvm.FP.val64_dneg, h]; rfl⟩
theorem dsub_zv {a b V : UInt64} (ha : DFin a) (hb : DFin b) (hV : DFin V) (h : zv a - zv b = zv V) : DFin (FP.dsub a b) ∧ zv (FP.dsub a b) = zv V := by
  have e : FP.dsub a b = FP.dadd a (FP.dneg b) := by rw [Jvm.FP.dneg_core hb.notNaN]; exact dsub_eq a b
  rw [e]
  refine dadd_zv ha (fin_dneg hb) hV ?_
  rw [zv_dneg]; omega
theorem dmul_zv {a b V : UInt64} (ha : DFin a) (hb : DFin b) (hV : DFin V) (h : zv a * zv b = zv V * (one64 : Int)) : DFin (FP.dmul a b) ∧ zv (FP.dmul a b) = zv V := by
  have hn : val64 (FP.dmul a b) ≠ .nan := (notNaN_iff _).mp (dmul_out ha hb)
  obtain ⟨s, c, q, h1, f1⟩ := own_fin ha
  obtain ⟨t, d, r, h2, f2⟩ := own_fin hb
  obtain ⟨p1, p2, p3⟩ := product_units f1 f2
  have hz : zv (FP.dmul a b) = zv V := by
    show zval b64 (val64 (Core.dmul a b)) = _
    rw [val64_dmul, h1, h2, p1]
    refine round_units hV (by have := own_qmin; omega) p2 ?_
    rw [p3, signed_xor, show (b64.qmin - 2 * b64.qmin).toNat = (-b64.qmin).toNat by omega, pow_qmin64, ← h]
    show _ = zval b64 (val64 a) * zval b64 (val64 b)
    rw [h1, h2]; rfl
  exact ⟨own_fin_of hn hV (Nat.le_of_eq (by rw [hz])), hz⟩
/-- the quotient of two finite numbers, as a rounding -/
theorem ddiv_val {a b : UInt64} {s t : Bool} {c d : Nat} {q r : Int} (h1 : val64 a = .fin s c q) (h2 : val64 b = .fin t d r) (hd : d ≠ 0) : val64 (FP.ddiv a b) = roundRatio b64 (s != t) c d (q - r) := by
  show val64 (Core.ddiv a b) = _
  rw [val64_ddiv, h1, h2]
  simp only [quotient, if_neg hd]
theorem zero_of {b : UInt64} {t : Bool} {d : Nat} {r : Int} (h2 : val64 b = .fin t d r) (hz : zv b ≠ 0) : d ≠ 0 := by
  intro h0
  apply hz
  show zval b64 (val64 b) = 0
  rw [h2, h0]
  show signed t (inUnits 0 r b64.qmin) = 0
  unfold inUnits
  rw [Nat.zero_mul, signed_zero]
theorem zv_mag {a : UInt64} {s : Bool} {c : Nat} {q : Int} (h : val64 a = .fin s c q) : zv a = signed s (inUnits c q b64.qmin) := by
  show zval b64 (val64 a) = _
  rw [h]; rfl
theorem ddiv_units {a b : UInt64} {s t : Bool} {c d : Nat} {q r : Int} (f1 : Jvm.FP.Core.fits b64 (.fin s c q)) (f2 : Jvm.FP.Core.fits b64 (.fin t d r)) :
    (2 * b64.qmin - r ≤ b64.qmin ∧ 2 * b64.qmin - r ≤ q - r) ∧ inUnits c (q - r) (2 * b64.qmin - r) = inUnits c q b64.qmin * one64 ∧ ∀ V : Nat, V * 2 ^ (b64.qmin - (2 * b64.qmin - r)).toNat * d = V * inUnits d r b64.qmin := by
  have hx1 := f1.2.1
  have hy1 := f2.2.1
  refine ⟨⟨by omega, by have := own_qmin; omega⟩, ?_, fun V => ?_⟩
  · rw [← pow_qmin64]; unfold inUnits
    rw [Nat.mul_assoc, ← Nat.pow_add]; congr 2; have := own_qmin; omega
  · unfold inUnits
    rw [Nat.mul_assoc, Nat.mul_comm _ d]; congr 3; omega
theorem ddiv_zv_le {a b V : UInt64} (ha : DFin a) (hb : DFin b) (hz : zv b ≠ 0) (hV : DFin V) (h : (zv a).natAbs * one64 ≤ (zv V).natAbs * (zv b).natAbs) : (zv (FP.ddiv a b)).natAbs ≤ (zv V).natAbs := by
  obtain ⟨s, c, q, h1, f1⟩ := own_fin ha
  obtain ⟨t, d, r, h2, f2⟩ := own_fin hb
  obtain ⟨u, k, w, h3, f3⟩ := own_fin hV
  have hd := zero_of h2 hz
  obtain ⟨⟨p1, p2⟩, p3, p4⟩ := ddiv_units (a := a) (b := b) f1 f2
  have hv := ddiv_val h1 h2 hd
  rw [zv_mag h1, zv_mag h2, zv_mag h3, natAbs_signed, natAbs_signed, natAbs_signed] at h
  unfold zv zval
  rw [natAbs_signed, natAbs_signed, hv, h3]
  refine zmag_roundRatio_le good_b64 (Nat.pos_of_ne_zero hd) f3 (by simp) p1 p2 ?_
  rw [p3, p4]
  exact h
theorem ddiv_zv_ge {a b V : UInt64} (ha : DFin a) (hb : DFin b) (hz : zv b ≠ 0) (hV : DFin V) (h : (zv V).natAbs * (zv b).natAbs ≤ (zv a).natAbs * one64) : (zv V).natAbs ≤ (zv (FP.ddiv a b)).natAbs := by
  obtain ⟨s, c, q, h1, f1⟩ := own_fin ha
  obtain ⟨t, d, r, h2, f2⟩ := own_fin hb
  obtain ⟨u, k, w, h3, f3⟩ := own_fin hV
  have hd := zero_of h2 hz
  obtain ⟨⟨p1, p2⟩, p3, p4⟩ := ddiv_units (a := a) (b := b) f1 f2
  have hv := ddiv_val h1 h2 hd
  rw [zv_mag h1, zv_mag h2, zv_mag h3, natAbs_signed, natAbs_signed, natAbs_signed] at h
  unfold zv zval
  rw [natAbs_signed, natAbs_signed, hv, h3]
  refine zmag_roundRatio_ge good_b64 (Nat.pos_of_ne_zero hd) f3 p1 p2 ?_
  rw [p3, p4]
  exact h
/-- the sign of a quotient -/
theorem ddiv_sign {a b : UInt64} (ha : DFin a) (hb : DFin b) (hz : zv b ≠ 0) : (0 ≤ zv a → 0 < zv b → 0 ≤ zv (FP.ddiv a b)) ∧ (zv a ≤ 0 → 0 < zv b → zv (FP.ddiv a b) ≤ 0) ∧ (0 ≤ zv a → zv b < 0 → zv (FP.ddiv a b) ≤ 0) ∧ (zv a ≤ 0 → zv b < 0 → 0 ≤ zv (FP.ddiv a b)) := by
  obtain ⟨s, c, q, h1, f1⟩ := own_fin ha
  obtain ⟨t, d, r, h2, f2⟩ := own_fin hb
  have hd := zero_of h2 hz
  have hv := ddiv_val h1 h2 hd
  have e3 : zv (FP.ddiv a b) = signed (s != t) (zmag b64 (val64 (FP.ddiv a b))) := by
    show signed (sgn (val64 (FP.ddiv a b))) _ = _
    rw [hv, sgn_roundRatio]
  have k0 : zv a = 0 → zv (FP.ddiv a b) = 0 := fun e => by
    have := ddiv_zv_le ha hb hz ha (by rw [e]; simp)
    rw [e] at this; omega
  have e1 := zv_mag h1
  have e2 := zv_mag h2
  cases s <;> cases t <;> simp [signed] at e1 e2 e3 <;> refine ⟨fun x y => ?_, fun x y => ?_, fun x y => ?_, fun x y => ?_⟩ <;> first | omega | (have := k0 (by omega); omega)
theorem ddiv_nn {a b : UInt64} (ha : DFin a) (hb : DFin b) (hz : zv b ≠ 0) : val64 (FP.ddiv a b) ≠ .nan := by
  obtain ⟨s, c, q, h1, f1⟩ := own_fin ha
  obtain ⟨t, d, r, h2, f2⟩ := own_fin hb
  rw [ddiv_val h1 h2 (zero_of h2 hz)]
  exact roundRatio_ne_nan _ _ _ _ _
theorem ddiv_zv {a b V : UInt64} (ha : DFin a) (hb : DFin b) (hz : zv b ≠ 0) (hV : DFin V) (h : zv a * (one64 : Int) = zv V * zv b) : DFin (FP.ddiv a b) ∧ zv (FP.ddiv a b) = zv V := by
  have hm : (zv a).natAbs * one64 = (zv V).natAbs * (zv b).natAbs := by
    have := congrArg Int.natAbs h
    rw [Int.natAbs_mul, Int.natAbs_mul, Int.natAbs_natCast] at this
    exact this
  have l1 := ddiv_zv_le ha hb hz hV (Nat.le_of_eq hm)
  have l2 := ddiv_zv_ge ha hb hz hV (Nat.le_of_eq hm.symm)
  have hn := ddiv_nn ha hb hz
  obtain ⟨s1, s2, s3, s4⟩ := ddiv_sign ha hb hz
  have p := one_pos
  refine ⟨own_fin_of hn hV l1, ?_⟩
  rcases Int.lt_or_gt_of_ne hz with hb' | hb'
  · rcases Int.le_total 0 (zv a) with ha' | ha'
    · have := s3 ha' hb'
      have : zv V ≤ 0 := by
        apply Int.not_lt.mp; intro hv
        have h1 := Int.mul_neg_of_pos_of_neg hv hb'
        have h2 := Int.mul_nonneg ha' (Int.le_of_lt p)
        omega
      omega
    · have := s4 ha' hb'
      have : 0 ≤ zv V := by
        apply Int.not_lt.mp; intro hv
        have h1 := Int.mul_pos_of_neg_of_neg hv hb'
        have h2 := Int.mul_nonpos_of_nonpos_of_nonneg ha' (Int.le_of_lt p)
        omega
      omega
  · rcases Int.le_total 0 (zv a) with ha' | ha'
    · have := s1 ha' hb'
      have : 0 ≤ zv V := by
        apply Int.not_lt.mp; intro hv
        have h1 := Int.mul_neg_of_neg_of_pos hv hb'
        have h2 := Int.mul_nonneg ha' (Int.le_of_lt p)
        omega
      omega
    · have := s2 ha' hb'
      have : zv V ≤ 0 := by
        apply Int.not_lt.mp; intro hv
        have h1 := Int.mul_pos hv hb'
        have h2 := Int.mul_nonpos_of_nonpos_of_nonneg ha' (Int.le_of_lt p)
        omega
      omega
/-- there is a double of each value m * 2^(e - 1074) -/
theorem rep (m : Int) (e : Nat) (hm : m.natAbs < 2 ^ 53) (he : e ≤ 2045) : ∃ V : UInt64, DFin V ∧ zv V = m * ((2 ^ e : Nat) : Int) := by
  have hq := own_qmin
  obtain ⟨c', q', h1, h2⟩ := round_exact good_b64 (decide (m < 0)) (c := m.natAbs) (q := (e : Int) - 1074) hm (by omega) (by rw [own_qmax]; omega)
  have hf := round_fits good_b64 (.fin (decide (m < 0)) m.natAbs ((e : Int) - 1074))
  have hv : val64 (of64 (round b64 (.fin (decide (m < 0)) m.natAbs ((e : Int) - 1074)))) = .fin (decide (m < 0)) c' q' := (val64_of64 hf).trans h1
  refine ⟨_, ⟨_, _, _, hv⟩, ?_⟩
  rw [zv_mag hv, h2]
  unfold inUnits
  rw [show ((e : Int) - 1074 - b64.qmin).toNat = e by omega, signed_mul]
  congr 1
  unfold signed
  by_cases h : m < 0 <;> simp [h] <;> omega
theorem rv_fin {a : UInt64} {n : Int} {d : Nat} (h : Rv a n d) : DFin a := h.1
theorem ex_rv (n : Int) (k : Nat) (hn : n.natAbs < 2 ^ 53) (hk : k ≤ 1074) : ∃ V, Rv V n (2 ^ k) := by
  obtain ⟨V, h1, h2⟩ := rep n (1074 - k) hn (by omega)
  refine ⟨V, h1, ?_⟩
  rw [h2, Int.mul_assoc, ← Int.natCast_mul, ← Nat.pow_add, show 1074 - k + k = 1074 by omega]; rfl
theorem ex_rvU (n : Int) (j : Nat) (hn : n.natAbs < 2 ^ 53) (hk : j ≤ 971) : ∃ V, Rv V (n * ((2 ^ j : Nat) : Int)) 1 := by
  obtain ⟨V, h1, h2⟩ := rep n (1074 + j) hn (by omega)
  refine ⟨V, h1, ?_⟩
  rw [h2, Nat.pow_add, Int.natCast_mul, Int.mul_comm ((2 ^ 1074 : Nat) : Int), ← Int.mul_assoc]
  exact Int.mul_one _
theorem rv_unique {a b : UInt64} {n : Int} {d : Nat} (hd : 0 < d) (ha : Rv a n d) (hb : Rv b n d) : zv a = zv b := by
  have h := ha.2.trans hb.2.symm
  exact Int.eq_of_mul_eq_mul_right (by omega) h
theorem rv_scale {a : UInt64} {n : Int} {d : Nat} (k : Nat) (h : Rv a n d) : Rv a (n * (k : Int)) (d * k) := by
  refine ⟨h.1, ?_⟩
  rw [Int.natCast_mul, ← Int.mul_assoc, h.2, Int.mul_assoc, Int.mul_assoc, Int.mul_comm (k : Int)]
theorem rv_unscale {a : UInt64} {n : Int} {d : Nat} (k : Nat) (hk : 0 < k) (h : Rv a (n * (k : Int)) (d * k)) : Rv a n d := by
  refine ⟨h.1, ?_⟩
  have h2 := h.2
  rw [Int.natCast_mul, ← Int.mul_assoc, Int.mul_assoc n, Int.mul_comm (k : Int) (one64 : Int), ← Int.mul_assoc] at h2
  exact Int.eq_of_mul_eq_mul_right (by omega) h2
theorem rv_i2d (n : Int32) : Rv (FP.i2d n) n.toInt 1 := ⟨i2d_fin n, by rw [show ((1 : Nat) : Int) = 1 from rfl, Int.mul_one]; exact DInt_zval (i2d_int n)⟩
theorem rv_l2d {n : Int64} (h : n.toInt.natAbs ≤ 2 ^ 53) : Rv (FP.l2d n) n.toInt 1 := ⟨l2d_fin n, by rw [show ((1 : Nat) : Int) = 1 from rfl, Int.mul_one]; exact DInt_zval (l2d_int h)⟩
theorem rv_neg {a : UInt64} {n : Int} {d : Nat} (h : Rv a n d) : Rv (FP.dneg a) (-n) d := ⟨fin_dneg h.1, by rw [zv_dneg, Int.neg_mul, Int.neg_mul, h.2]⟩
theorem rv_add {a b V : UInt64} {n n' : Int} {d : Nat} (hd : 0 < d) (ha : Rv a n d) (hb : Rv b n' d) (hV : Rv V (n + n') d) : Rv (FP.dadd a b) (n + n') d := by
  have e : zv a + zv b = zv V := by
    refine Int.eq_of_mul_eq_mul_right (a := (d : Int)) (by omega) ?_
    rw [Int.add_mul, ha.2, hb.2, hV.2, Int.add_mul]
  obtain ⟨h1, h2⟩ := dadd_zv ha.1 hb.1 hV.1 e
  exact ⟨h1, by rw [h2]; exact hV.2⟩
theorem rv_sub {a b V : UInt64} {n n' : Int} {d : Nat} (hd : 0 < d) (ha : Rv a n d) (hb : Rv b n' d) (hV : Rv V (n - n') d) : Rv (FP.dsub a b) (n - n') d := by
  have e : zv a - zv b = zv V := by
    refine Int.eq_of_mul_eq_mul_right (a := (d : Int)) (by omega) ?_
    rw [Int.sub_mul, ha.2, hb.2, hV.2, Int.sub_mul]
  obtain ⟨h1, h2⟩ := dsub_zv ha.1 hb.1 hV.1 e
  exact ⟨h1, by rw [h2]; exact hV.2⟩
theorem rv_mul {a b V : UInt64} {n n' : Int} {d d' : Nat} (hd : 0 < d) (hd' : 0 < d') (ha : Rv a n d) (hb : Rv b n' d') (hV : Rv V (n * n') (d * d')) : Rv (FP.dmul a b) (n * n') (d * d') := by
  have e : zv a * zv b = zv V * (one64 : Int) := by
    refine Int.eq_of_mul_eq_mul_right (a := ((d * d' : Nat) : Int)) (by have := Nat.mul_pos hd hd'; omega) ?_
    have h3 := hV.2
    rw [Int.natCast_mul] at h3 ⊢
    exact ring1 ha.2 hb.2 h3
  obtain ⟨h1, h2⟩ := dmul_zv ha.1 hb.1 hV.1 e
  exact ⟨h1, by rw [h2]; exact hV.2⟩
theorem rv_nz {b : UInt64} {n : Int} {d : Nat} (hb : Rv b n d) (hn : n ≠ 0) : zv b ≠ 0 := by
  intro h
  have h1 := hb.2
  rw [h, Int.zero_mul] at h1
  rcases Int.mul_eq_zero.mp h1.symm with h2 | h2
  · exact hn h2
  · have := one_pos; omega
theorem rv_div {a b V : UInt64} {n n' m : Int} {d d' k : Nat} (hd : 0 < d) (hd' : 0 < d') (hk : 0 < k) (ha : Rv a n d) (hb : Rv b n' d') (hn : n' ≠ 0) (hV : Rv V m k) (h : m * ((d : Int) * n') = n * ((d' : Int) * (k : Int))) : Rv (FP.ddiv a b) m k := by
  have e : zv a * (one64 : Int) = zv V * zv b := by
    refine Int.eq_of_mul_eq_mul_right (a := ((d * (d' * k) : Nat) : Int)) (by have := Nat.mul_pos hd (Nat.mul_pos hd' hk); omega) ?_
    rw [Int.natCast_mul, Int.natCast_mul]
    exact ring2 ha.2 hb.2 hV.2 h
  obtain ⟨h1, h2⟩ := ddiv_zv ha.1 hb.1 (rv_nz hb hn) hV.1 e
  exact ⟨h1, by rw [h2]; exact hV.2⟩
theorem cmp_mul (x y : Int) {k : Int} (hk : 0 < k) : compare x y = compare (x * k) (y * k) := (compare_mul_pos x y k hk).symm
theorem rv_cmp {a b : UInt64} {n n' : Int} {d d' : Nat} (hd : 0 < d) (hd' : 0 < d') (ha : Rv a n d) (hb : Rv b n' d') : FP.dcmp a b = some (compare (n * (d' : Int)) (n' * (d : Int))) := by
  show Core.dcmp a b = _
  rw [dcmp_zval ha.1.ne_nan hb.1.ne_nan]
  congr 1
  have p := one_pos
  rw [cmp_mul (zval b64 (val64 a)) _ (show 0 < ((d * d' : Nat) : Int) by have := Nat.mul_pos hd hd'; omega), cmp_mul (n * (d' : Int)) _ p]
  have h1 : zval b64 (val64 a) * ((d * d' : Nat) : Int) = n * (d' : Int) * (one64 : Int) := by rw [Int.natCast_mul]; exact ring3 ha.2
  have h2 : zval b64 (val64 b) * ((d * d' : Nat) : Int) = n' * (d : Int) * (one64 : Int) := by rw [Int.natCast_mul]; exact ring4 hb.2
  rw [h1, h2]
theorem zv_cmp {a b : UInt64} (ha : val64 a ≠ .nan) (hb : val64 b ≠ .nan) : FP.dcmp a b = some (compare (zv a) (zv b)) := dcmp_zval ha hb
theorem rv_zero : Rv 0 0 1 := ⟨⟨_, _, _, val64_zero⟩, by rw [show zv 0 = 0 from zval64_zero]; simp⟩
theorem rv_one : Rv 4607182418800017408 1 1 := ⟨⟨_, _, _, val64_dconst1⟩, by rw [show zv 4607182418800017408 = 1 * (one64 : Int) from DInt_zval dint_one]; simp⟩
theorem nn64 {a : UInt64} (h : val64 a ≠ .nan) : Jvm.Free.Fl.NoNaN64 a := Jvm.Free.Fl.noNaN64_no.mpr ((notNaN_iff a).mpr h)
theorem rv_nn {a : UInt64} {n : Int} {d : Nat} (h : Rv a n d) : Jvm.Free.Fl.NoNaN64 a := nn64 h.1.ne_nan
theorem rcv {a b : UInt64} {n n' : Int} {d d' : Nat} (hd : 0 < d) (hd' : 0 < d') (ha : Rv a n d) (hb : Rv b n' d') (o : Jvm.ClassFile.CmpOp) :
    (Jvm.Op.cmpValue (FP.dcmp a b) o < 0 ↔ n * (d' : Int) < n' * (d : Int)) ∧ (0 < Jvm.Op.cmpValue (FP.dcmp a b) o ↔ n' * (d : Int) < n * (d' : Int)) ∧ (Jvm.Op.cmpValue (FP.dcmp a b) o = 0 ↔ n * (d' : Int) = n' * (d : Int)) := by
  rw [rv_cmp hd hd' ha hb, compare_ite]
  generalize n * (d' : Int) = x
  generalize n' * (d : Int) = y
  split
  · exact ⟨⟨fun _ => by omega, fun _ => by cases o <;> decide⟩, ⟨fun h => absurd h (by cases o <;> decide), fun h => by omega⟩, ⟨fun h => absurd h (by cases o <;> decide), fun h => by omega⟩⟩
  · split
    · exact ⟨⟨fun h => absurd h (by cases o <;> decide), fun h => by omega⟩, ⟨fun h => absurd h (by cases o <;> decide), fun h => by omega⟩, ⟨fun _ => by omega, fun _ => by cases o <;> decide⟩⟩
    · exact ⟨⟨fun h => absurd h (by cases o <;> decide), fun h => by omega⟩, ⟨fun _ => by omega, fun _ => by cases o <;> decide⟩, ⟨fun h => absurd h (by cases o <;> decide), fun h => by omega⟩⟩
theorem zcv {a b : UInt64} (ha : val64 a ≠ .nan) (hb : val64 b ≠ .nan) (o : Jvm.ClassFile.CmpOp) :
    (Jvm.Op.cmpValue (FP.dcmp a b) o < 0 ↔ zv a < zv b) ∧ (0 < Jvm.Op.cmpValue (FP.dcmp a b) o ↔ zv b < zv a) ∧ (Jvm.Op.cmpValue (FP.dcmp a b) o = 0 ↔ zv a = zv b) := by
  rw [zv_cmp ha hb, compare_ite]
  generalize zv a = x
  generalize zv b = y
  split
  · exact ⟨⟨fun _ => by omega, fun _ => by cases o <;> decide⟩, ⟨fun h => absurd h (by cases o <;> decide), fun h => by omega⟩, ⟨fun h => absurd h (by cases o <;> decide), fun h => by omega⟩⟩
  · split
    · exact ⟨⟨fun h => absurd h (by cases o <;> decide), fun h => by omega⟩, ⟨fun h => absurd h (by cases o <;> decide), fun h => by omega⟩, ⟨fun _ => by omega, fun _ => by cases o <;> decide⟩⟩
    · exact ⟨⟨fun h => absurd h (by cases o <;> decide), fun h => by omega⟩, ⟨fun _ => by omega, fun _ => by cases o <;> decide⟩, ⟨fun h => absurd h (by cases o <;> decide), fun h => by omega⟩⟩
theorem own_isfinO {d : UInt64} (h : DFin d) (o : Jvm.ClassFile.CmpOp) : ¬ (0 : Int32) < Jvm.Op.cmpValue (FP.dcmp (d &&& 0x7fffffffffffffff) 9218868437227405311) o := by
  have h1 := (fin_bits d).mp h
  have n1 := mask_ne_nan h.ne_nan
  have n2 : val64 9218868437227405311 ≠ .nan := by rw [ne_nan]; decide
  have e : FP.dcmp (d &&& 0x7fffffffffffffff) 9218868437227405311 = _ := dcmp_key n1 n2
  rw [e, mask_key, show dkey 9218868437227405311 = 9218868437227405311 from by decide, compare_ite]
  split
  · cases o <;> decide
  · split
    · cases o <;> decide
    · omega
theorem own_isfin {d : UInt64} (h : DFin d) : ¬ (0 : Int32) < Jvm.Op.cmpValue (FP.dcmp (d &&& 0x7fffffffffffffff) 9218868437227405311) .g := own_isfinO h .g
theorem own_inf {d : UInt64} (h : DFin d) : Jvm.Op.cmpValue (FP.dcmp d 9218868437227405312) .g < (0 : Int32) := by
  rw [Jvm.RoadKit.dcmp_pinf (Jvm.Free.Fl.fin64_core.mpr h) .g]; decide
theorem own_pos {mu : UInt64} {n : Int} {d : Nat} (hd : 0 < d) (h : Rv mu n d) (hn : 0 < n) : (0 : Int32) < Jvm.Op.cmpValue (FP.dcmp mu 0) .l := (rcv hd (by decide) h rv_zero .l).2.1.mpr (by simp; omega)
/-- two quotients of one value are one -/
theorem ddiv_congr {a b a' b' : UInt64} (ha : DFin a) (hb : DFin b) (ha' : DFin a') (hb' : DFin b') (pa : 0 < zv a) (pb : 0 < zv b) (pa' : 0 < zv a') (pb' : 0 < zv b') (h : zv a * zv b' = zv a' * zv b) : val64 (FP.ddiv a b) = val64 (FP.ddiv a' b') := by
  obtain ⟨s, c, q, h1, f1⟩ := own_fin ha
  obtain ⟨t, d, r, h2, f2⟩ := own_fin hb
  obtain ⟨s', c', q', h3, f3⟩ := own_fin ha'
  obtain ⟨t', d', r', h4, f4⟩ := own_fin hb'
  have d1 := zero_of h2 (by omega)
  have d2 := zero_of h4 (by omega)
  rw [ddiv_val h1 h2 d1, ddiv_val h3 h4 d2]
  rw [zv_mag h1] at pa h
  rw [zv_mag h2] at pb h
  rw [zv_mag h3] at pa' h
  rw [zv_mag h4] at pb' h
  have sg : ∀ (u : Bool) (x : Nat), 0 < signed u x → u = false := fun u x hp => by cases u <;> simp [signed] at hp ⊢; omega
  obtain rfl := sg _ _ pa
  obtain rfl := sg _ _ pb
  obtain rfl := sg _ _ pa'
  obtain rfl := sg _ _ pb'
  have g1 := f1.2.1
  have g2 := f2.2.1
  have g3 := f3.2.1
  have g4 := f4.2.1
  refine roundRatio_congr (Nat.pos_of_ne_zero d1) (Nat.pos_of_ne_zero d2) ?_
  have h' : inUnits c q b64.qmin * inUnits d' r' b64.qmin = inUnits c' q' b64.qmin * inUnits d r b64.qmin := by
    have : ((inUnits c q b64.qmin * inUnits d' r' b64.qmin : Nat) : Int) = ((inUnits c' q' b64.qmin * inUnits d r b64.qmin : Nat) : Int) := by rw [Int.natCast_mul, Int.natCast_mul]; exact h
    exact Int.ofNat.inj this
  unfold inUnits at h'
  have k1 : c * 2 ^ (q - b64.qmin).toNat * (d' * 2 ^ (r' - b64.qmin).toNat) = c * d' * 2 ^ ((q - b64.qmin).toNat + (r' - b64.qmin).toNat) := by rw [Nat.pow_add, Nat.mul_mul_mul_comm]
  have k2 : c' * 2 ^ (q' - b64.qmin).toNat * (d * 2 ^ (r - b64.qmin).toNat) = c' * d * 2 ^ ((q' - b64.qmin).toNat + (r - b64.qmin).toNat) := by rw [Nat.pow_add, Nat.mul_mul_mul_comm]
  rw [k1, k2] at h'
  rcases Int.le_total (q' - r') (q - r) with hl | hl
  · have e1 : (q - b64.qmin).toNat + (r' - b64.qmin).toNat = (q - r - (q' - r')).toNat + ((q' - b64.qmin).toNat + (r - b64.qmin).toNat) := by omega
    rw [e1, Nat.pow_add, ← Nat.mul_assoc] at h'
    rw [show (q' - r' - (q - r)).toNat = 0 by omega, Nat.pow_zero, Nat.mul_one]
    exact Nat.eq_of_mul_eq_mul_right (Nat.two_pow_pos _) h'
  · have e1 : (q' - b64.qmin).toNat + (r - b64.qmin).toNat = (q' - r' - (q - r)).toNat + ((q - b64.qmin).toNat + (r' - b64.qmin).toNat) := by omega
    rw [e1, Nat.pow_add 2 (q' - r' - (q - r)).toNat, ← Nat.mul_assoc (c' * d)] at h'
    rw [show (q - r - (q' - r')).toNat = 0 by omega, Nat.pow_zero, Nat.mul_one]
    exact Nat.eq_of_mul_eq_mul_right (Nat.two_pow_pos _) h'
theorem own_same {x y : UInt64} (h : val64 x = val64 y) (hn : val64 x ≠ .nan) (o : Jvm.ClassFile.CmpOp) : Jvm.Op.cmpValue (FP.dcmp x y) o = 0 := by
  have e : FP.dcmp x y = some .eq := by
    show order (val64 x) (val64 y) = _
    rw [← h]; exact order_self hn
  rw [e]; cases o <;> rfl
theorem own_t0 {te t0 : Int32} (h : te &&& (31 : Int32) = t0) : ∃ k : Fin 32, t0 = Int32.ofNat k.val := by
  have e := Jvm.Kit.i32_mask te 31 (k := 5) (by decide) (by decide)
  rw [h] at e
  have hk : (t0.toInt.toNat) < 32 := by omega
  refine ⟨⟨t0.toInt.toNat, hk⟩, ?_⟩
  apply Int32.toInt_inj.mp
  rw [Int32.toInt_ofNat_small (by show t0.toInt.toNat < _; omega)]
  show _ = ((t0.toInt.toNat : Nat) : Int)
  omega
theorem own_shl : ∀ k : Fin 32, ((1 : Int64) <<< ((Int32.ofNat k.val) &&& 0x3f).toInt64).toInt = ((2 ^ k.val : Nat) : Int) := by decide
/-- (double) (1L << e), e below 32 -/
theorem own_pow {te t0 : Int32} {sc : UInt64} (h : te &&& (31 : Int32) = t0) (hs : FP.l2d ((1 : Int64) <<< (t0 &&& 0x3f).toInt64) = sc) : ∃ k : Nat, k < 32 ∧ Rv sc ((2 ^ k : Nat) : Int) 1 := by
  obtain ⟨k, hk⟩ := own_t0 h
  have e : ((1 : Int64) <<< (t0 &&& 0x3f).toInt64).toInt = ((2 ^ k.val : Nat) : Int) := by rw [hk]; exact own_shl k
  have hp : 2 ^ k.val ≤ 2 ^ 31 := Nat.pow_le_pow_right (by decide) (by have := k.isLt; omega)
  have := rv_l2d (n := (1 : Int64) <<< (t0 &&& 0x3f).toInt64) (by rw [e, Int.natAbs_natCast]; exact Nat.le_trans hp (by decide))
  rw [e, hs] at this
  exact ⟨k.val, k.isLt, this⟩
end Jvm.Own
namespace Jvm.Own
open Jvm Jvm.ClassFile Sem Op Lib Jvm.Free Jvm.Stand Jvm.LawKit Jvm.RoadKit
section Arr1
variable {p : Program} {l : Launch} {e : Env} {R : Room} {s : State} {m : MethodId} {args : Array Value} {below : List Frame} {meth : Method} {c : Code} {T : State} {locs : List Loc} {cells slots : Nat} {P : Outcome → State → Prop} {code : ByteArray} {pc pc' : Nat} {Ls Ls' : Array Slot} {st st' : List Value} {Q : Option Value → Heap → List Loc → Prop} {rm : Room} {h : Heap} {Z : State} {a0 : Array Value} {own : String} {a : Addr}
theorem g_dupx1 (X : Stand p l e R s m args below meth c T locs cells slots) (hx : p.tables.exec = Jvm.exec) (hby : c.code = code) {x y : Value} (hd : decode code pc = .ok (.dup_x1, 1)) (hst : st = x :: y :: st') (hc : x.category = 1) (hc2 : y.category = 1) (hp : pc + 1 = pc') (g : Gf p e below P T m pc' Ls (x :: y :: x :: st')) : Gf p e below P T m pc Ls st := by
  subst hp hst
  exact Go.step (fun t k => XS.dupX1 X.here hx rfl (hb hby hd) rfl hc hc2 k) g
theorem g_newR (X : Stand p l e R s m args below meth c T locs cells slots) (hx : p.tables.exec = Jvm.exec) (hby : c.code = code) (hZ : Z.Warmed39 s.vm) (hown : s.vm.findClass own = some m.cls) {C ad : String} {i cap : Nat} {n : Int32} (w1 : (Cond.classLink own i C).before a0 Z = true) (w2 : (Cond.arrayOver (.object C)).before a0 Z = true) (eT : T.heap = h) (hst : st = .int n :: st') (hn : ¬ n < 0) (hcap : n.toNatClampNeg ≤ cap) (hb8 : cap * 8 ≤ 536870912)
    (hc : cells + 1 ≤ R.cells) (hl : slots + cap ≤ R.slots) (had : "[" ++ (FieldType.object C).toString = ad) (hd : decode code pc = .ok (.anewarray i, 3)) (hp : pc + 3 = pc') (k : Nat)
    (g : ∀ (T' : State) (h' : Heap) (cA : ClassId) (a : Addr), Stand p l e R s m args below meth c T' locs (cells + 1) (slots + cap) → T'.heap = h' → Ext h h' → Arv Z h' a cA (.object C) n ([] ++ List.replicate k (defaultValue (.object C))) (defaultValue (.object C)) → Exa Z h' a ad → Ovr Z cA C → a = h.size → Gf p e below P T' m pc' Ls (.ref a :: st')) : Gf p e below P T m pc Ls st := by
  subst hp hst
  obtain ⟨T', h', cA, X', e', E', A', B', O', k'⟩ := Jvm.RoadKit.newRE X hx hZ hown w1 w2 eT (g := mkF m pc Ls _) rfl (hb hby hd) rfl hn hcap hb8 hc hl had
  exact Go.step k' (g T' h' cA h.size X' e' E' ((Arv.new A' hn).pad (pad_rep [] _ k)) B' O' rfl)
theorem g_stR (X : Stand p l e R s m args below meth c T locs cells slots) (hx : p.tables.exec = Jvm.exec) (hby : c.code = code) (hZ : Z.Warmed39 s.vm) {cA : ClassId} {n j : Int32} {v : Addr} {C : String} {vs : List Value} {dv : Value} (eT : T.heap = h) (V : Arv Z h a cA (.object C) n vs dv) (O : Ovr Z cA C) (I : Ins Z h v C true) (hj : ¬ j < 0 ∧ j < n) (i : Nat) (hi : j.toNatClampNeg = i) (hl : i < vs.length) (hst : st = .ref v :: .int j :: .ref a :: st') (hd : decode code pc = .ok (.aastore, 1)) (hp : pc + 1 = pc') {k0 : Nat} (N : Fr k0 locs) (q : k0 ≤ a)
    (g : ∀ (T' : State) (h' : Heap), Stand p l e R s m args below meth c T' (locs ++ [⟨a, j.toNatClampNeg⟩]) cells slots → T'.heap = h' → Wr h h' a j.toNatClampNeg (.ref v) → Fr k0 (locs ++ [⟨a, j.toNatClampNeg⟩]) → Arv Z h' a cA (.object C) n (vs.set i (.ref v)) dv → Gf p e below P T' m pc' Ls st') : Gf p e below P T m pc Ls st := by
  subst hp hst
  obtain ⟨c1, A1, q1, S1, M1, H1, U1⟩ := id V
  obtain ⟨T', h', X', e', W', k'⟩ := Jvm.RoadKit.stR X hx hZ eT A1 (inb_of S1 hj) rfl (Sto.ofV A1 q1 O I) (g := mkF m pc Ls _) rfl rfl (hb hby hd)
  exact Go.step k' (g T' h' X' e' W' (Fr.snoc X' N q) (Arv.set A1 q1 S1 M1 H1 U1 rfl W' i hi hl))
theorem g_ldR (X : Stand p l e R s m args below meth c T locs cells slots) (hx : p.tables.exec = Jvm.exec) (hby : c.code = code) (hZ : Z.Warmed39 s.vm) {cA : ClassId} {n j : Int32} {C : String} {v : Value} {vs : List Value} {dv : Value} (eT : T.heap = h) (V : Arv Z h a cA (.object C) n vs dv) (hj : ¬ j < 0 ∧ j < n) (hv : vs.getD j.toNatClampNeg dv = v) (hst : st = .int j :: .ref a :: st') (hd : decode code pc = .ok (.aaload, 1)) (hp : pc + 1 = pc')
    (g : Gf p e below P T m pc' Ls (v :: st')) : Gf p e below P T m pc Ls st := by
  subst hp hst
  obtain ⟨c1, A1, q1, S1, M1, H1, U1⟩ := id V
  have hj' := inb_of S1 hj
  exact Go.step (fun t k => X.aaload hx (a := a) (cell := c1) (j := j) (v := v) (ty := .object C) (by rw [eT]; exact A1.1) (State.isArrayOf_alike hZ.alike A1.2.1) rfl A1.2.2 hj' (Has.at H1 hj' hv) (g := mkF m pc Ls _) rfl rfl (hb hby hd) t k) g
theorem g_len (X : Stand p l e R s m args below meth c T locs cells slots) (hx : p.tables.exec = Jvm.exec) (hby : c.code = code) (hZ : Z.Warmed39 s.vm) {cA : ClassId} {n : Int32} {ty : FieldType} {vs : List Value} {dv : Value} (eT : T.heap = h) (V : Arv Z h a cA ty n vs dv) (hst : st = .ref a :: st') (hd : decode code pc = .ok (.arraylength, 1)) (hp : pc + 1 = pc')
    (g : Gf p e below P T m pc' Ls (.int n :: st')) : Gf p e below P T m pc Ls st := by
  subst hp hst
  obtain ⟨c1, A1, q1, S1, M1, H1, U1⟩ := id V
  have en := len_of S1 M1
  subst en
  exact Go.step (fun t k => X.arraylength hx (a := a) (cell := c1) (by rw [eT]; exact A1.1) (State.isArrayOf_alike hZ.alike A1.2.1) (g := mkF m pc Ls _) rfl rfl (hb hby hd) t k) g
theorem g_cast (X : Stand p l e R s m args below meth c T locs cells slots) (hx : p.tables.exec = Jvm.exec) (hby : c.code = code) (hZ : Z.Warmed39 s.vm) (hown : s.vm.findClass own = some m.cls) {K : String} {i : Nat} (w : (Cond.classLink own i K).before a0 Z = true) (eT : T.heap = h) (I : Ins Z h a K true) (hst : st = .ref a :: st') (hd : decode code pc = .ok (.checkcast i, 3)) (hp : pc + 3 = pc')
    (g : ∀ (T' : State), Stand p l e R s m args below meth c T' locs cells slots → T'.heap = h → Gf p e below P T' m pc' Ls (.ref a :: st')) : Gf p e below P T m pc Ls st := by
  subst hp hst
  obtain ⟨T', X', e', k⟩ := Jvm.RoadKit.castY X hx hZ hown w eT I (g := mkF m pc Ls _) rfl rfl (hb hby hd)
  exact Go.step k (g T' X' e')
theorem g_face (X : Stand p l e R s m args below meth c T locs cells slots) (hx : p.tables.exec = Jvm.exec) (hby : c.code = code) (hml : Ls.size = c.maxLocals) (hZ : Z.Warmed39 s.vm) (hown : s.vm.findClass own = some m.cls) {i cnt : Nat} {xi y : MethodName} {bytes : ByteArray} {maxL W : Nat} {ret : Option FieldType} {ps : List FieldType} {argsL : List Value} {C : String} (eT : T.heap = h)
    (hM : Con l Z y bytes maxL ret [] rm (.ref a :: argsL).toArray h Q) (w1 : (Cond.methodLink own i xi).before a0 Z = true) (wd : (Cond.declares xi).before a0 Z = true) (wf : (Cond.interfaceMethod xi.cls xi.cls xi.name xi.desc).before a0 Z = true) (hfa : ((Cond.interfaceMethod xi.cls xi.cls xi.name xi.desc).onTables && (Cond.interfaceMethod xi.cls xi.cls xi.name xi.desc).keepsFace) = true) (ws : (Cond.selects C xi y).before a0 Z = true) (w2 : (Cond.instanceMethod y).before a0 Z = true) (wp : (Cond.publicMethod y).before a0 Z = true) (wu : (Cond.unhidden C xi.name xi.desc).before a0 Z = true) (wc : (Cond.castable C xi.cls).before a0 Z = true) (w3 : (Cond.initialized y.cls).before a0 Z = true) (w4 : (Cond.code y bytes maxL ret).before a0 Z = true) (hy : xi.cls ≠ "java/lang/invoke/MethodHandle" ∧ xi.cls ≠ "java/lang/invoke/VarHandle") (E : Exa Z h a C)
    (hpd : parseMethodDescriptor xi.desc = some ⟨ps, ret⟩) (hlen : argsL.length = ps.length) (hst : st = argsL.reverse ++ .ref a :: st') (hW : 2 * 0 + (st'.map fun v => v.category).sum = W) (hf : rm.frames + 1 ≤ R.frames) (hl : W + (maxL + 11) + rm.locals ≤ R.locals) (hc : cells + rm.cells ≤ R.cells) (hs : slots + rm.slots ≤ R.slots)
    (hd : decode code pc = .ok (.invokeinterface i cnt, 5)) (hp : pc + 5 = pc')
    (g : ∀ (T' : State) (v : Option Value) (L : List Loc), Stand p l e R s m args below meth c T' (locs ++ L) (cells + rm.cells) (slots + rm.slots) → Q v T'.heap L → Gf p e below P T' m pc' Ls (v.toList ++ st')) : Gf p e below P T m pc Ls st := by
  subst hp hst
  obtain ⟨cq, kq, qa, qb, qc⟩ := isOf hZ eT E
  obtain ⟨v, _, ⟨T', L', k', n'⟩, -, X', ⟨Lc, hQ, hl', hy', hz'⟩, k⟩ := X.interfaceBack hx (xi := xi) (y := y) hown (mvT hZ w1) (mvT hZ wd) (mvT hZ wf hfa) (mvT hZ ws) (mvT hZ w2) (mvT hZ wp) (mvT hZ wu) (mvT hZ wc) hy (backOf (W := W) hM hZ w4 w3 hf hl) qa qb qc (g := mkF m pc Ls _) rfl hml (Steps.refl _) (argsL := argsL) (rest := st') (lenOf hpd hlen) rfl (Nat.le_of_eq hW) (hb hby hd) (fun _ _ => ⟨rfl, eT, hc, hs⟩)
  dsimp only [Pt.U, Pt.locs, Pt.cells, Pt.slots] at X' hl' hy' hz' k hQ
  subst hl' hy' hz'
  exact Go.step (fun t k2 => k.trans k2) (g T' v Lc X' hQ)
theorem g_priv (X : Stand p l e R s m args below meth c T locs cells slots) (hx : p.tables.exec = Jvm.exec) (hby : c.code = code) (hml : Ls.size = c.maxLocals) (hZ : Z.Warmed39 s.vm) (hown : s.vm.findClass own = some m.cls) {i : Nat} {y : MethodName} {bytes : ByteArray} {maxL W : Nat} {ret : Option FieldType} {ps : List FieldType} {argsL : List Value} {C : String} (eT : T.heap = h)
    (hM : Con l Z y bytes maxL ret [] rm (.ref a :: argsL).toArray h Q) (w1 : (Cond.methodLink own i y).before a0 Z = true) (wp : (Cond.privateMethod y).before a0 Z = true) (ws : (Cond.selects y.cls y y).before a0 Z = true) (w2 : (Cond.instanceMethod y).before a0 Z = true) (w3 : (Cond.initialized y.cls).before a0 Z = true) (w4 : (Cond.code y bytes maxL ret).before a0 Z = true) (hy : y.cls ≠ "java/lang/invoke/MethodHandle" ∧ y.cls ≠ "java/lang/invoke/VarHandle") (E : Exa Z h a C)
    (hpd : parseMethodDescriptor y.desc = some ⟨ps, ret⟩) (hlen : argsL.length = ps.length) (hst : st = argsL.reverse ++ .ref a :: st') (hW : 2 * 0 + (st'.map fun v => v.category).sum = W) (hf : rm.frames + 1 ≤ R.frames) (hl : W + (maxL + 11) + rm.locals ≤ R.locals) (hc : cells + rm.cells ≤ R.cells) (hs : slots + rm.slots ≤ R.slots)
    (hd : decode code pc = .ok (.invokevirtual i, 3)) (hp : pc + 3 = pc')
    (g : ∀ (T' : State) (v : Option Value) (L : List Loc), Stand p l e R s m args below meth c T' (locs ++ L) (cells + rm.cells) (slots + rm.slots) → Q v T'.heap L → Gf p e below P T' m pc' Ls (v.toList ++ st')) : Gf p e below P T m pc Ls st := by
  subst hp hst
  obtain ⟨cell, kq, x1, x2, x3, x4, x5⟩ := id E
  obtain ⟨v, _, ⟨T', L', k', n'⟩, -, X', ⟨Lc, hQ, hl', hy', hz'⟩, k⟩ := X.privateBack hx (y := y) hown (mvT hZ w1) (mvT hZ w2) (mvT hZ ws) (Cond.privateMethod_at (mvT (args := #[]) hZ wp)) (mvT hZ w4) hy (backOf (W := W) hM hZ w4 w3 hf hl) (g := mkF m pc Ls _) rfl hml (Steps.refl _) (a := a) (cell := cell) (by rw [eT]; exact x1) (fun q z => by rw [z] at x4; cases x4) (argsL := argsL) (rest := st') (lenOf hpd hlen) rfl (Nat.le_of_eq hW) (hb hby hd) (fun _ _ => ⟨rfl, eT, hc, hs⟩)
  dsimp only [Pt.U, Pt.locs, Pt.cells, Pt.slots] at X' hl' hy' hz' k hQ
  subst hl' hy' hz'
  exact Go.step (fun t k2 => k.trans k2) (g T' v Lc X' hQ)
/-- an empty array of the start -/
theorem own_arr0 {t : Term} {x : Addr} {args : Array Value} {ty : FieldType} {dv : Value} (hf : Fit Z) (ev : t.eval args Z none [] Z = some (.ref x)) (h1 : (Cond.arrayOf t ty).value args Z none Z [] = some true) (h2 : (Cond.eq (.length t) (.int 0)).value args Z none Z [] = some true) : ∃ k, Arv Z Z.heap x k ty 0 [] dv := by
  obtain ⟨cl, A⟩ := Arr.start ev h1
  have e := eqv_i (Term.int_eval (0)) h2
  obtain ⟨y, c2, e2, e3, e4⟩ := Term.length_spec e
  have hq : x = y := by cases ev.symm.trans e2; rfl
  subst hq
  have e5 := (State.arrayAt?_spec e3).1
  cases A.1.symm.trans e5
  exact ⟨_, Arv.start hf A (SBG.length_lt ev e3 e) (Value.int.inj e4).symm (by decide) rfl trivial⟩
end Arr1
end Jvm.Own
namespace Jvm.Pilot.@@N@@
open Jvm Jvm.ClassFile Sem Op Lib Jvm.Free Jvm.Stand Jvm.LawKit Jvm.RoadKit Bundle Jvm.Own Jvm.Pilot.@@N@@.Jvm.D
theorem own_pd0 : parseMethodDescriptor "()V" = some ⟨[], none⟩ := by decide +kernel
theorem own_fd0 : parseFieldDescriptor "D" = some .double := by decide +kernel
theorem own_nes0 : ("counts" : String) ≠ "value" := by decide +kernel
theorem own_nes1 : ("popular" : String) ≠ "value" := by decide +kernel
theorem own_fd1 : parseFieldDescriptor "Z" = some .boolean := by decide +kernel
theorem own_nes2 : ("spreadFrom" : String) ≠ "value" := by decide +kernel
theorem own_nes3 : ("value" : String) ≠ "counts" := by decide +kernel
theorem own_nes4 : ("popular" : String) ≠ "counts" := by decide +kernel
theorem own_nes5 : ("spreadFrom" : String) ≠ "counts" := by decide +kernel
theorem own_nes6 : ("value" : String) ≠ "popular" := by decide +kernel
theorem own_nes7 : ("counts" : String) ≠ "popular" := by decide +kernel
theorem own_nes8 : ("spreadFrom" : String) ≠ "popular" := by decide +kernel
theorem own_nes9 : ("value" : String) ≠ "spreadFrom" := by decide +kernel
theorem own_nes10 : ("counts" : String) ≠ "spreadFrom" := by decide +kernel
theorem own_nes11 : ("popular" : String) ≠ "spreadFrom" := by decide +kernel
theorem own_nes12 : ("left" : String) ≠ "value" := by decide +kernel
theorem own_fd2 : parseFieldDescriptor "Lcom/example/rowcast/rowcast/Histogram$CountedEndpoint;" = some (.object "com/example/rowcast/rowcast/Histogram$CountedEndpoint") := by decide +kernel
theorem own_nes13 : ("right" : String) ≠ "value" := by decide +kernel
theorem own_nes14 : ("value" : String) ≠ "left" := by decide +kernel
theorem own_nes15 : ("right" : String) ≠ "left" := by decide +kernel
theorem own_nes16 : ("value" : String) ≠ "right" := by decide +kernel
theorem own_nes17 : ("left" : String) ≠ "right" := by decide +kernel
theorem own_fd3 : parseFieldDescriptor "I" = some .int := by decide +kernel
theorem own_nes18 : ("elementData" : String) ≠ "modCount" := by decide +kernel
theorem own_fd4 : parseFieldDescriptor "[Ljava/lang/Object;" = some (.array (.object "java/lang/Object")) := by decide +kernel
theorem own_nes19 : ("size" : String) ≠ "modCount" := by decide +kernel
theorem own_nes20 : ("modCount" : String) ≠ "elementData" := by decide +kernel
theorem own_nes21 : ("size" : String) ≠ "elementData" := by decide +kernel
theorem own_pd1 : parseMethodDescriptor "(II)I" = some ⟨[.int, .int], some .int⟩ := by decide +kernel
theorem own_pd2 : parseMethodDescriptor "(I)[Ljava/lang/Object;" = some ⟨[.int], some (.array (.object "java/lang/Object"))⟩ := by decide +kernel
theorem own_pd3 : parseMethodDescriptor "()[Ljava/lang/Object;" = some ⟨[], some (.array (.object "java/lang/Object"))⟩ := by decide +kernel
theorem own_nes22 : ("modCount" : String) ≠ "size" := by decide +kernel
theorem own_nes23 : ("elementData" : String) ≠ "size" := by decide +kernel
theorem own_pd4 : parseMethodDescriptor "(Ljava/lang/Object;[Ljava/lang/Object;I)V" = some ⟨[(.object "java/lang/Object"), (.array (.object "java/lang/Object")), .int], none⟩ := by decide +kernel
theorem own_pd5 : parseMethodDescriptor "(IILjava/util/function/BiFunction;)I" = some ⟨[.int, .int, (.object "java/util/function/BiFunction")], some .int⟩ := by decide +kernel
theorem own_pd6 : parseMethodDescriptor "(I)Ljava/lang/Object;" = some ⟨[.int], some (.object "java/lang/Object")⟩ := by decide +kernel
theorem own_pd7 : parseMethodDescriptor "()I" = some ⟨[], some .int⟩ := by decide +kernel
theorem own_pd8 : parseMethodDescriptor "(I)V" = some ⟨[.int], none⟩ := by decide +kernel
theorem own_pd9 : parseMethodDescriptor "()D" = some ⟨[], some .double⟩ := by decide +kernel
theorem own_pd10 : parseMethodDescriptor "(DLcom/example/rowcast/rowcast/Histogram$CountedEndpoint;Lcom/example/rowcast/rowcast/Histogram$CountedEndpoint;)V" = some ⟨[.double, (.object "com/example/rowcast/rowcast/Histogram$CountedEndpoint"), (.object "com/example/rowcast/rowcast/Histogram$CountedEndpoint")], none⟩ := by decide +kernel
theorem own_pd11 : parseMethodDescriptor "(Ljava/lang/Object;)Z" = some ⟨[(.object "java/lang/Object")], some .boolean⟩ := by decide +kernel
theorem own_pd12 : parseMethodDescriptor "(DDZD)V" = some ⟨[.double, .double, .boolean, .double], none⟩ := by decide +kernel
theorem own_pd13 : parseMethodDescriptor "(Ljava/util/List;Ljava/util/List;)Ljava/util/List;" = some ⟨[(.object "java/util/List"), (.object "java/util/List")], some (.object "java/util/List")⟩ := by decide +kernel
theorem own_pd14 : parseMethodDescriptor "()Z" = some ⟨[], some .boolean⟩ := by decide +kernel
theorem own_pn0 : plainName "java/lang/Record" = true := by first | (simp [plainName, overriddenIn]; done) | decide +kernel
theorem own_pn1 : plainName "com/example/rowcast/rowcast/Histogram$CountedEndpoint" = true := by first | (simp [plainName, overriddenIn]; done) | decide +kernel
theorem own_pn2 : plainName "com/example/rowcast/rowcast/JoinValue" = true := by first | (simp [plainName, overriddenIn]; done) | decide +kernel
theorem own_pn3 : plainName "java/util/AbstractCollection" = true := by first | (simp [plainName, overriddenIn]; done) | decide +kernel
theorem own_pn4 : plainName "java/util/AbstractList" = true := by first | (simp [plainName, overriddenIn]; done) | decide +kernel
theorem own_pn5 : plainName "java/util/ArrayList" = true := by first | (simp [plainName, overriddenIn]; done) | decide +kernel
theorem own_pn6 : plainFor (⟨"java/lang/Math", "max", "(II)I"⟩ : MethodName) = true := by decide +kernel
theorem own_pn7 : plainName "jdk/internal/util/Preconditions" = true := by first | (simp [plainName, overriddenIn]; done) | decide +kernel
theorem own_pn8 : plainName "java/util/Objects" = true := by first | (simp [plainName, overriddenIn]; done) | decide +kernel
theorem own_pn9 : plainName "com/example/rowcast/rowcast/JoinValueMatchingPinLaw" = true := by first | (simp [plainName, overriddenIn]; done) | decide +kernel
theorem own_d2_0 : decode jdk_30_method_1_code 0 = .ok (.aload_n 0, 1) := by decide +kernel
theorem own_d2_1 : decode jdk_30_method_1_code 1 = .ok (.invokespecial 1, 3) := by decide +kernel
theorem own_d2_4 : decode jdk_30_method_1_code 4 = .ok (.return_, 1) := by decide +kernel
def own_Q2 (Z : State) (a : Addr) (h0 : Heap) (n0 : Nat) (v : Option Value) (h : Heap) (L : List Loc) : Prop := v = none ∧ Fr n0 L ∧ h = h0
set_option maxRecDepth 65536 in
set_option maxHeartbeats 40000000 in
theorem own_rm2 (l : Launch) (Z : State) (a0 : Array Value) (hw : ∀ d ∈ tables_1, d.before a0 Z = true) (ws : List Jvm.Cond) (a : Addr) (h0 : Heap) (n0 : Nat) (Z0 : n0 ≤ h0.size) :
    Con l Z (⟨"java/lang/Record", "<init>", "()V"⟩ : MethodName) jdk_30_method_1_code 1 none ws ({ frames := 1, cells := 0, slots := 0, locals := 12 } : Room) #[(.ref a)] h0 (own_Q2 Z a h0 n0) := by
  refine Con.start #[.val (.ref a)] (plainFor_of_name own_pn0) (fun m => by first | (refine own_ef ?_; exact rfl) | (simp [entryFrame, mkF, argsToLocals, Value.category]; done) | rfl) ?_
  intro p e s m below meth c s₁ P X0 hx hby hml hret hlk hown hnm hZ e0 hf
  have hml : c.maxLocals = 1 := hml
  have N0 := Fr.nil n0
  refine g_aloadN (pc' := 1) X0 hx hby (v := (.ref a)) own_d2_0 rfl rfl rfl ?_
  refine g_initO (pc' := 4) X0 hx hby hZ hown (hw _ (List.mem_of_getElem? (i := 11) rfl)) (hw _ (List.mem_of_getElem? (i := 12) rfl)) (hw _ (List.mem_of_getElem? (i := 13) rfl)) e0 (by rw [hml]; rfl) rfl own_d2_1 rfl (by decide) (W := 0) rfl (by decide) ?_
  intro T1 X1 e1
  exact g_ret X1 hx hby hf hlk hret own_d2_4 rfl (by decide) (by decide) e1 ⟨rfl, N0, rfl⟩
theorem own_d1_0 : decode prog_19_method_1_code 0 = .ok (.aload_n 0, 1) := by decide +kernel
theorem own_d1_1 : decode prog_19_method_1_code 1 = .ok (.invokespecial 1, 3) := by decide +kernel
theorem own_d1_4 : decode prog_19_method_1_code 4 = .ok (.aload_n 0, 1) := by decide +kernel
theorem own_d1_5 : decode prog_19_method_1_code 5 = .ok (.dload_n 1, 1) := by decide +kernel
theorem own_d1_6 : decode prog_19_method_1_code 6 = .ok (.putfield 7, 3) := by decide +kernel
theorem own_d1_9 : decode prog_19_method_1_code 9 = .ok (.aload_n 0, 1) := by decide +kernel
theorem own_d1_10 : decode prog_19_method_1_code 10 = .ok (.dload_n 3, 1) := by decide +kernel
theorem own_d1_11 : decode prog_19_method_1_code 11 = .ok (.putfield 13, 3) := by decide +kernel
theorem own_d1_14 : decode prog_19_method_1_code 14 = .ok (.aload_n 0, 1) := by decide +kernel
theorem own_d1_15 : decode prog_19_method_1_code 15 = .ok (.iload 5, 2) := by decide +kernel
theorem own_d1_17 : decode prog_19_method_1_code 17 = .ok (.putfield 16, 3) := by decide +kernel
theorem own_d1_20 : decode prog_19_method_1_code 20 = .ok (.aload_n 0, 1) := by decide +kernel
theorem own_d1_21 : decode prog_19_method_1_code 21 = .ok (.dload 6, 2) := by decide +kernel
theorem own_d1_23 : decode prog_19_method_1_code 23 = .ok (.putfield 20, 3) := by decide +kernel
theorem own_d1_26 : decode prog_19_method_1_code 26 = .ok (.return_, 1) := by decide +kernel
def own_Q1 (Z : State) (a : Addr) (va : UInt64) (co : UInt64) (po : Int32) (sp : UInt64) (h0 : Heap) (n0 : Nat) (v : Option Value) (h : Heap) (L : List Loc) : Prop := v = none ∧ Fr n0 L ∧ Keep h0 h [a] ∧ Exa Z h a "com/example/rowcast/rowcast/Histogram$CountedEndpoint" ∧ Fld Z h a "com/example/rowcast/rowcast/Histogram$CountedEndpoint" "value" "D" (.double va)
set_option maxRecDepth 65536 in
set_option maxHeartbeats 40000000 in
theorem own_rm1 (l : Launch) (Z : State) (a0 : Array Value) (hw : ∀ d ∈ tables_1, d.before a0 Z = true) (ws : List Jvm.Cond) (a : Addr) (va : UInt64) (co : UInt64) (po : Int32) (sp : UInt64) (h0 : Heap) (n0 : Nat) (Z0 : n0 ≤ h0.size) (c0 : Exa Z h0 a "com/example/rowcast/rowcast/Histogram$CountedEndpoint") (c1 : Fld Z h0 a "com/example/rowcast/rowcast/Histogram$CountedEndpoint" "value" "D" (.double (0 : UInt64))) (c2 : Fld Z h0 a "com/example/rowcast/rowcast/Histogram$CountedEndpoint" "counts" "D" (.double (0 : UInt64))) (c3 : Fld Z h0 a "com/example/rowcast/rowcast/Histogram$CountedEndpoint" "popular" "Z" (.int (0 : Int32))) (c4 : Fld Z h0 a "com/example/rowcast/rowcast/Histogram$CountedEndpoint" "spreadFrom" "D" (.double (0 : UInt64))) (c5 : n0 ≤ a) (u1 : po = 0 ∨ po = 1) :
    Con l Z (⟨"com/example/rowcast/rowcast/Histogram$CountedEndpoint", "<init>", "(DDZD)V"⟩ : MethodName) prog_19_method_1_code 8 none ws ({ frames := 2, cells := 0, slots := 0, locals := 24 } : Room) #[(.ref a), (.double va), (.double co), (.int po), (.double sp)] h0 (own_Q1 Z a va co po sp h0 n0) := by
  refine Con.start #[.val (.ref a), .val (.double va), .second, .val (.double co), .second, .val (.int po), .val (.double sp), .second] (plainFor_of_name own_pn1) (fun m => by first | (refine own_ef ?_; exact rfl) | (simp [entryFrame, mkF, argsToLocals, Value.category]; done) | rfl) ?_
  intro p e s m below meth c s₁ P X0 hx hby hml hret hlk hown hnm hZ e0 hf
  have hml : c.maxLocals = 8 := hml
  have N0 := Fr.nil n0
  have K0 : Keep h0 h0 [a] := Keep.refl _ _
  refine g_aloadN (pc' := 1) X0 hx hby (v := (.ref a)) own_d1_0 rfl rfl rfl ?_
  refine g_init (argsL := []) (pc' := 4) X0 hx hby (by rw [hml]; rfl) hZ hown rfl e0 (own_rm2 l Z a0 hw [] a  h0 n0 Z0) (hw _ (List.mem_of_getElem? (i := 6) rfl)) (hw _ (List.mem_of_getElem? (i := 7) rfl)) (hw _ (List.mem_of_getElem? (i := 9) rfl)) (hw _ (List.mem_of_getElem? (i := 10) rfl)) (by decide) own_pd0 rfl rfl (W := 0) rfl (by decide) (by decide) (by decide) (by decide) own_d1_1 rfl ?_
  intro T1 v1 L1 X1 qq1
  obtain ⟨rfl, n1, e1⟩ := qq1
  have N1 := Fr.app N0 n1
  show Gf p e below P T1 m 4 #[.val (.ref a), .val (.double va), .second, .val (.double co), .second, .val (.int po), .val (.double sp), .second] []
  refine g_aloadN (pc' := 5) X1 hx hby (v := (.ref a)) own_d1_4 rfl rfl rfl ?_
  refine g_dloadN (pc' := 6) X1 hx hby (v := va) own_d1_5 rfl rfl ?_
  refine g_putF (pc' := 9) X1 hx hby hZ hown (host := "") (Or.inl (hw _ (List.mem_of_getElem? (i := 14) rfl))) Via.refl e1 c1 c0 (Or.inr ⟨(hw _ (List.mem_of_getElem? (i := 15) rfl)), rfl, hnm⟩) (hw _ (List.mem_of_getElem? (i := 1) rfl)) (ty := .double) own_fd0 rfl rfl rfl own_d1_6 rfl N1 c5 ?_
  intro T2 h2 X2 e2 W2 N2
  have f3 := c0.wr W2
  have f4 := c1.same W2
  have f5 := c2.other W2 (Or.inr (slot_ne (Or.inr (hw _ (List.mem_of_getElem? (i := 17) rfl))) (Or.inr (hw _ (List.mem_of_getElem? (i := 15) rfl))) own_nes0 own_fd0 own_fd0))
  have f6 := c3.other W2 (Or.inr (slot_ne (Or.inr (hw _ (List.mem_of_getElem? (i := 19) rfl))) (Or.inr (hw _ (List.mem_of_getElem? (i := 15) rfl))) own_nes1 own_fd1 own_fd0))
  have f7 := c4.other W2 (Or.inr (slot_ne (Or.inr (hw _ (List.mem_of_getElem? (i := 21) rfl))) (Or.inr (hw _ (List.mem_of_getElem? (i := 15) rfl))) own_nes2 own_fd0 own_fd0))
  have z2 := Nat.le_trans Z0 (Keep.of_wr W2).1
  have K2 := K0.wr W2 (Or.inl (List.mem_of_getElem? (i := 0) rfl))
  refine g_aloadN (pc' := 10) X2 hx hby (v := (.ref a)) own_d1_9 rfl rfl rfl ?_
  refine g_dloadN (pc' := 11) X2 hx hby (v := co) own_d1_10 rfl rfl ?_
  refine g_putF (pc' := 14) X2 hx hby hZ hown (host := "") (Or.inl (hw _ (List.mem_of_getElem? (i := 16) rfl))) Via.refl e2 f5 f3 (Or.inr ⟨(hw _ (List.mem_of_getElem? (i := 17) rfl)), rfl, hnm⟩) (hw _ (List.mem_of_getElem? (i := 1) rfl)) (ty := .double) own_fd0 rfl rfl rfl own_d1_11 rfl N2 c5 ?_
  intro T8 h8 X8 e8 W8 N8
  have f9 := f3.wr W8
  have f10 := f4.other W8 (Or.inr (slot_ne (Or.inr (hw _ (List.mem_of_getElem? (i := 15) rfl))) (Or.inr (hw _ (List.mem_of_getElem? (i := 17) rfl))) own_nes3 own_fd0 own_fd0))
  have f11 := f5.same W8
  have f12 := f6.other W8 (Or.inr (slot_ne (Or.inr (hw _ (List.mem_of_getElem? (i := 19) rfl))) (Or.inr (hw _ (List.mem_of_getElem? (i := 17) rfl))) own_nes4 own_fd1 own_fd0))
  have f13 := f7.other W8 (Or.inr (slot_ne (Or.inr (hw _ (List.mem_of_getElem? (i := 21) rfl))) (Or.inr (hw _ (List.mem_of_getElem? (i := 17) rfl))) own_nes5 own_fd0 own_fd0))
  have z8 := Nat.le_trans z2 (Keep.of_wr W8).1
  have K8 := K2.wr W8 (Or.inl (List.mem_of_getElem? (i := 0) rfl))
  refine g_aloadN (pc' := 15) X8 hx hby (v := (.ref a)) own_d1_14 rfl rfl rfl ?_
  refine g_iload (pc' := 17) X8 hx hby (v := po) own_d1_15 rfl rfl ?_
  refine g_putF (pc' := 20) X8 hx hby hZ hown (host := "") (Or.inl (hw _ (List.mem_of_getElem? (i := 18) rfl))) Via.refl e8 f12 f9 (Or.inr ⟨(hw _ (List.mem_of_getElem? (i := 19) rfl)), rfl, hnm⟩) (hw _ (List.mem_of_getElem? (i := 1) rfl)) (ty := .boolean) own_fd1 (own_narZ u1) (own_fitZ u1) rfl own_d1_17 rfl N8 c5 ?_
  intro T14 h14 X14 e14 W14 N14
  have f15 := f9.wr W14
  have f16 := f10.other W14 (Or.inr (slot_ne (Or.inr (hw _ (List.mem_of_getElem? (i := 15) rfl))) (Or.inr (hw _ (List.mem_of_getElem? (i := 19) rfl))) own_nes6 own_fd0 own_fd1))
  have f17 := f11.other W14 (Or.inr (slot_ne (Or.inr (hw _ (List.mem_of_getElem? (i := 17) rfl))) (Or.inr (hw _ (List.mem_of_getElem? (i := 19) rfl))) own_nes7 own_fd0 own_fd1))
  have f18 := f12.same W14
  have f19 := f13.other W14 (Or.inr (slot_ne (Or.inr (hw _ (List.mem_of_getElem? (i := 21) rfl))) (Or.inr (hw _ (List.mem_of_getElem? (i := 19) rfl))) own_nes8 own_fd0 own_fd1))
  have z14 := Nat.le_trans z8 (Keep.of_wr W14).1
  have K14 := K8.wr W14 (Or.inl (List.mem_of_getElem? (i := 0) rfl))
  refine g_aloadN (pc' := 21) X14 hx hby (v := (.ref a)) own_d1_20 rfl rfl rfl ?_
  refine g_dload (pc' := 23) X14 hx hby (v := sp) own_d1_21 rfl rfl ?_
  refine g_putF (pc' := 26) X14 hx hby hZ hown (host := "") (Or.inl (hw _ (List.mem_of_getElem? (i := 20) rfl))) Via.refl e14 f19 f15 (Or.inr ⟨(hw _ (List.mem_of_getElem? (i := 21) rfl)), rfl, hnm⟩) (hw _ (List.mem_of_getElem? (i := 1) rfl)) (ty := .double) own_fd0 rfl rfl rfl own_d1_23 rfl N14 c5 ?_
  intro T20 h20 X20 e20 W20 N20
  have f21 := f15.wr W20
  have f22 := f16.other W20 (Or.inr (slot_ne (Or.inr (hw _ (List.mem_of_getElem? (i := 15) rfl))) (Or.inr (hw _ (List.mem_of_getElem? (i := 21) rfl))) own_nes9 own_fd0 own_fd0))
  have f23 := f17.other W20 (Or.inr (slot_ne (Or.inr (hw _ (List.mem_of_getElem? (i := 17) rfl))) (Or.inr (hw _ (List.mem_of_getElem? (i := 21) rfl))) own_nes10 own_fd0 own_fd0))
  have f24 := f18.other W20 (Or.inr (slot_ne (Or.inr (hw _ (List.mem_of_getElem? (i := 19) rfl))) (Or.inr (hw _ (List.mem_of_getElem? (i := 21) rfl))) own_nes11 own_fd1 own_fd0))
  have f25 := f19.same W20
  have z20 := Nat.le_trans z14 (Keep.of_wr W20).1
  have K20 := K14.wr W20 (Or.inl (List.mem_of_getElem? (i := 0) rfl))
  exact g_ret X20 hx hby hf hlk hret own_d1_26 rfl (by decide) (by decide) e20 ⟨rfl, N20, K20, f21, f22⟩
theorem own_d4_0 : decode prog_32_method_1_code 0 = .ok (.aload_n 0, 1) := by decide +kernel
theorem own_d4_1 : decode prog_32_method_1_code 1 = .ok (.invokespecial 1, 3) := by decide +kernel
theorem own_d4_4 : decode prog_32_method_1_code 4 = .ok (.aload_n 0, 1) := by decide +kernel
theorem own_d4_5 : decode prog_32_method_1_code 5 = .ok (.dload_n 1, 1) := by decide +kernel
theorem own_d4_6 : decode prog_32_method_1_code 6 = .ok (.putfield 7, 3) := by decide +kernel
theorem own_d4_9 : decode prog_32_method_1_code 9 = .ok (.aload_n 0, 1) := by decide +kernel
theorem own_d4_10 : decode prog_32_method_1_code 10 = .ok (.aload_n 3, 1) := by decide +kernel
theorem own_d4_11 : decode prog_32_method_1_code 11 = .ok (.putfield 13, 3) := by decide +kernel
theorem own_d4_14 : decode prog_32_method_1_code 14 = .ok (.aload_n 0, 1) := by decide +kernel
theorem own_d4_15 : decode prog_32_method_1_code 15 = .ok (.aload 4, 2) := by decide +kernel
theorem own_d4_17 : decode prog_32_method_1_code 17 = .ok (.putfield 17, 3) := by decide +kernel
theorem own_d4_20 : decode prog_32_method_1_code 20 = .ok (.return_, 1) := by decide +kernel
def own_Q4lr (Z : State) (a : Addr) (va : UInt64) (lf : Addr) (ri : Addr) (h0 : Heap) (n0 : Nat) (v : Option Value) (h : Heap) (L : List Loc) : Prop := v = none ∧ Fr n0 L ∧ Keep h0 h [a] ∧ Exa Z h a "com/example/rowcast/rowcast/JoinValue" ∧ Fld Z h a "com/example/rowcast/rowcast/JoinValue" "left" "Lcom/example/rowcast/rowcast/Histogram$CountedEndpoint;" (.ref lf) ∧ Fld Z h a "com/example/rowcast/rowcast/JoinValue" "right" "Lcom/example/rowcast/rowcast/Histogram$CountedEndpoint;" (.ref ri)
set_option maxRecDepth 65536 in
set_option maxHeartbeats 40000000 in
theorem own_rm4lr (l : Launch) (Z : State) (a0 : Array Value) (hw : ∀ d ∈ tables_1, d.before a0 Z = true) (ws : List Jvm.Cond) (a : Addr) (va : UInt64) (lf : Addr) (ri : Addr) (h0 : Heap) (n0 : Nat) (Z0 : n0 ≤ h0.size) (c0 : Exa Z h0 a "com/example/rowcast/rowcast/JoinValue") (c1 : Fld Z h0 a "com/example/rowcast/rowcast/JoinValue" "value" "D" (.double (0 : UInt64))) (c2 : Fld Z h0 a "com/example/rowcast/rowcast/JoinValue" "left" "Lcom/example/rowcast/rowcast/Histogram$CountedEndpoint;" .null) (c3 : Fld Z h0 a "com/example/rowcast/rowcast/JoinValue" "right" "Lcom/example/rowcast/rowcast/Histogram$CountedEndpoint;" .null) (c4 : n0 ≤ a) :
    Con l Z (⟨"com/example/rowcast/rowcast/JoinValue", "<init>", "(DLcom/example/rowcast/rowcast/Histogram$CountedEndpoint;Lcom/example/rowcast/rowcast/Histogram$CountedEndpoint;)V"⟩ : MethodName) prog_32_method_1_code 5 none ws ({ frames := 2, cells := 0, slots := 0, locals := 24 } : Room) #[(.ref a), (.double va), (.ref lf), (.ref ri)] h0 (own_Q4lr Z a va lf ri h0 n0) := by
  refine Con.start #[.val (.ref a), .val (.double va), .second, .val (.ref lf), .val (.ref ri)] (plainFor_of_name own_pn2) (fun m => by first | (refine own_ef ?_; exact rfl) | (simp [entryFrame, mkF, argsToLocals, Value.category]; done) | rfl) ?_
  intro p e s m below meth c s₁ P X0 hx hby hml hret hlk hown hnm hZ e0 hf
  have hml : c.maxLocals = 5 := hml
  have N0 := Fr.nil n0
  have K0 : Keep h0 h0 [a] := Keep.refl _ _
  refine g_aloadN (pc' := 1) X0 hx hby (v := (.ref a)) own_d4_0 rfl rfl rfl ?_
  refine g_init (argsL := []) (pc' := 4) X0 hx hby (by rw [hml]; rfl) hZ hown rfl e0 (own_rm2 l Z a0 hw [] a  h0 n0 Z0) (hw _ (List.mem_of_getElem? (i := 29) rfl)) (hw _ (List.mem_of_getElem? (i := 7) rfl)) (hw _ (List.mem_of_getElem? (i := 9) rfl)) (hw _ (List.mem_of_getElem? (i := 10) rfl)) (by decide) own_pd0 rfl rfl (W := 0) rfl (by decide) (by decide) (by decide) (by decide) own_d4_1 rfl ?_
  intro T1 v1 L1 X1 qq1
  obtain ⟨rfl, n1, e1⟩ := qq1
  have N1 := Fr.app N0 n1
  show Gf p e below P T1 m 4 #[.val (.ref a), .val (.double va), .second, .val (.ref lf), .val (.ref ri)] []
  refine g_aloadN (pc' := 5) X1 hx hby (v := (.ref a)) own_d4_4 rfl rfl rfl ?_
  refine g_dloadN (pc' := 6) X1 hx hby (v := va) own_d4_5 rfl rfl ?_
  refine g_putF (pc' := 9) X1 hx hby hZ hown (host := "") (Or.inl (hw _ (List.mem_of_getElem? (i := 30) rfl))) Via.refl e1 c1 c0 (Or.inr ⟨(hw _ (List.mem_of_getElem? (i := 31) rfl)), rfl, hnm⟩) (hw _ (List.mem_of_getElem? (i := 24) rfl)) (ty := .double) own_fd0 rfl rfl rfl own_d4_6 rfl N1 c4 ?_
  intro T2 h2 X2 e2 W2 N2
  have f3 := c0.wr W2
  have f4 := c1.same W2
  have f5 := c2.other W2 (Or.inr (slot_ne (Or.inr (hw _ (List.mem_of_getElem? (i := 33) rfl))) (Or.inr (hw _ (List.mem_of_getElem? (i := 31) rfl))) own_nes12 own_fd2 own_fd0))
  have f6 := c3.other W2 (Or.inr (slot_ne (Or.inr (hw _ (List.mem_of_getElem? (i := 35) rfl))) (Or.inr (hw _ (List.mem_of_getElem? (i := 31) rfl))) own_nes13 own_fd2 own_fd0))
  have z2 := Nat.le_trans Z0 (Keep.of_wr W2).1
  have K2 := K0.wr W2 (Or.inl (List.mem_of_getElem? (i := 0) rfl))
  refine g_aloadN (pc' := 10) X2 hx hby (v := (.ref a)) own_d4_9 rfl rfl rfl ?_
  refine g_aloadN (pc' := 11) X2 hx hby (v := (.ref lf)) own_d4_10 rfl rfl rfl ?_
  refine g_putF (pc' := 14) X2 hx hby hZ hown (host := "") (Or.inl (hw _ (List.mem_of_getElem? (i := 32) rfl))) Via.refl e2 f5 f3 (Or.inr ⟨(hw _ (List.mem_of_getElem? (i := 33) rfl)), rfl, hnm⟩) (hw _ (List.mem_of_getElem? (i := 24) rfl)) (ty := (.object "com/example/rowcast/rowcast/Histogram$CountedEndpoint")) own_fd2 rfl rfl rfl own_d4_11 rfl N2 c4 ?_
  intro T7 h7 X7 e7 W7 N7
  have f8 := f3.wr W7
  have f9 := f4.other W7 (Or.inr (slot_ne (Or.inr (hw _ (List.mem_of_getElem? (i := 31) rfl))) (Or.inr (hw _ (List.mem_of_getElem? (i := 33) rfl))) own_nes14 own_fd0 own_fd2))
  have f10 := f5.same W7
  have f11 := f6.other W7 (Or.inr (slot_ne (Or.inr (hw _ (List.mem_of_getElem? (i := 35) rfl))) (Or.inr (hw _ (List.mem_of_getElem? (i := 33) rfl))) own_nes15 own_fd2 own_fd2))
  have z7 := Nat.le_trans z2 (Keep.of_wr W7).1
  have K7 := K2.wr W7 (Or.inl (List.mem_of_getElem? (i := 0) rfl))
  refine g_aloadN (pc' := 15) X7 hx hby (v := (.ref a)) own_d4_14 rfl rfl rfl ?_
  refine g_aload (pc' := 17) X7 hx hby (v := (.ref ri)) own_d4_15 rfl rfl rfl ?_
  refine g_putF (pc' := 20) X7 hx hby hZ hown (host := "") (Or.inl (hw _ (List.mem_of_getElem? (i := 34) rfl))) Via.refl e7 f11 f8 (Or.inr ⟨(hw _ (List.mem_of_getElem? (i := 35) rfl)), rfl, hnm⟩) (hw _ (List.mem_of_getElem? (i := 24) rfl)) (ty := (.object "com/example/rowcast/rowcast/Histogram$CountedEndpoint")) own_fd2 rfl rfl rfl own_d4_17 rfl N7 c4 ?_
  intro T12 h12 X12 e12 W12 N12
  have f13 := f8.wr W12
  have f14 := f9.other W12 (Or.inr (slot_ne (Or.inr (hw _ (List.mem_of_getElem? (i := 31) rfl))) (Or.inr (hw _ (List.mem_of_getElem? (i := 35) rfl))) own_nes16 own_fd0 own_fd2))
  have f15 := f10.other W12 (Or.inr (slot_ne (Or.inr (hw _ (List.mem_of_getElem? (i := 33) rfl))) (Or.inr (hw _ (List.mem_of_getElem? (i := 35) rfl))) own_nes17 own_fd2 own_fd2))
  have f16 := f11.same W12
  have z12 := Nat.le_trans z7 (Keep.of_wr W12).1
  have K12 := K7.wr W12 (Or.inl (List.mem_of_getElem? (i := 0) rfl))
  exact g_ret X12 hx hby hf hlk hret own_d4_20 rfl (by decide) (by decide) e12 ⟨rfl, N12, K12, f13, f15, f16⟩
def own_Q4ln (Z : State) (a : Addr) (va : UInt64) (lf : Addr) (h0 : Heap) (n0 : Nat) (v : Option Value) (h : Heap) (L : List Loc) : Prop := v = none ∧ Fr n0 L ∧ Keep h0 h [a] ∧ Exa Z h a "com/example/rowcast/rowcast/JoinValue" ∧ Fld Z h a "com/example/rowcast/rowcast/JoinValue" "left" "Lcom/example/rowcast/rowcast/Histogram$CountedEndpoint;" (.ref lf) ∧ Fld Z h a "com/example/rowcast/rowcast/JoinValue" "right" "Lcom/example/rowcast/rowcast/Histogram$CountedEndpoint;" .null
set_option maxRecDepth 65536 in
set_option maxHeartbeats 40000000 in
theorem own_rm4ln (l : Launch) (Z : State) (a0 : Array Value) (hw : ∀ d ∈ tables_1, d.before a0 Z = true) (ws : List Jvm.Cond) (a : Addr) (va : UInt64) (lf : Addr) (h0 : Heap) (n0 : Nat) (Z0 : n0 ≤ h0.size) (c0 : Exa Z h0 a "com/example/rowcast/rowcast/JoinValue") (c1 : Fld Z h0 a "com/example/rowcast/rowcast/JoinValue" "value" "D" (.double (0 : UInt64))) (c2 : Fld Z h0 a "com/example/rowcast/rowcast/JoinValue" "left" "Lcom/example/rowcast/rowcast/Histogram$CountedEndpoint;" .null) (c3 : Fld Z h0 a "com/example/rowcast/rowcast/JoinValue" "right" "Lcom/example/rowcast/rowcast/Histogram$CountedEndpoint;" .null) (c4 : n0 ≤ a) :
    Con l Z (⟨"com/example/rowcast/rowcast/JoinValue", "<init>", "(DLcom/example/rowcast/rowcast/Histogram$CountedEndpoint;Lcom/example/rowcast/rowcast/Histogram$CountedEndpoint;)V"⟩ : MethodName) prog_32_method_1_code 5 none ws ({ frames := 2, cells := 0, slots := 0, locals := 24 } : Room) #[(.ref a), (.double va), (.ref lf), .null] h0 (own_Q4ln Z a va lf h0 n0) := by
  refine Con.start #[.val (.ref a), .val (.double va), .second, .val (.ref lf), .val .null] (plainFor_of_name own_pn2) (fun m => by first | (refine own_ef ?_; exact rfl) | (simp [entryFrame, mkF, argsToLocals, Value.category]; done) | rfl) ?_
  intro p e s m below meth c s₁ P X0 hx hby hml hret hlk hown hnm hZ e0 hf
  have hml : c.maxLocals = 5 := hml
  have N0 := Fr.nil n0
  have K0 : Keep h0 h0 [a] := Keep.refl _ _
  refine g_aloadN (pc' := 1) X0 hx hby (v := (.ref a)) own_d4_0 rfl rfl rfl ?_
  refine g_init (argsL := []) (pc' := 4) X0 hx hby (by rw [hml]; rfl) hZ hown rfl e0 (own_rm2 l Z a0 hw [] a  h0 n0 Z0) (hw _ (List.mem_of_getElem? (i := 29) rfl)) (hw _ (List.mem_of_getElem? (i := 7) rfl)) (hw _ (List.mem_of_getElem? (i := 9) rfl)) (hw _ (List.mem_of_getElem? (i := 10) rfl)) (by decide) own_pd0 rfl rfl (W := 0) rfl (by decide) (by decide) (by decide) (by decide) own_d4_1 rfl ?_
  intro T1 v1 L1 X1 qq1
  obtain ⟨rfl, n1, e1⟩ := qq1
  have N1 := Fr.app N0 n1
  show Gf p e below P T1 m 4 #[.val (.ref a), .val (.double va), .second, .val (.ref lf), .val .null] []
  refine g_aloadN (pc' := 5) X1 hx hby (v := (.ref a)) own_d4_4 rfl rfl rfl ?_
  refine g_dloadN (pc' := 6) X1 hx hby (v := va) own_d4_5 rfl rfl ?_
  refine g_putF (pc' := 9) X1 hx hby hZ hown (host := "") (Or.inl (hw _ (List.mem_of_getElem? (i := 30) rfl))) Via.refl e1 c1 c0 (Or.inr ⟨(hw _ (List.mem_of_getElem? (i := 31) rfl)), rfl, hnm⟩) (hw _ (List.mem_of_getElem? (i := 24) rfl)) (ty := .double) own_fd0 rfl rfl rfl own_d4_6 rfl N1 c4 ?_
  intro T2 h2 X2 e2 W2 N2
  have f3 := c0.wr W2
  have f4 := c1.same W2
  have f5 := c2.other W2 (Or.inr (slot_ne (Or.inr (hw _ (List.mem_of_getElem? (i := 33) rfl))) (Or.inr (hw _ (List.mem_of_getElem? (i := 31) rfl))) own_nes12 own_fd2 own_fd0))
  have f6 := c3.other W2 (Or.inr (slot_ne (Or.inr (hw _ (List.mem_of_getElem? (i := 35) rfl))) (Or.inr (hw _ (List.mem_of_getElem? (i := 31) rfl))) own_nes13 own_fd2 own_fd0))
  have z2 := Nat.le_trans Z0 (Keep.of_wr W2).1
  have K2 := K0.wr W2 (Or.inl (List.mem_of_getElem? (i := 0) rfl))
  refine g_aloadN (pc' := 10) X2 hx hby (v := (.ref a)) own_d4_9 rfl rfl rfl ?_
  refine g_aloadN (pc' := 11) X2 hx hby (v := (.ref lf)) own_d4_10 rfl rfl rfl ?_
  refine g_putF (pc' := 14) X2 hx hby hZ hown (host := "") (Or.inl (hw _ (List.mem_of_getElem? (i := 32) rfl))) Via.refl e2 f5 f3 (Or.inr ⟨(hw _ (List.mem_of_getElem? (i := 33) rfl)), rfl, hnm⟩) (hw _ (List.mem_of_getElem? (i := 24) rfl)) (ty := (.object "com/example/rowcast/rowcast/Histogram$CountedEndpoint")) own_fd2 rfl rfl rfl own_d4_11 rfl N2 c4 ?_
  intro T7 h7 X7 e7 W7 N7
  have f8 := f3.wr W7
  have f9 := f4.other W7 (Or.inr (slot_ne (Or.inr (hw _ (List.mem_of_getElem? (i := 31) rfl))) (Or.inr (hw _ (List.mem_of_getElem? (i := 33) rfl))) own_nes14 own_fd0 own_fd2))
  have f10 := f5.same W7
  have f11 := f6.other W7 (Or.inr (slot_ne (Or.inr (hw _ (List.mem_of_getElem? (i := 35) rfl))) (Or.inr (hw _ (List.mem_of_getElem? (i := 33) rfl))) own_nes15 own_fd2 own_fd2))
  have z7 := Nat.le_trans z2 (Keep.of_wr W7).1
  have K7 := K2.wr W7 (Or.inl (List.mem_of_getElem? (i := 0) rfl))
  refine g_aloadN (pc' := 15) X7 hx hby (v := (.ref a)) own_d4_14 rfl rfl rfl ?_
  refine g_aload (pc' := 17) X7 hx hby (v := .null) own_d4_15 rfl rfl rfl ?_
  refine g_putF (pc' := 20) X7 hx hby hZ hown (host := "") (Or.inl (hw _ (List.mem_of_getElem? (i := 34) rfl))) Via.refl e7 f11 f8 (Or.inr ⟨(hw _ (List.mem_of_getElem? (i := 35) rfl)), rfl, hnm⟩) (hw _ (List.mem_of_getElem? (i := 24) rfl)) (ty := (.object "com/example/rowcast/rowcast/Histogram$CountedEndpoint")) own_fd2 rfl rfl rfl own_d4_17 rfl N7 c4 ?_
  intro T12 h12 X12 e12 W12 N12
  have f13 := f8.wr W12
  have f14 := f9.other W12 (Or.inr (slot_ne (Or.inr (hw _ (List.mem_of_getElem? (i := 31) rfl))) (Or.inr (hw _ (List.mem_of_getElem? (i := 35) rfl))) own_nes16 own_fd0 own_fd2))
  have f15 := f10.other W12 (Or.inr (slot_ne (Or.inr (hw _ (List.mem_of_getElem? (i := 33) rfl))) (Or.inr (hw _ (List.mem_of_getElem? (i := 35) rfl))) own_nes17 own_fd2 own_fd2))
  have f16 := f11.same W12
  have z12 := Nat.le_trans z7 (Keep.of_wr W12).1
  have K12 := K7.wr W12 (Or.inl (List.mem_of_getElem? (i := 0) rfl))
  exact g_ret X12 hx hby hf hlk hret own_d4_20 rfl (by decide) (by decide) e12 ⟨rfl, N12, K12, f13, f15, f16⟩
def own_Q4nr (Z : State) (a : Addr) (va : UInt64) (ri : Addr) (h0 : Heap) (n0 : Nat) (v : Option Value) (h : Heap) (L : List Loc) : Prop := v = none ∧ Fr n0 L ∧ Keep h0 h [a] ∧ Exa Z h a "com/example/rowcast/rowcast/JoinValue" ∧ Fld Z h a "com/example/rowcast/rowcast/JoinValue" "left" "Lcom/example/rowcast/rowcast/Histogram$CountedEndpoint;" .null ∧ Fld Z h a "com/example/rowcast/rowcast/JoinValue" "right" "Lcom/example/rowcast/rowcast/Histogram$CountedEndpoint;" (.ref ri)
set_option maxRecDepth 65536 in
set_option maxHeartbeats 40000000 in
theorem own_rm4nr (l : Launch) (Z : State) (a0 : Array Value) (hw : ∀ d ∈ tables_1, d.before a0 Z = true) (ws : List Jvm.Cond) (a : Addr) (va : UInt64) (ri : Addr) (h0 : Heap) (n0 : Nat) (Z0 : n0 ≤ h0.size) (c0 : Exa Z h0 a "com/example/rowcast/rowcast/JoinValue") (c1 : Fld Z h0 a "com/example/rowcast/rowcast/JoinValue" "value" "D" (.double (0 : UInt64))) (c2 : Fld Z h0 a "com/example/rowcast/rowcast/JoinValue" "left" "Lcom/example/rowcast/rowcast/Histogram$CountedEndpoint;" .null) (c3 : Fld Z h0 a "com/example/rowcast/rowcast/JoinValue" "right" "Lcom/example/rowcast/rowcast/Histogram$CountedEndpoint;" .null) (c4 : n0 ≤ a) :
    Con l Z (⟨"com/example/rowcast/rowcast/JoinValue", "<init>", "(DLcom/example/rowcast/rowcast/Histogram$CountedEndpoint;Lcom/example/rowcast/rowcast/Histogram$CountedEndpoint;)V"⟩ : MethodName) prog_32_method_1_code 5 none ws ({ frames := 2, cells := 0, slots := 0, locals := 24 } : Room) #[(.ref a), (.double va), .null, (.ref ri)] h0 (own_Q4nr Z a va ri h0 n0) := by
  refine Con.start #[.val (.ref a), .val (.double va), .second, .val .null, .val (.ref ri)] (plainFor_of_name own_pn2) (fun m => by first | (refine own_ef ?_; exact rfl) | (simp [entryFrame, mkF, argsToLocals, Value.category]; done) | rfl) ?_
  intro p e s m below meth c s₁ P X0 hx hby hml hret hlk hown hnm hZ e0 hf
  have hml : c.maxLocals = 5 := hml
  have N0 := Fr.nil n0
  have K0 : Keep h0 h0 [a] := Keep.refl _ _
  refine g_aloadN (pc' := 1) X0 hx hby (v := (.ref a)) own_d4_0 rfl rfl rfl ?_
  refine g_init (argsL := []) (pc' := 4) X0 hx hby (by rw [hml]; rfl) hZ hown rfl e0 (own_rm2 l Z a0 hw [] a  h0 n0 Z0) (hw _ (List.mem_of_getElem? (i := 29) rfl)) (hw _ (List.mem_of_getElem? (i := 7) rfl)) (hw _ (List.mem_of_getElem? (i := 9) rfl)) (hw _ (List.mem_of_getElem? (i := 10) rfl)) (by decide) own_pd0 rfl rfl (W := 0) rfl (by decide) (by decide) (by decide) (by decide) own_d4_1 rfl ?_
  intro T1 v1 L1 X1 qq1
  obtain ⟨rfl, n1, e1⟩ := qq1
  have N1 := Fr.app N0 n1
  show Gf p e below P T1 m 4 #[.val (.ref a), .val (.double va), .second, .val .null, .val (.ref ri)] []
  refine g_aloadN (pc' := 5) X1 hx hby (v := (.ref a)) own_d4_4 rfl rfl rfl ?_
  refine g_dloadN (pc' := 6) X1 hx hby (v := va) own_d4_5 rfl rfl ?_
  refine g_putF (pc' := 9) X1 hx hby hZ hown (host := "") (Or.inl (hw _ (List.mem_of_getElem? (i := 30) rfl))) Via.refl e1 c1 c0 (Or.inr ⟨(hw _ (List.mem_of_getElem? (i := 31) rfl)), rfl, hnm⟩) (hw _ (List.mem_of_getElem? (i := 24) rfl)) (ty := .double) own_fd0 rfl rfl rfl own_d4_6 rfl N1 c4 ?_
  intro T2 h2 X2 e2 W2 N2
  have f3 := c0.wr W2
  have f4 := c1.same W2
  have f5 := c2.other W2 (Or.inr (slot_ne (Or.inr (hw _ (List.mem_of_getElem? (i := 33) rfl))) (Or.inr (hw _ (List.mem_of_getElem? (i := 31) rfl))) own_nes12 own_fd2 own_fd0))
  have f6 := c3.other W2 (Or.inr (slot_ne (Or.inr (hw _ (List.mem_of_getElem? (i := 35) rfl))) (Or.inr (hw _ (List.mem_of_getElem? (i := 31) rfl))) own_nes13 own_fd2 own_fd0))
  have z2 := Nat.le_trans Z0 (Keep.of_wr W2).1
  have K2 := K0.wr W2 (Or.inl (List.mem_of_getElem? (i := 0) rfl))
  refine g_aloadN (pc' := 10) X2 hx hby (v := (.ref a)) own_d4_9 rfl rfl rfl ?_
  refine g_aloadN (pc' := 11) X2 hx hby (v := .null) own_d4_10 rfl rfl rfl ?_
  refine g_putF (pc' := 14) X2 hx hby hZ hown (host := "") (Or.inl (hw _ (List.mem_of_getElem? (i := 32) rfl))) Via.refl e2 f5 f3 (Or.inr ⟨(hw _ (List.mem_of_getElem? (i := 33) rfl)), rfl, hnm⟩) (hw _ (List.mem_of_getElem? (i := 24) rfl)) (ty := (.object "com/example/rowcast/rowcast/Histogram$CountedEndpoint")) own_fd2 rfl rfl rfl own_d4_11 rfl N2 c4 ?_
  intro T7 h7 X7 e7 W7 N7
  have f8 := f3.wr W7
  have f9 := f4.other W7 (Or.inr (slot_ne (Or.inr (hw _ (List.mem_of_getElem? (i := 31) rfl))) (Or.inr (hw _ (List.mem_of_getElem? (i := 33) rfl))) own_nes14 own_fd0 own_fd2))
  have f10 := f5.same W7
  have f11 := f6.other W7 (Or.inr (slot_ne (Or.inr (hw _ (List.mem_of_getElem? (i := 35) rfl))) (Or.inr (hw _ (List.mem_of_getElem? (i := 33) rfl))) own_nes15 own_fd2 own_fd2))
  have z7 := Nat.le_trans z2 (Keep.of_wr W7).1
  have K7 := K2.wr W7 (Or.inl (List.mem_of_getElem? (i := 0) rfl))
  refine g_aloadN (pc' := 15) X7 hx hby (v := (.ref a)) own_d4_14 rfl rfl rfl ?_
  refine g_aload (pc' := 17) X7 hx hby (v := (.ref ri)) own_d4_15 rfl rfl rfl ?_
  refine g_putF (pc' := 20) X7 hx hby hZ hown (host := "") (Or.inl (hw _ (List.mem_of_getElem? (i := 34) rfl))) Via.refl e7 f11 f8 (Or.inr ⟨(hw _ (List.mem_of_getElem? (i := 35) rfl)), rfl, hnm⟩) (hw _ (List.mem_of_getElem? (i := 24) rfl)) (ty := (.object "com/example/rowcast/rowcast/Histogram$CountedEndpoint")) own_fd2 rfl rfl rfl own_d4_17 rfl N7 c4 ?_
  intro T12 h12 X12 e12 W12 N12
  have f13 := f8.wr W12
  have f14 := f9.other W12 (Or.inr (slot_ne (Or.inr (hw _ (List.mem_of_getElem? (i := 31) rfl))) (Or.inr (hw _ (List.mem_of_getElem? (i := 35) rfl))) own_nes16 own_fd0 own_fd2))
  have f15 := f10.other W12 (Or.inr (slot_ne (Or.inr (hw _ (List.mem_of_getElem? (i := 33) rfl))) (Or.inr (hw _ (List.mem_of_getElem? (i := 35) rfl))) own_nes17 own_fd2 own_fd2))
  have f16 := f11.same W12
  have z12 := Nat.le_trans z7 (Keep.of_wr W12).1
  have K12 := K7.wr W12 (Or.inl (List.mem_of_getElem? (i := 0) rfl))
  exact g_ret X12 hx hby hf hlk hret own_d4_20 rfl (by decide) (by decide) e12 ⟨rfl, N12, K12, f13, f15, f16⟩
def own_Q4nn (Z : State) (a : Addr) (va : UInt64) (h0 : Heap) (n0 : Nat) (v : Option Value) (h : Heap) (L : List Loc) : Prop := v = none ∧ Fr n0 L ∧ Keep h0 h [a] ∧ Exa Z h a "com/example/rowcast/rowcast/JoinValue" ∧ Fld Z h a "com/example/rowcast/rowcast/JoinValue" "left" "Lcom/example/rowcast/rowcast/Histogram$CountedEndpoint;" .null ∧ Fld Z h a "com/example/rowcast/rowcast/JoinValue" "right" "Lcom/example/rowcast/rowcast/Histogram$CountedEndpoint;" .null
set_option maxRecDepth 65536 in
set_option maxHeartbeats 40000000 in
theorem own_rm4nn (l : Launch) (Z : State) (a0 : Array Value) (hw : ∀ d ∈ tables_1, d.before a0 Z = true) (ws : List Jvm.Cond) (a : Addr) (va : UInt64) (h0 : Heap) (n0 : Nat) (Z0 : n0 ≤ h0.size) (c0 : Exa Z h0 a "com/example/rowcast/rowcast/JoinValue") (c1 : Fld Z h0 a "com/example/rowcast/rowcast/JoinValue" "value" "D" (.double (0 : UInt64))) (c2 : Fld Z h0 a "com/example/rowcast/rowcast/JoinValue" "left" "Lcom/example/rowcast/rowcast/Histogram$CountedEndpoint;" .null) (c3 : Fld Z h0 a "com/example/rowcast/rowcast/JoinValue" "right" "Lcom/example/rowcast/rowcast/Histogram$CountedEndpoint;" .null) (c4 : n0 ≤ a) :
    Con l Z (⟨"com/example/rowcast/rowcast/JoinValue", "<init>", "(DLcom/example/rowcast/rowcast/Histogram$CountedEndpoint;Lcom/example/rowcast/rowcast/Histogram$CountedEndpoint;)V"⟩ : MethodName) prog_32_method_1_code 5 none ws ({ frames := 2, cells := 0, slots := 0, locals := 24 } : Room) #[(.ref a), (.double va), .null, .null] h0 (own_Q4nn Z a va h0 n0) := by
  refine Con.start #[.val (.ref a), .val (.double va), .second, .val .null, .val .null] (plainFor_of_name own_pn2) (fun m => by first | (refine own_ef ?_; exact rfl) | (simp [entryFrame, mkF, argsToLocals, Value.category]; done) | rfl) ?_
  intro p e s m below meth c s₁ P X0 hx hby hml hret hlk hown hnm hZ e0 hf
  have hml : c.maxLocals = 5 := hml
  have N0 := Fr.nil n0
  have K0 : Keep h0 h0 [a] := Keep.refl _ _
  refine g_aloadN (pc' := 1) X0 hx hby (v := (.ref a)) own_d4_0 rfl rfl rfl ?_
  refine g_init (argsL := []) (pc' := 4) X0 hx hby (by rw [hml]; rfl) hZ hown rfl e0 (own_rm2 l Z a0 hw [] a  h0 n0 Z0) (hw _ (List.mem_of_getElem? (i := 29) rfl)) (hw _ (List.mem_of_getElem? (i := 7) rfl)) (hw _ (List.mem_of_getElem? (i := 9) rfl)) (hw _ (List.mem_of_getElem? (i := 10) rfl)) (by decide) own_pd0 rfl rfl (W := 0) rfl (by decide) (by decide) (by decide) (by decide) own_d4_1 rfl ?_
  intro T1 v1 L1 X1 qq1
  obtain ⟨rfl, n1, e1⟩ := qq1
  have N1 := Fr.app N0 n1
  show Gf p e below P T1 m 4 #[.val (.ref a), .val (.double va), .second, .val .null, .val .null] []
  refine g_aloadN (pc' := 5) X1 hx hby (v := (.ref a)) own_d4_4 rfl rfl rfl ?_
  refine g_dloadN (pc' := 6) X1 hx hby (v := va) own_d4_5 rfl rfl ?_
  refine g_putF (pc' := 9) X1 hx hby hZ hown (host := "") (Or.inl (hw _ (List.mem_of_getElem? (i := 30) rfl))) Via.refl e1 c1 c0 (Or.inr ⟨(hw _ (List.mem_of_getElem? (i := 31) rfl)), rfl, hnm⟩) (hw _ (List.mem_of_getElem? (i := 24) rfl)) (ty := .double) own_fd0 rfl rfl rfl own_d4_6 rfl N1 c4 ?_
  intro T2 h2 X2 e2 W2 N2
  have f3 := c0.wr W2
  have f4 := c1.same W2
  have f5 := c2.other W2 (Or.inr (slot_ne (Or.inr (hw _ (List.mem_of_getElem? (i := 33) rfl))) (Or.inr (hw _ (List.mem_of_getElem? (i := 31) rfl))) own_nes12 own_fd2 own_fd0))
  have f6 := c3.other W2 (Or.inr (slot_ne (Or.inr (hw _ (List.mem_of_getElem? (i := 35) rfl))) (Or.inr (hw _ (List.mem_of_getElem? (i := 31) rfl))) own_nes13 own_fd2 own_fd0))
  have z2 := Nat.le_trans Z0 (Keep.of_wr W2).1
  have K2 := K0.wr W2 (Or.inl (List.mem_of_getElem? (i := 0) rfl))
  refine g_aloadN (pc' := 10) X2 hx hby (v := (.ref a)) own_d4_9 rfl rfl rfl ?_
  refine g_aloadN (pc' := 11) X2 hx hby (v := .null) own_d4_10 rfl rfl rfl ?_
  refine g_putF (pc' := 14) X2 hx hby hZ hown (host := "") (Or.inl (hw _ (List.mem_of_getElem? (i := 32) rfl))) Via.refl e2 f5 f3 (Or.inr ⟨(hw _ (List.mem_of_getElem? (i := 33) rfl)), rfl, hnm⟩) (hw _ (List.mem_of_getElem? (i := 24) rfl)) (ty := (.object "com/example/rowcast/rowcast/Histogram$CountedEndpoint")) own_fd2 rfl rfl rfl own_d4_11 rfl N2 c4 ?_
  intro T7 h7 X7 e7 W7 N7
  have f8 := f3.wr W7
  have f9 := f4.other W7 (Or.inr (slot_ne (Or.inr (hw _ (List.mem_of_getElem? (i := 31) rfl))) (Or.inr (hw _ (List.mem_of_getElem? (i := 33) rfl))) own_nes14 own_fd0 own_fd2))
  have f10 := f5.same W7
  have f11 := f6.other W7 (Or.inr (slot_ne (Or.inr (hw _ (List.mem_of_getElem? (i := 35) rfl))) (Or.inr (hw _ (List.mem_of_getElem? (i := 33) rfl))) own_nes15 own_fd2 own_fd2))
  have z7 := Nat.le_trans z2 (Keep.of_wr W7).1
  have K7 := K2.wr W7 (Or.inl (List.mem_of_getElem? (i := 0) rfl))
  refine g_aloadN (pc' := 15) X7 hx hby (v := (.ref a)) own_d4_14 rfl rfl rfl ?_
  refine g_aload (pc' := 17) X7 hx hby (v := .null) own_d4_15 rfl rfl rfl ?_
  refine g_putF (pc' := 20) X7 hx hby hZ hown (host := "") (Or.inl (hw _ (List.mem_of_getElem? (i := 34) rfl))) Via.refl e7 f11 f8 (Or.inr ⟨(hw _ (List.mem_of_getElem? (i := 35) rfl)), rfl, hnm⟩) (hw _ (List.mem_of_getElem? (i := 24) rfl)) (ty := (.object "com/example/rowcast/rowcast/Histogram$CountedEndpoint")) own_fd2 rfl rfl rfl own_d4_17 rfl N7 c4 ?_
  intro T12 h12 X12 e12 W12 N12
  have f13 := f8.wr W12
  have f14 := f9.other W12 (Or.inr (slot_ne (Or.inr (hw _ (List.mem_of_getElem? (i := 31) rfl))) (Or.inr (hw _ (List.mem_of_getElem? (i := 35) rfl))) own_nes16 own_fd0 own_fd2))
  have f15 := f10.other W12 (Or.inr (slot_ne (Or.inr (hw _ (List.mem_of_getElem? (i := 33) rfl))) (Or.inr (hw _ (List.mem_of_getElem? (i := 35) rfl))) own_nes17 own_fd2 own_fd2))
  have f16 := f11.same W12
  have z12 := Nat.le_trans z7 (Keep.of_wr W12).1
  have K12 := K7.wr W12 (Or.inl (List.mem_of_getElem? (i := 0) rfl))
  exact g_ret X12 hx hby hf hlk hret own_d4_20 rfl (by decide) (by decide) e12 ⟨rfl, N12, K12, f13, f15, f16⟩
theorem own_d5_0 : decode prog_32_method_3_code 0 = .ok (.aload_n 0, 1) := by decide +kernel
theorem own_d5_1 : decode prog_32_method_3_code 1 = .ok (.getfield 13, 3) := by decide +kernel
theorem own_d5_4 : decode prog_32_method_3_code 4 = .ok (.ifnull 14, 3) := by decide +kernel
theorem own_d5_7 : decode prog_32_method_3_code 7 = .ok (.aload_n 0, 1) := by decide +kernel
theorem own_d5_8 : decode prog_32_method_3_code 8 = .ok (.getfield 17, 3) := by decide +kernel
theorem own_d5_11 : decode prog_32_method_3_code 11 = .ok (.ifnull 7, 3) := by decide +kernel
theorem own_d5_14 : decode prog_32_method_3_code 14 = .ok (.iconst 1, 1) := by decide +kernel
theorem own_d5_15 : decode prog_32_method_3_code 15 = .ok (.goto 4, 3) := by decide +kernel
theorem own_d5_19 : decode prog_32_method_3_code 19 = .ok (.ireturn, 1) := by decide +kernel
def own_Q5lr (Z : State) (a : Addr) (lf : Addr) (ri : Addr) (h0 : Heap) (n0 : Nat) (v : Option Value) (h : Heap) (L : List Loc) : Prop := v = some (.int (1 : Int32)) ∧ Fr n0 L ∧ h = h0
set_option maxRecDepth 65536 in
set_option maxHeartbeats 40000000 in
theorem own_rm5lr (l : Launch) (Z : State) (a0 : Array Value) (hw : ∀ d ∈ tables_1, d.before a0 Z = true) (ws : List Jvm.Cond) (a : Addr) (lf : Addr) (ri : Addr) (h0 : Heap) (n0 : Nat) (Z0 : n0 ≤ h0.size) (c0 : Fld Z h0 a "com/example/rowcast/rowcast/JoinValue" "left" "Lcom/example/rowcast/rowcast/Histogram$CountedEndpoint;" (.ref lf)) (c1 : Fld Z h0 a "com/example/rowcast/rowcast/JoinValue" "right" "Lcom/example/rowcast/rowcast/Histogram$CountedEndpoint;" (.ref ri)) :
    Con l Z (⟨"com/example/rowcast/rowcast/JoinValue", "matching", "()Z"⟩ : MethodName) prog_32_method_3_code 1 (some .boolean) ws ({ frames := 0, cells := 0, slots := 0, locals := 0 } : Room) #[(.ref a)] h0 (own_Q5lr Z a lf ri h0 n0) := by
  refine Con.start #[.val (.ref a)] (plainFor_of_name own_pn2) (fun m => by first | (refine own_ef ?_; exact rfl) | (simp [entryFrame, mkF, argsToLocals, Value.category]; done) | rfl) ?_
  intro p e s m below meth c s₁ P X0 hx hby hml hret hlk hown hnm hZ e0 hf
  have hml : c.maxLocals = 1 := hml
  have N0 := Fr.nil n0
  refine g_aloadN (pc' := 1) X0 hx hby (v := (.ref a)) own_d5_0 rfl rfl rfl ?_
  refine g_getF (pc' := 4) X0 hx hby hZ hown (host := "") (Or.inl (hw _ (List.mem_of_getElem? (i := 32) rfl))) Via.refl e0 c0 rfl own_d5_1 rfl ?_
  intro T1 X1 e1
  refine g_nullN (pc' := 7) X1 hx hby own_d5_4 rfl rfl ?_
  refine g_aloadN (pc' := 8) X1 hx hby (v := (.ref a)) own_d5_7 rfl rfl rfl ?_
  refine g_getF (pc' := 11) X1 hx hby hZ hown (host := "") (Or.inl (hw _ (List.mem_of_getElem? (i := 34) rfl))) Via.refl e1 c1 rfl own_d5_8 rfl ?_
  intro T2 X2 e2
  refine g_nullN (pc' := 14) X2 hx hby own_d5_11 rfl rfl ?_
  refine g_iconst (pc' := 15) (v := (1 : Int32)) X2 hx hby own_d5_14 rfl rfl ?_
  refine g_goto (pc' := 19) X2 hx hby own_d5_15 (by decide) (by decide) ?_
  exact g_retZ X2 hx hby hf hlk hret own_d5_19 rfl (by simp) rfl (by decide) (by decide) e2 ⟨rfl, N0, rfl⟩
theorem own_d5_18 : decode prog_32_method_3_code 18 = .ok (.iconst 0, 1) := by decide +kernel
def own_Q5ln (Z : State) (a : Addr) (lf : Addr) (h0 : Heap) (n0 : Nat) (v : Option Value) (h : Heap) (L : List Loc) : Prop := v = some (.int (0 : Int32)) ∧ Fr n0 L ∧ h = h0
set_option maxRecDepth 65536 in
set_option maxHeartbeats 40000000 in
theorem own_rm5ln (l : Launch) (Z : State) (a0 : Array Value) (hw : ∀ d ∈ tables_1, d.before a0 Z = true) (ws : List Jvm.Cond) (a : Addr) (lf : Addr) (h0 : Heap) (n0 : Nat) (Z0 : n0 ≤ h0.size) (c0 : Fld Z h0 a "com/example/rowcast/rowcast/JoinValue" "left" "Lcom/example/rowcast/rowcast/Histogram$CountedEndpoint;" (.ref lf)) (c1 : Fld Z h0 a "com/example/rowcast/rowcast/JoinValue" "right" "Lcom/example/rowcast/rowcast/Histogram$CountedEndpoint;" .null) :
    Con l Z (⟨"com/example/rowcast/rowcast/JoinValue", "matching", "()Z"⟩ : MethodName) prog_32_method_3_code 1 (some .boolean) ws ({ frames := 0, cells := 0, slots := 0, locals := 0 } : Room) #[(.ref a)] h0 (own_Q5ln Z a lf h0 n0) := by
  refine Con.start #[.val (.ref a)] (plainFor_of_name own_pn2) (fun m => by first | (refine own_ef ?_; exact rfl) | (simp [entryFrame, mkF, argsToLocals, Value.category]; done) | rfl) ?_
  intro p e s m below meth c s₁ P X0 hx hby hml hret hlk hown hnm hZ e0 hf
  have hml : c.maxLocals = 1 := hml
  have N0 := Fr.nil n0
  refine g_aloadN (pc' := 1) X0 hx hby (v := (.ref a)) own_d5_0 rfl rfl rfl ?_
  refine g_getF (pc' := 4) X0 hx hby hZ hown (host := "") (Or.inl (hw _ (List.mem_of_getElem? (i := 32) rfl))) Via.refl e0 c0 rfl own_d5_1 rfl ?_
  intro T1 X1 e1
  refine g_nullN (pc' := 7) X1 hx hby own_d5_4 rfl rfl ?_
  refine g_aloadN (pc' := 8) X1 hx hby (v := (.ref a)) own_d5_7 rfl rfl rfl ?_
  refine g_getF (pc' := 11) X1 hx hby hZ hown (host := "") (Or.inl (hw _ (List.mem_of_getElem? (i := 34) rfl))) Via.refl e1 c1 rfl own_d5_8 rfl ?_
  intro T2 X2 e2
  refine g_nullY (pc' := 18) X2 hx hby own_d5_11 rfl (by decide) (by decide) ?_
  refine g_iconst (pc' := 19) (v := (0 : Int32)) X2 hx hby own_d5_18 rfl rfl ?_
  exact g_retZ X2 hx hby hf hlk hret own_d5_19 rfl (by simp) rfl (by decide) (by decide) e2 ⟨rfl, N0, rfl⟩
def own_Q5nr (Z : State) (a : Addr) (ri : Addr) (h0 : Heap) (n0 : Nat) (v : Option Value) (h : Heap) (L : List Loc) : Prop := v = some (.int (0 : Int32)) ∧ Fr n0 L ∧ h = h0
set_option maxRecDepth 65536 in
set_option maxHeartbeats 40000000 in
theorem own_rm5nr (l : Launch) (Z : State) (a0 : Array Value) (hw : ∀ d ∈ tables_1, d.before a0 Z = true) (ws : List Jvm.Cond) (a : Addr) (ri : Addr) (h0 : Heap) (n0 : Nat) (Z0 : n0 ≤ h0.size) (c0 : Fld Z h0 a "com/example/rowcast/rowcast/JoinValue" "left" "Lcom/example/rowcast/rowcast/Histogram$CountedEndpoint;" .null) (c1 : Fld Z h0 a "com/example/rowcast/rowcast/JoinValue" "right" "Lcom/example/rowcast/rowcast/Histogram$CountedEndpoint;" (.ref ri)) :
    Con l Z (⟨"com/example/rowcast/rowcast/JoinValue", "matching", "()Z"⟩ : MethodName) prog_32_method_3_code 1 (some .boolean) ws ({ frames := 0, cells := 0, slots := 0, locals := 0 } : Room) #[(.ref a)] h0 (own_Q5nr Z a ri h0 n0) := by
  refine Con.start #[.val (.ref a)] (plainFor_of_name own_pn2) (fun m => by first | (refine own_ef ?_; exact rfl) | (simp [entryFrame, mkF, argsToLocals, Value.category]; done) | rfl) ?_
  intro p e s m below meth c s₁ P X0 hx hby hml hret hlk hown hnm hZ e0 hf
  have hml : c.maxLocals = 1 := hml
  have N0 := Fr.nil n0
  refine g_aloadN (pc' := 1) X0 hx hby (v := (.ref a)) own_d5_0 rfl rfl rfl ?_
  refine g_getF (pc' := 4) X0 hx hby hZ hown (host := "") (Or.inl (hw _ (List.mem_of_getElem? (i := 32) rfl))) Via.refl e0 c0 rfl own_d5_1 rfl ?_
  intro T1 X1 e1
  refine g_nullY (pc' := 18) X1 hx hby own_d5_4 rfl (by decide) (by decide) ?_
  refine g_iconst (pc' := 19) (v := (0 : Int32)) X1 hx hby own_d5_18 rfl rfl ?_
  exact g_retZ X1 hx hby hf hlk hret own_d5_19 rfl (by simp) rfl (by decide) (by decide) e1 ⟨rfl, N0, rfl⟩
def own_Q5nn (Z : State) (a : Addr) (h0 : Heap) (n0 : Nat) (v : Option Value) (h : Heap) (L : List Loc) : Prop := v = some (.int (0 : Int32)) ∧ Fr n0 L ∧ h = h0
set_option maxRecDepth 65536 in
set_option maxHeartbeats 40000000 in
theorem own_rm5nn (l : Launch) (Z : State) (a0 : Array Value) (hw : ∀ d ∈ tables_1, d.before a0 Z = true) (ws : List Jvm.Cond) (a : Addr) (h0 : Heap) (n0 : Nat) (Z0 : n0 ≤ h0.size) (c0 : Fld Z h0 a "com/example/rowcast/rowcast/JoinValue" "left" "Lcom/example/rowcast/rowcast/Histogram$CountedEndpoint;" .null) (c1 : Fld Z h0 a "com/example/rowcast/rowcast/JoinValue" "right" "Lcom/example/rowcast/rowcast/Histogram$CountedEndpoint;" .null) :
    Con l Z (⟨"com/example/rowcast/rowcast/JoinValue", "matching", "()Z"⟩ : MethodName) prog_32_method_3_code 1 (some .boolean) ws ({ frames := 0, cells := 0, slots := 0, locals := 0 } : Room) #[(.ref a)] h0 (own_Q5nn Z a h0 n0) := by
  refine Con.start #[.val (.ref a)] (plainFor_of_name own_pn2) (fun m => by first | (refine own_ef ?_; exact rfl) | (simp [entryFrame, mkF, argsToLocals, Value.category]; done) | rfl) ?_
  intro p e s m below meth c s₁ P X0 hx hby hml hret hlk hown hnm hZ e0 hf
  have hml : c.maxLocals = 1 := hml
  have N0 := Fr.nil n0
  refine g_aloadN (pc' := 1) X0 hx hby (v := (.ref a)) own_d5_0 rfl rfl rfl ?_
  refine g_getF (pc' := 4) X0 hx hby hZ hown (host := "") (Or.inl (hw _ (List.mem_of_getElem? (i := 32) rfl))) Via.refl e0 c0 rfl own_d5_1 rfl ?_
  intro T1 X1 e1
  refine g_nullY (pc' := 18) X1 hx hby own_d5_4 rfl (by decide) (by decide) ?_
  refine g_iconst (pc' := 19) (v := (0 : Int32)) X1 hx hby own_d5_18 rfl rfl ?_
  exact g_retZ X1 hx hby hf hlk hret own_d5_19 rfl (by simp) rfl (by decide) (by decide) e1 ⟨rfl, N0, rfl⟩
theorem own_d8_0 : decode jdk_22_method_1_code 0 = .ok (.aload_n 0, 1) := by decide +kernel
theorem own_d8_1 : decode jdk_22_method_1_code 1 = .ok (.invokespecial 1, 3) := by decide +kernel
theorem own_d8_4 : decode jdk_22_method_1_code 4 = .ok (.return_, 1) := by decide +kernel
def own_Q8 (Z : State) (a : Addr) (h0 : Heap) (n0 : Nat) (v : Option Value) (h : Heap) (L : List Loc) : Prop := v = none ∧ Fr n0 L ∧ h = h0
set_option maxRecDepth 65536 in
set_option maxHeartbeats 40000000 in
theorem own_rm8 (l : Launch) (Z : State) (a0 : Array Value) (hw : ∀ d ∈ tables_1, d.before a0 Z = true) (ws : List Jvm.Cond) (a : Addr) (h0 : Heap) (n0 : Nat) (Z0 : n0 ≤ h0.size) :
    Con l Z (⟨"java/util/AbstractCollection", "<init>", "()V"⟩ : MethodName) jdk_22_method_1_code 1 none ws ({ frames := 1, cells := 0, slots := 0, locals := 12 } : Room) #[(.ref a)] h0 (own_Q8 Z a h0 n0) := by
  refine Con.start #[.val (.ref a)] (plainFor_of_name own_pn3) (fun m => by first | (refine own_ef ?_; exact rfl) | (simp [entryFrame, mkF, argsToLocals, Value.category]; done) | rfl) ?_
  intro p e s m below meth c s₁ P X0 hx hby hml hret hlk hown hnm hZ e0 hf
  have hml : c.maxLocals = 1 := hml
  have N0 := Fr.nil n0
  refine g_aloadN (pc' := 1) X0 hx hby (v := (.ref a)) own_d8_0 rfl rfl rfl ?_
  refine g_initO (pc' := 4) X0 hx hby hZ hown (hw _ (List.mem_of_getElem? (i := 59) rfl)) (hw _ (List.mem_of_getElem? (i := 12) rfl)) (hw _ (List.mem_of_getElem? (i := 13) rfl)) e0 (by rw [hml]; rfl) rfl own_d8_1 rfl (by decide) (W := 0) rfl (by decide) ?_
  intro T1 X1 e1
  exact g_ret X1 hx hby hf hlk hret own_d8_4 rfl (by decide) (by decide) e1 ⟨rfl, N0, rfl⟩
theorem own_d7_0 : decode jdk_39_method_1_code 0 = .ok (.aload_n 0, 1) := by decide +kernel
theorem own_d7_1 : decode jdk_39_method_1_code 1 = .ok (.invokespecial 1, 3) := by decide +kernel
theorem own_d7_4 : decode jdk_39_method_1_code 4 = .ok (.aload_n 0, 1) := by decide +kernel
theorem own_d7_5 : decode jdk_39_method_1_code 5 = .ok (.iconst 0, 1) := by decide +kernel
theorem own_d7_6 : decode jdk_39_method_1_code 6 = .ok (.putfield 7, 3) := by decide +kernel
theorem own_d7_9 : decode jdk_39_method_1_code 9 = .ok (.return_, 1) := by decide +kernel
def own_Q7 (Z : State) (a : Addr) (w1 : Value) (w2 : Value) (h0 : Heap) (n0 : Nat) (v : Option Value) (h : Heap) (L : List Loc) : Prop := v = none ∧ Fr n0 L ∧ Keep h0 h [a] ∧ Exa Z h a "java/util/ArrayList" ∧ Fld Z h a "java/util/AbstractList" "modCount" "I" (.int (0 : Int32)) ∧ Fld Z h a "java/util/ArrayList" "elementData" "[Ljava/lang/Object;" w1 ∧ Fld Z h a "java/util/ArrayList" "size" "I" w2
set_option maxRecDepth 65536 in
set_option maxHeartbeats 40000000 in
theorem own_rm7 (l : Launch) (Z : State) (a0 : Array Value) (hw : ∀ d ∈ tables_1, d.before a0 Z = true) (ws : List Jvm.Cond) (a : Addr) (w1 : Value) (w2 : Value) (h0 : Heap) (n0 : Nat) (Z0 : n0 ≤ h0.size) (c0 : Exa Z h0 a "java/util/ArrayList") (c1 : Fld Z h0 a "java/util/AbstractList" "modCount" "I" (.int (0 : Int32))) (c2 : Fld Z h0 a "java/util/ArrayList" "elementData" "[Ljava/lang/Object;" w1) (c3 : Fld Z h0 a "java/util/ArrayList" "size" "I" w2) (c4 : n0 ≤ a) :
    Con l Z (⟨"java/util/AbstractList", "<init>", "()V"⟩ : MethodName) jdk_39_method_1_code 1 none ws ({ frames := 2, cells := 0, slots := 0, locals := 24 } : Room) #[(.ref a)] h0 (own_Q7 Z a w1 w2 h0 n0) := by
  refine Con.start #[.val (.ref a)] (plainFor_of_name own_pn4) (fun m => by first | (refine own_ef ?_; exact rfl) | (simp [entryFrame, mkF, argsToLocals, Value.category]; done) | rfl) ?_
  intro p e s m below meth c s₁ P X0 hx hby hml hret hlk hown hnm hZ e0 hf
  have hml : c.maxLocals = 1 := hml
  have N0 := Fr.nil n0
  have K0 : Keep h0 h0 [a] := Keep.refl _ _
  refine g_aloadN (pc' := 1) X0 hx hby (v := (.ref a)) own_d7_0 rfl rfl rfl ?_
  refine g_init (argsL := []) (pc' := 4) X0 hx hby (by rw [hml]; rfl) hZ hown rfl e0 (own_rm8 l Z a0 hw [] a  h0 n0 Z0) (hw _ (List.mem_of_getElem? (i := 53) rfl)) (hw _ (List.mem_of_getElem? (i := 54) rfl)) (hw _ (List.mem_of_getElem? (i := 57) rfl)) (hw _ (List.mem_of_getElem? (i := 58) rfl)) (by decide) own_pd0 rfl rfl (W := 0) rfl (by decide) (by decide) (by decide) (by decide) own_d7_1 rfl ?_
  intro T1 v1 L1 X1 qq1
  obtain ⟨rfl, n1, e1⟩ := qq1
  have N1 := Fr.app N0 n1
  show Gf p e below P T1 m 4 #[.val (.ref a)] []
  refine g_aloadN (pc' := 5) X1 hx hby (v := (.ref a)) own_d7_4 rfl rfl rfl ?_
  refine g_iconst (pc' := 6) (v := (0 : Int32)) X1 hx hby own_d7_5 rfl rfl ?_
  refine g_putF (pc' := 9) X1 hx hby hZ hown (host := "") (Or.inl (hw _ (List.mem_of_getElem? (i := 60) rfl))) Via.refl e1 c1 c0 (Or.inl (hw _ (List.mem_of_getElem? (i := 61) rfl))) (hw _ (List.mem_of_getElem? (i := 42) rfl)) (ty := .int) own_fd3 rfl rfl rfl own_d7_6 rfl N1 c4 ?_
  intro T2 h2 X2 e2 W2 N2
  have f3 := c0.wr W2
  have f4 := c1.same W2
  have f5 := c2.other W2 (Or.inr (slot_ne (Or.inl (hw _ (List.mem_of_getElem? (i := 64) rfl))) (Or.inl (hw _ (List.mem_of_getElem? (i := 61) rfl))) own_nes18 own_fd4 own_fd3))
  have f6 := c3.other W2 (Or.inr (slot_ne (Or.inl (hw _ (List.mem_of_getElem? (i := 77) rfl))) (Or.inl (hw _ (List.mem_of_getElem? (i := 61) rfl))) own_nes19 own_fd3 own_fd3))
  have z2 := Nat.le_trans Z0 (Keep.of_wr W2).1
  have K2 := K0.wr W2 (Or.inl (List.mem_of_getElem? (i := 0) rfl))
  exact g_ret X2 hx hby hf hlk hret own_d7_9 rfl (by decide) (by decide) e2 ⟨rfl, N2, K2, f3, f4, f5, f6⟩
theorem own_d6_0 : decode jdk_38_method_2_code 0 = .ok (.aload_n 0, 1) := by decide +kernel
theorem own_d6_1 : decode jdk_38_method_2_code 1 = .ok (.invokespecial 1, 3) := by decide +kernel
theorem own_d6_4 : decode jdk_38_method_2_code 4 = .ok (.aload_n 0, 1) := by decide +kernel
theorem own_d6_5 : decode jdk_38_method_2_code 5 = .ok (.getstatic 39, 3) := by decide +kernel
theorem own_d6_8 : decode jdk_38_method_2_code 8 = .ok (.putfield 9, 3) := by decide +kernel
theorem own_d6_11 : decode jdk_38_method_2_code 11 = .ok (.return_, 1) := by decide +kernel
def own_Q6 (Z : State) (a : Addr) (dE : Addr) (h0 : Heap) (n0 : Nat) (v : Option Value) (h : Heap) (L : List Loc) : Prop := v = none ∧ Fr n0 L ∧ Keep h0 h [a] ∧ Exa Z h a "java/util/ArrayList" ∧ Fld Z h a "java/util/AbstractList" "modCount" "I" (.int (0 : Int32)) ∧ Fld Z h a "java/util/ArrayList" "elementData" "[Ljava/lang/Object;" (.ref dE) ∧ Fld Z h a "java/util/ArrayList" "size" "I" (.int (0 : Int32))
set_option maxRecDepth 65536 in
set_option maxHeartbeats 40000000 in
theorem own_rm6 (l : Launch) (Z : State) (a0 : Array Value) (hw : ∀ d ∈ tables_1, d.before a0 Z = true) (ws : List Jvm.Cond) (a : Addr) (dE : Addr) (h0 : Heap) (n0 : Nat) (Z0 : n0 ≤ h0.size) (c0 : Exa Z h0 a "java/util/ArrayList") (c1 : Fld Z h0 a "java/util/AbstractList" "modCount" "I" (.int (0 : Int32))) (c2 : Fld Z h0 a "java/util/ArrayList" "elementData" "[Ljava/lang/Object;" .null) (c3 : Fld Z h0 a "java/util/ArrayList" "size" "I" (.int (0 : Int32))) (c4 : n0 ≤ a) (c5 : Sta Z h0 "java/util/ArrayList" "DEFAULTCAPACITY_EMPTY_ELEMENTDATA" "[Ljava/lang/Object;" (.ref dE)) :
    Con l Z (⟨"java/util/ArrayList", "<init>", "()V"⟩ : MethodName) jdk_38_method_2_code 1 none ws ({ frames := 3, cells := 0, slots := 0, locals := 36 } : Room) #[(.ref a)] h0 (own_Q6 Z a dE h0 n0) := by
  refine Con.start #[.val (.ref a)] (plainFor_of_name own_pn5) (fun m => by first | (refine own_ef ?_; exact rfl) | (simp [entryFrame, mkF, argsToLocals, Value.category]; done) | rfl) ?_
  intro p e s m below meth c s₁ P X0 hx hby hml hret hlk hown hnm hZ e0 hf
  have hml : c.maxLocals = 1 := hml
  have N0 := Fr.nil n0
  have K0 : Keep h0 h0 [a] := Keep.refl _ _
  refine g_aloadN (pc' := 1) X0 hx hby (v := (.ref a)) own_d6_0 rfl rfl rfl ?_
  refine g_init (argsL := []) (pc' := 4) X0 hx hby (by rw [hml]; rfl) hZ hown rfl e0 (own_rm7 l Z a0 hw [] a .null (.int (0 : Int32)) h0 n0 Z0 c0 c1 c2 c3 c4) (hw _ (List.mem_of_getElem? (i := 47) rfl)) (hw _ (List.mem_of_getElem? (i := 48) rfl)) (hw _ (List.mem_of_getElem? (i := 51) rfl)) (hw _ (List.mem_of_getElem? (i := 52) rfl)) (by decide) own_pd0 rfl rfl (W := 0) rfl (by decide) (by decide) (by decide) (by decide) own_d6_1 rfl ?_
  intro T1 v1 L1 X1 qq1
  obtain ⟨h1, e1⟩ : ∃ h, T1.heap = h := ⟨_, rfl⟩
  rw [e1] at qq1
  obtain ⟨rfl, n1, k1, p1_0, p1_1, p1_2, p1_3⟩ := qq1
  have f2 := c0.keep k1
  have f6 := own_sta_keep c5 k1 (allS ⟨_, c0⟩ all0)
  have z1 := Nat.le_trans Z0 k1.1
  have K1 := K0.trans k1 (allS (Or.inl (List.mem_of_getElem? (i := 0) rfl)) all0)
  have N1 := Fr.app N0 n1
  show Gf p e below P T1 m 4 #[.val (.ref a)] []
  refine g_aloadN (pc' := 5) X1 hx hby (v := (.ref a)) own_d6_4 rfl rfl rfl ?_
  refine g_getS (pc' := 8) X1 hx hby hZ hown (host := "") (Or.inl (hw _ (List.mem_of_getElem? (i := 62) rfl))) Via.refl e1 f6 own_d6_5 rfl ?_
  intro T7 X7 e7
  refine g_putF (pc' := 11) X7 hx hby hZ hown (host := "") (Or.inl (hw _ (List.mem_of_getElem? (i := 63) rfl))) Via.refl e7 p1_2 p1_0 (Or.inl (hw _ (List.mem_of_getElem? (i := 64) rfl))) (hw _ (List.mem_of_getElem? (i := 42) rfl)) (ty := (.array (.object "java/lang/Object"))) own_fd4 rfl rfl rfl own_d6_8 rfl N1 c4 ?_
  intro T8 h8 X8 e8 W8 N8
  have f9 := p1_0.wr W8
  have f10 := f6.wr W8
  have f11 := p1_1.other W8 (Or.inr (slot_ne (Or.inl (hw _ (List.mem_of_getElem? (i := 61) rfl))) (Or.inl (hw _ (List.mem_of_getElem? (i := 64) rfl))) own_nes20 own_fd3 own_fd4))
  have f12 := p1_2.same W8
  have f13 := p1_3.other W8 (Or.inr (slot_ne (Or.inl (hw _ (List.mem_of_getElem? (i := 77) rfl))) (Or.inl (hw _ (List.mem_of_getElem? (i := 64) rfl))) own_nes21 own_fd3 own_fd4))
  have z8 := Nat.le_trans z1 (Keep.of_wr W8).1
  have K8 := K1.wr W8 (Or.inl (List.mem_of_getElem? (i := 0) rfl))
  exact g_ret X8 hx hby hf hlk hret own_d6_11 rfl (by decide) (by decide) e8 ⟨rfl, N8, K8, f9, f11, f12, f13⟩
theorem own_d16_0 : decode jdk_38_method_1_code 0 = .ok (.aload_n 0, 1) := by decide +kernel
theorem own_d16_1 : decode jdk_38_method_1_code 1 = .ok (.invokespecial 1, 3) := by decide +kernel
theorem own_d16_4 : decode jdk_38_method_1_code 4 = .ok (.iload_n 1, 1) := by decide +kernel
theorem own_d16_5 : decode jdk_38_method_1_code 5 = .ok (.ifCond .le 14, 3) := by decide +kernel
theorem own_d16_8 : decode jdk_38_method_1_code 8 = .ok (.aload_n 0, 1) := by decide +kernel
theorem own_d16_9 : decode jdk_38_method_1_code 9 = .ok (.iload_n 1, 1) := by decide +kernel
theorem own_d16_10 : decode jdk_38_method_1_code 10 = .ok (.anewarray 7, 3) := by decide +kernel
theorem own_d16_13 : decode jdk_38_method_1_code 13 = .ok (.putfield 9, 3) := by decide +kernel
theorem own_d16_16 : decode jdk_38_method_1_code 16 = .ok (.goto 44, 3) := by decide +kernel
theorem own_d16_60 : decode jdk_38_method_1_code 60 = .ok (.return_, 1) := by decide +kernel
def own_Q16_2 (Z : State) (a : Addr) (h0 : Heap) (n0 : Nat) (v : Option Value) (h : Heap) (L : List Loc) : Prop := ∃ (r : Addr), ∃ (kN : ClassId), v = none ∧ Fr n0 L ∧ Keep h0 h [a] ∧ Exa Z h a "java/util/ArrayList" ∧ Fld Z h a "java/util/AbstractList" "modCount" "I" (.int (0 : Int32)) ∧ Fld Z h a "java/util/ArrayList" "elementData" "[Ljava/lang/Object;" (.ref r) ∧ Fld Z h a "java/util/ArrayList" "size" "I" (.int (0 : Int32)) ∧ h0.size ≤ r ∧ Exa Z h r "[Ljava/lang/Object;" ∧ Arv Z h r kN (.object "java/lang/Object") (2 : Int32) [.null, .null] .null ∧ Ovr Z kN "java/lang/Object"
set_option maxRecDepth 65536 in
set_option maxHeartbeats 40000000 in
theorem own_rm16_2 (l : Launch) (Z : State) (a0 : Array Value) (hw : ∀ d ∈ tables_1, d.before a0 Z = true) (ws : List Jvm.Cond) (a : Addr) (h0 : Heap) (n0 : Nat) (Z0 : n0 ≤ h0.size) (c0 : Exa Z h0 a "java/util/ArrayList") (c1 : Fld Z h0 a "java/util/AbstractList" "modCount" "I" (.int (0 : Int32))) (c2 : Fld Z h0 a "java/util/ArrayList" "elementData" "[Ljava/lang/Object;" .null) (c3 : Fld Z h0 a "java/util/ArrayList" "size" "I" (.int (0 : Int32))) (c4 : n0 ≤ a) :
    Con l Z (⟨"java/util/ArrayList", "<init>", "(I)V"⟩ : MethodName) jdk_38_method_1_code 2 none ws ({ frames := 3, cells := 1, slots := 2, locals := 36 } : Room) #[(.ref a), (.int (2 : Int32))] h0 (own_Q16_2 Z a h0 n0) := by
  refine Con.start #[.val (.ref a), .val (.int (2 : Int32))] (plainFor_of_name own_pn5) (fun m => by first | (refine own_ef ?_; exact rfl) | (simp [entryFrame, mkF, argsToLocals, Value.category]; done) | rfl) ?_
  intro p e s m below meth c s₁ P X0 hx hby hml hret hlk hown hnm hZ e0 hf
  have hml : c.maxLocals = 2 := hml
  have N0 := Fr.nil n0
  have K0 : Keep h0 h0 [a] := Keep.refl _ _
  refine g_aloadN (pc' := 1) X0 hx hby (v := (.ref a)) own_d16_0 rfl rfl rfl ?_
  refine g_init (argsL := []) (pc' := 4) X0 hx hby (by rw [hml]; rfl) hZ hown rfl e0 (own_rm7 l Z a0 hw [] a .null (.int (0 : Int32)) h0 n0 Z0 c0 c1 c2 c3 c4) (hw _ (List.mem_of_getElem? (i := 47) rfl)) (hw _ (List.mem_of_getElem? (i := 48) rfl)) (hw _ (List.mem_of_getElem? (i := 51) rfl)) (hw _ (List.mem_of_getElem? (i := 52) rfl)) (by decide) own_pd0 rfl rfl (W := 0) rfl (by decide) (by decide) (by decide) (by decide) own_d16_1 rfl ?_
  intro T1 v1 L1 X1 qq1
  obtain ⟨h1, e1⟩ : ∃ h, T1.heap = h := ⟨_, rfl⟩
  rw [e1] at qq1
  obtain ⟨rfl, n1, k1, p1_0, p1_1, p1_2, p1_3⟩ := qq1
  have f2 := c0.keep k1
  have z1 := Nat.le_trans Z0 k1.1
  have K1 := K0.trans k1 (allS (Or.inl (List.mem_of_getElem? (i := 0) rfl)) all0)
  have N1 := Fr.app N0 n1
  show Gf p e below P T1 m 4 #[.val (.ref a), .val (.int (2 : Int32))] []
  refine g_iloadN (pc' := 5) X1 hx hby (v := (2 : Int32)) own_d16_4 rfl rfl ?_
  refine g_ifN (pc' := 8) X1 hx hby own_d16_5 rfl (tlt (by decide : (0 : Int32) < (2 : Int32))).2.2.2 rfl ?_
  refine g_aloadN (pc' := 9) X1 hx hby (v := (.ref a)) own_d16_8 rfl rfl rfl ?_
  refine g_iloadN (pc' := 10) X1 hx hby (v := (2 : Int32)) own_d16_9 rfl rfl ?_
  refine g_newR (pc' := 13) X1 hx hby hZ hown (cap := 2) (hw _ (List.mem_of_getElem? (i := 97) rfl)) (hw _ (List.mem_of_getElem? (i := 98) rfl)) e1 rfl (by decide) (by decide) (by decide) (by decide) (by decide) (ad := "[Ljava/lang/Object;") (by decide) own_d16_10 rfl 2 ?_
  intro T6 h6 kc6 rr X6 e6 E6 V6 A6 O6 q6
  have ne7 : a ≠ rr := by rw [q6]; exact Nat.ne_of_lt p1_0.lt
  have ge6 : n0 ≤ rr := by rw [q6]; exact z1
  have kp6 : h0.size ≤ rr := by rw [q6]; exact K1.1
  have f8 := p1_0.ext E6
  have f9 := p1_1.ext E6
  have f10 := p1_2.ext E6
  have f11 := p1_3.ext E6
  have f6 : Arv Z h6 rr kc6 (.object "java/lang/Object") (2 : Int32) [.null, .null] .null := V6
  have z6 := Nat.le_trans z1 E6.1
  have K6 := K1.ext E6
  refine g_putF (pc' := 16) X6 hx hby hZ hown (host := "") (Or.inl (hw _ (List.mem_of_getElem? (i := 63) rfl))) Via.refl e6 f10 f8 (Or.inl (hw _ (List.mem_of_getElem? (i := 64) rfl))) (hw _ (List.mem_of_getElem? (i := 42) rfl)) (ty := (.array (.object "java/lang/Object"))) own_fd4 rfl rfl rfl own_d16_13 rfl N1 c4 ?_
  intro T12 h12 X12 e12 W12 N12
  have f13 := f8.wr W12
  have f14 := f9.other W12 (Or.inr (slot_ne (Or.inl (hw _ (List.mem_of_getElem? (i := 61) rfl))) (Or.inl (hw _ (List.mem_of_getElem? (i := 64) rfl))) own_nes20 own_fd3 own_fd4))
  have f15 := f10.same W12
  have f16 := f11.other W12 (Or.inr (slot_ne (Or.inl (hw _ (List.mem_of_getElem? (i := 77) rfl))) (Or.inl (hw _ (List.mem_of_getElem? (i := 64) rfl))) own_nes21 own_fd3 own_fd4))
  have f17 := f6.other W12 (Ne.symm ne7)
  have f18 := A6.wr W12
  have z12 := Nat.le_trans z6 (Keep.of_wr W12).1
  have K12 := K6.wr W12 (Or.inl (List.mem_of_getElem? (i := 0) rfl))
  refine g_goto (pc' := 60) X12 hx hby own_d16_16 (by decide) (by decide) ?_
  exact g_ret X12 hx hby hf hlk hret own_d16_60 rfl (by decide) (by decide) e12 ⟨rr, kc6, rfl, N12, K12, f13, f14, f15, f16, kp6, f18, f17, O6⟩
theorem own_d13_0 : decode jdk_29_method_65_code 0 = .ok (.iload_n 0, 1) := by decide +kernel
theorem own_d13_1 : decode jdk_29_method_65_code 1 = .ok (.iload_n 1, 1) := by decide +kernel
theorem own_d13_2 : decode jdk_29_method_65_code 2 = .ok (.if_icmp .lt 7, 3) := by decide +kernel
theorem own_d13_5 : decode jdk_29_method_65_code 5 = .ok (.iload_n 0, 1) := by decide +kernel
theorem own_d13_6 : decode jdk_29_method_65_code 6 = .ok (.goto 4, 3) := by decide +kernel
theorem own_d13_10 : decode jdk_29_method_65_code 10 = .ok (.ireturn, 1) := by decide +kernel
def own_Q13_ (Z : State)  (h0 : Heap) (n0 : Nat) (v : Option Value) (h : Heap) (L : List Loc) : Prop := v = some (.int (10 : Int32)) ∧ Fr n0 L ∧ h = h0
set_option maxRecDepth 65536 in
set_option maxHeartbeats 40000000 in
theorem own_rm13_ (l : Launch) (Z : State) (a0 : Array Value) (hw : ∀ d ∈ tables_1, d.before a0 Z = true) (ws : List Jvm.Cond)  (h0 : Heap) (n0 : Nat) (Z0 : n0 ≤ h0.size) :
    Con l Z (⟨"java/lang/Math", "max", "(II)I"⟩ : MethodName) jdk_29_method_65_code 2 (some .int) ws ({ frames := 0, cells := 0, slots := 0, locals := 0 } : Room) #[(.int (10 : Int32)), (.int (1 : Int32))] h0 (own_Q13_ Z  h0 n0) := by
  refine Con.start #[.val (.int (10 : Int32)), .val (.int (1 : Int32))] own_pn6 (fun m => by first | (refine own_ef ?_; exact rfl) | (simp [entryFrame, mkF, argsToLocals, Value.category]; done) | rfl) ?_
  intro p e s m below meth c s₁ P X0 hx hby hml hret hlk hown hnm hZ e0 hf
  have hml : c.maxLocals = 2 := hml
  have N0 := Fr.nil n0
  refine g_iloadN (pc' := 1) X0 hx hby (v := (10 : Int32)) own_d13_0 rfl rfl ?_
  refine g_iloadN (pc' := 2) X0 hx hby (v := (1 : Int32)) own_d13_1 rfl rfl ?_
  refine g_icN (pc' := 5) X0 hx hby own_d13_2 rfl (flt (by decide : ¬ ((10 : Int32) < (1 : Int32)))).1 rfl ?_
  refine g_iloadN (pc' := 6) X0 hx hby (v := (10 : Int32)) own_d13_5 rfl rfl ?_
  refine g_goto (pc' := 10) X0 hx hby own_d13_6 (by decide) (by decide) ?_
  exact g_retV X0 hx hby hf hlk hret own_d13_10 rfl rfl (Or.inl ⟨rfl, Or.inl rfl, _, rfl⟩) (by decide) (by decide) e0 ⟨rfl, N0, rfl⟩
theorem own_d12_0 : decode jdk_38_method_6_code 0 = .ok (.aload_n 0, 1) := by decide +kernel
theorem own_d12_1 : decode jdk_38_method_6_code 1 = .ok (.getfield 9, 3) := by decide +kernel
theorem own_d12_4 : decode jdk_38_method_6_code 4 = .ok (.arraylength, 1) := by decide +kernel
theorem own_d12_5 : decode jdk_38_method_6_code 5 = .ok (.istore_n 2, 1) := by decide +kernel
theorem own_d12_6 : decode jdk_38_method_6_code 6 = .ok (.iload_n 2, 1) := by decide +kernel
theorem own_d12_7 : decode jdk_38_method_6_code 7 = .ok (.ifCond .gt 13, 3) := by decide +kernel
theorem own_d12_10 : decode jdk_38_method_6_code 10 = .ok (.aload_n 0, 1) := by decide +kernel
theorem own_d12_11 : decode jdk_38_method_6_code 11 = .ok (.getfield 9, 3) := by decide +kernel
theorem own_d12_14 : decode jdk_38_method_6_code 14 = .ok (.getstatic 39, 3) := by decide +kernel
theorem own_d12_17 : decode jdk_38_method_6_code 17 = .ok (.if_acmp .eq 28, 3) := by decide +kernel
theorem own_d12_45 : decode jdk_38_method_6_code 45 = .ok (.aload_n 0, 1) := by decide +kernel
theorem own_d12_46 : decode jdk_38_method_6_code 46 = .ok (.bipush 10, 2) := by decide +kernel
theorem own_d12_48 : decode jdk_38_method_6_code 48 = .ok (.iload_n 1, 1) := by decide +kernel
theorem own_d12_49 : decode jdk_38_method_6_code 49 = .ok (.invokestatic 79, 3) := by decide +kernel
theorem own_d12_52 : decode jdk_38_method_6_code 52 = .ok (.anewarray 7, 3) := by decide +kernel
theorem own_d12_55 : decode jdk_38_method_6_code 55 = .ok (.dup_x1, 1) := by decide +kernel
theorem own_d12_56 : decode jdk_38_method_6_code 56 = .ok (.putfield 9, 3) := by decide +kernel
theorem own_d12_59 : decode jdk_38_method_6_code 59 = .ok (.areturn, 1) := by decide +kernel
def own_Q12_1 (Z : State) (a : Addr) (dE : Addr) (kD : ClassId) (mcv : Value) (szv : Value) (h0 : Heap) (n0 : Nat) (v : Option Value) (h : Heap) (L : List Loc) : Prop := ∃ (r : Addr), ∃ (kN : ClassId), v = some (.ref r) ∧ Fr n0 L ∧ Keep h0 h [a] ∧ Exa Z h a "java/util/ArrayList" ∧ Fld Z h a "java/util/AbstractList" "modCount" "I" mcv ∧ Fld Z h a "java/util/ArrayList" "elementData" "[Ljava/lang/Object;" (.ref r) ∧ Fld Z h a "java/util/ArrayList" "size" "I" szv ∧ h0.size ≤ r ∧ Exa Z h r "[Ljava/lang/Object;" ∧ Arv Z h r kN (.object "java/lang/Object") (10 : Int32) [.null, .null, .null, .null, .null, .null, .null, .null, .null, .null] .null ∧ Ovr Z kN "java/lang/Object"
set_option maxRecDepth 65536 in
set_option maxHeartbeats 40000000 in
theorem own_rm12_1 (l : Launch) (Z : State) (a0 : Array Value) (hw : ∀ d ∈ tables_1, d.before a0 Z = true) (ws : List Jvm.Cond) (a : Addr) (dE : Addr) (kD : ClassId) (mcv : Value) (szv : Value) (h0 : Heap) (n0 : Nat) (Z0 : n0 ≤ h0.size) (c0 : Exa Z h0 a "java/util/ArrayList") (c1 : Fld Z h0 a "java/util/AbstractList" "modCount" "I" mcv) (c2 : Fld Z h0 a "java/util/ArrayList" "elementData" "[Ljava/lang/Object;" (.ref dE)) (c3 : Fld Z h0 a "java/util/ArrayList" "size" "I" szv) (c4 : n0 ≤ a) (c5 : Sta Z h0 "java/util/ArrayList" "DEFAULTCAPACITY_EMPTY_ELEMENTDATA" "[Ljava/lang/Object;" (.ref dE)) (c6 : Arv Z h0 dE kD (.object "java/lang/Object") (0 : Int32) [] .null) (ne_d : dE ≠ a) :
    Con l Z (⟨"java/util/ArrayList", "grow", "(I)[Ljava/lang/Object;"⟩ : MethodName) jdk_38_method_6_code 4 (some (.array (.object "java/lang/Object"))) ws ({ frames := 1, cells := 1, slots := 10, locals := 14 } : Room) #[(.ref a), (.int (1 : Int32))] h0 (own_Q12_1 Z a dE kD mcv szv h0 n0) := by
  refine Con.start #[.val (.ref a), .val (.int (1 : Int32)), .unset, .unset] (plainFor_of_name own_pn5) (fun m => by first | (refine own_ef ?_; exact rfl) | (simp [entryFrame, mkF, argsToLocals, Value.category]; done) | rfl) ?_
  intro p e s m below meth c s₁ P X0 hx hby hml hret hlk hown hnm hZ e0 hf
  have hml : c.maxLocals = 4 := hml
  have N0 := Fr.nil n0
  have K0 : Keep h0 h0 [a] := Keep.refl _ _
  refine g_aloadN (pc' := 1) X0 hx hby (v := (.ref a)) own_d12_0 rfl rfl rfl ?_
  refine g_getF (pc' := 4) X0 hx hby hZ hown (host := "") (Or.inl (hw _ (List.mem_of_getElem? (i := 63) rfl))) Via.refl e0 c2 rfl own_d12_1 rfl ?_
  intro T1 X1 e1
  refine g_len (pc' := 5) X1 hx hby hZ e1 c6 rfl own_d12_4 rfl ?_
  refine g_istoreN (pc' := 6) (Ls' := #[.val (.ref a), .val (.int (1 : Int32)), .val (.int (0 : Int32)), .unset]) X1 hx hby own_d12_5 rfl rfl rfl ?_
  refine g_iloadN (pc' := 7) X1 hx hby (v := (0 : Int32)) own_d12_6 rfl rfl ?_
  refine g_ifN (pc' := 10) X1 hx hby own_d12_7 rfl (flt (by decide : ¬ ((0 : Int32) < (0 : Int32)))).2.2.1 rfl ?_
  refine g_aloadN (pc' := 11) X1 hx hby (v := (.ref a)) own_d12_10 rfl rfl rfl ?_
  refine g_getF (pc' := 14) X1 hx hby hZ hown (host := "") (Or.inl (hw _ (List.mem_of_getElem? (i := 63) rfl))) Via.refl e1 c2 rfl own_d12_11 rfl ?_
  intro T2 X2 e2
  refine g_getS (pc' := 17) X2 hx hby hZ hown (host := "") (Or.inl (hw _ (List.mem_of_getElem? (i := 62) rfl))) Via.refl e2 c5 own_d12_14 rfl ?_
  intro T3 X3 e3
  refine g_acmp (pc' := 45) X3 hx hby (same := true) own_d12_17 rfl rfl rfl (decide_eq_true rfl) (by decide) (by decide) ?_
  refine g_aloadN (pc' := 46) X3 hx hby (v := (.ref a)) own_d12_45 rfl rfl rfl ?_
  refine g_bipush (pc' := 48) (v := (10 : Int32)) X3 hx hby own_d12_46 rfl rfl ?_
  refine g_iloadN (pc' := 49) X3 hx hby (v := (1 : Int32)) own_d12_48 rfl rfl ?_
  refine g_callS (argsL := [(.int (10 : Int32)), (.int (1 : Int32))]) (pc' := 52) X3 hx hby (by rw [hml]; rfl) hZ hown e3 (own_rm13_ l Z a0 hw []   h0 n0 Z0) (hw _ (List.mem_of_getElem? (i := 93) rfl)) (hw _ (List.mem_of_getElem? (i := 94) rfl)) (hw _ (List.mem_of_getElem? (i := 95) rfl)) (hw _ (List.mem_of_getElem? (i := 96) rfl)) (by decide) own_pd1 rfl rfl (W := 1) rfl (by decide) (by decide) (by decide) (by decide) own_d12_49 rfl ?_
  intro T4 v4 L4 X4 qq4
  obtain ⟨rfl, n4, e4⟩ := qq4
  have N4 := Fr.app N0 n4
  show Gf p e below P T4 m 52 #[.val (.ref a), .val (.int (1 : Int32)), .val (.int (0 : Int32)), .unset] [(.int (10 : Int32)), (.ref a)]
  refine g_newR (pc' := 55) X4 hx hby hZ hown (cap := 10) (hw _ (List.mem_of_getElem? (i := 97) rfl)) (hw _ (List.mem_of_getElem? (i := 98) rfl)) e4 rfl (by decide) (by decide) (by decide) (by decide) (by decide) (ad := "[Ljava/lang/Object;") (by decide) own_d12_52 rfl 10 ?_
  intro T5 h5 kc5 rr X5 e5 E5 V5 A5 O5 q5
  have ne6 : a ≠ rr := by rw [q5]; exact Nat.ne_of_lt c0.lt
  have ne7 : dE ≠ rr := by rw [q5]; exact Nat.ne_of_lt c6.lt
  have ge5 : n0 ≤ rr := by rw [q5]; exact Z0
  have kp5 : h0.size ≤ rr := by rw [q5]; exact K0.1
  have f8 := c0.ext E5
  have f9 := c1.ext E5
  have f10 := c2.ext E5
  have f11 := c3.ext E5
  have f12 := c5.ext E5
  have f13 := c6.ext E5
  have f5 : Arv Z h5 rr kc5 (.object "java/lang/Object") (10 : Int32) [.null, .null, .null, .null, .null, .null, .null, .null, .null, .null] .null := V5
  have z5 := Nat.le_trans Z0 E5.1
  have K5 := K0.ext E5
  refine g_dupx1 (pc' := 56) X5 hx hby own_d12_55 rfl rfl rfl rfl ?_
  refine g_putF (pc' := 59) X5 hx hby hZ hown (host := "") (Or.inl (hw _ (List.mem_of_getElem? (i := 63) rfl))) Via.refl e5 f10 f8 (Or.inl (hw _ (List.mem_of_getElem? (i := 64) rfl))) (hw _ (List.mem_of_getElem? (i := 42) rfl)) (ty := (.array (.object "java/lang/Object"))) own_fd4 rfl rfl rfl own_d12_56 rfl N4 c4 ?_
  intro T14 h14 X14 e14 W14 N14
  have f15 := f8.wr W14
  have f16 := f9.other W14 (Or.inr (slot_ne (Or.inl (hw _ (List.mem_of_getElem? (i := 61) rfl))) (Or.inl (hw _ (List.mem_of_getElem? (i := 64) rfl))) own_nes20 own_fd3 own_fd4))
  have f17 := f10.same W14
  have f18 := f11.other W14 (Or.inr (slot_ne (Or.inl (hw _ (List.mem_of_getElem? (i := 77) rfl))) (Or.inl (hw _ (List.mem_of_getElem? (i := 64) rfl))) own_nes21 own_fd3 own_fd4))
  have f19 := f12.wr W14
  have f20 := f13.other W14 ne_d
  have f21 := f5.other W14 (Ne.symm ne6)
  have f22 := A5.wr W14
  have z14 := Nat.le_trans z5 (Keep.of_wr W14).1
  have K14 := K5.wr W14 (Or.inl (List.mem_of_getElem? (i := 0) rfl))
  exact g_retV X14 hx hby hf hlk hret own_d12_59 rfl rfl (Or.inr (Or.inr (Or.inr (Or.inr ⟨rfl, rfl, rfl⟩)))) (by decide) (by decide) e14 ⟨rr, kc5, rfl, N14, K14, f15, f16, f17, f18, kp5, f22, f21, O5⟩
theorem own_d11_0 : decode jdk_38_method_7_code 0 = .ok (.aload_n 0, 1) := by decide +kernel
theorem own_d11_1 : decode jdk_38_method_7_code 1 = .ok (.aload_n 0, 1) := by decide +kernel
theorem own_d11_2 : decode jdk_38_method_7_code 2 = .ok (.getfield 48, 3) := by decide +kernel
theorem own_d11_5 : decode jdk_38_method_7_code 5 = .ok (.iconst 1, 1) := by decide +kernel
theorem own_d11_6 : decode jdk_38_method_7_code 6 = .ok (.iadd, 1) := by decide +kernel
theorem own_d11_7 : decode jdk_38_method_7_code 7 = .ok (.invokevirtual 69, 3) := by decide +kernel
theorem own_d11_10 : decode jdk_38_method_7_code 10 = .ok (.areturn, 1) := by decide +kernel
def own_Q11 (Z : State) (a : Addr) (dE : Addr) (kD : ClassId) (mcv : Value) (h0 : Heap) (n0 : Nat) (v : Option Value) (h : Heap) (L : List Loc) : Prop := ∃ (r : Addr), ∃ (kN : ClassId), v = some (.ref r) ∧ Fr n0 L ∧ Keep h0 h [a] ∧ Exa Z h a "java/util/ArrayList" ∧ Fld Z h a "java/util/AbstractList" "modCount" "I" mcv ∧ Fld Z h a "java/util/ArrayList" "elementData" "[Ljava/lang/Object;" (.ref r) ∧ Fld Z h a "java/util/ArrayList" "size" "I" (.int (0 : Int32)) ∧ h0.size ≤ r ∧ Exa Z h r "[Ljava/lang/Object;" ∧ Arv Z h r kN (.object "java/lang/Object") (10 : Int32) [.null, .null, .null, .null, .null, .null, .null, .null, .null, .null] .null ∧ Ovr Z kN "java/lang/Object"
set_option maxRecDepth 65536 in
set_option maxHeartbeats 40000000 in
theorem own_rm11 (l : Launch) (Z : State) (a0 : Array Value) (hw : ∀ d ∈ tables_1, d.before a0 Z = true) (ws : List Jvm.Cond) (a : Addr) (dE : Addr) (kD : ClassId) (mcv : Value) (h0 : Heap) (n0 : Nat) (Z0 : n0 ≤ h0.size) (c0 : Exa Z h0 a "java/util/ArrayList") (c1 : Fld Z h0 a "java/util/AbstractList" "modCount" "I" mcv) (c2 : Fld Z h0 a "java/util/ArrayList" "elementData" "[Ljava/lang/Object;" (.ref dE)) (c3 : Fld Z h0 a "java/util/ArrayList" "size" "I" (.int (0 : Int32))) (c4 : n0 ≤ a) (c5 : Sta Z h0 "java/util/ArrayList" "DEFAULTCAPACITY_EMPTY_ELEMENTDATA" "[Ljava/lang/Object;" (.ref dE)) (c6 : Arv Z h0 dE kD (.object "java/lang/Object") (0 : Int32) [] .null) (ne_d : dE ≠ a) :
    Con l Z (⟨"java/util/ArrayList", "grow", "()[Ljava/lang/Object;"⟩ : MethodName) jdk_38_method_7_code 1 (some (.array (.object "java/lang/Object"))) ws ({ frames := 2, cells := 1, slots := 10, locals := 29 } : Room) #[(.ref a)] h0 (own_Q11 Z a dE kD mcv h0 n0) := by
  refine Con.start #[.val (.ref a)] (plainFor_of_name own_pn5) (fun m => by first | (refine own_ef ?_; exact rfl) | (simp [entryFrame, mkF, argsToLocals, Value.category]; done) | rfl) ?_
  intro p e s m below meth c s₁ P X0 hx hby hml hret hlk hown hnm hZ e0 hf
  have hml : c.maxLocals = 1 := hml
  have N0 := Fr.nil n0
  have K0 : Keep h0 h0 [a] := Keep.refl _ _
  refine g_aloadN (pc' := 1) X0 hx hby (v := (.ref a)) own_d11_0 rfl rfl rfl ?_
  refine g_aloadN (pc' := 2) X0 hx hby (v := (.ref a)) own_d11_1 rfl rfl rfl ?_
  refine g_getF (pc' := 5) X0 hx hby hZ hown (host := "") (Or.inl (hw _ (List.mem_of_getElem? (i := 76) rfl))) Via.refl e0 c3 rfl own_d11_2 rfl ?_
  intro T1 X1 e1
  refine g_iconst (pc' := 6) (v := (1 : Int32)) X1 hx hby own_d11_5 rfl rfl ?_
  refine g_iadd (pc' := 7) (v := (1 : Int32)) X1 hx hby own_d11_6 rfl rfl rfl ?_
  refine g_priv (argsL := [(.int (1 : Int32))]) (pc' := 10) X1 hx hby (by rw [hml]; rfl) hZ hown e1 (own_rm12_1 l Z a0 hw [] a dE kD mcv (.int (0 : Int32)) h0 n0 Z0 c0 c1 c2 c3 c4 c5 c6 ne_d) (hw _ (List.mem_of_getElem? (i := 88) rfl)) (hw _ (List.mem_of_getElem? (i := 90) rfl)) (hw _ (List.mem_of_getElem? (i := 91) rfl)) (hw _ (List.mem_of_getElem? (i := 89) rfl)) (hw _ (List.mem_of_getElem? (i := 43) rfl)) (hw _ (List.mem_of_getElem? (i := 92) rfl)) (by decide) c0 own_pd2 rfl rfl (W := 0) rfl (by decide) (by decide) (by decide) (by decide) own_d11_7 rfl ?_
  intro T2 v2 L2 X2 qq2
  obtain ⟨h2, e2⟩ : ∃ h, T2.heap = h := ⟨_, rfl⟩
  rw [e2] at qq2
  obtain ⟨rr, kr, rfl, n2, k2, p2_0, p2_1, p2_2, p2_3, p2_4, p2_5, p2_6, p2_7⟩ := qq2
  have f3 := c0.keep k2
  have f7 := own_sta_keep c5 k2 (allS ⟨_, c0⟩ all0)
  have f8 := c6.keep k2 (ninS ne_d nin0)
  have ge9 : n0 ≤ rr := Nat.le_trans Z0 p2_4
  have ne10 : a ≠ rr := Nat.ne_of_lt (Nat.lt_of_lt_of_le c0.lt p2_4)
  have ne11 : dE ≠ rr := Nat.ne_of_lt (Nat.lt_of_lt_of_le c6.lt p2_4)
  have kp12 : h0.size ≤ rr := Nat.le_trans K0.1 p2_4
  have z2 := Nat.le_trans Z0 k2.1
  have K2 := K0.trans k2 (allS (Or.inl (List.mem_of_getElem? (i := 0) rfl)) all0)
  have N2 := Fr.app N0 n2
  show Gf p e below P T2 m 10 #[.val (.ref a)] [(.ref rr)]
  exact g_retV X2 hx hby hf hlk hret own_d11_10 rfl rfl (Or.inr (Or.inr (Or.inr (Or.inr ⟨rfl, rfl, rfl⟩)))) (by decide) (by decide) e2 ⟨rr, kr, rfl, N2, K2, p2_0, p2_1, p2_2, p2_3, kp12, p2_5, p2_6, p2_7⟩
theorem own_d10_0 : decode jdk_38_method_24_code 0 = .ok (.iload_n 3, 1) := by decide +kernel
theorem own_d10_1 : decode jdk_38_method_24_code 1 = .ok (.aload_n 2, 1) := by decide +kernel
theorem own_d10_2 : decode jdk_38_method_24_code 2 = .ok (.arraylength, 1) := by decide +kernel
theorem own_d10_3 : decode jdk_38_method_24_code 3 = .ok (.if_icmp .ne 8, 3) := by decide +kernel
theorem own_d10_6 : decode jdk_38_method_24_code 6 = .ok (.aload_n 0, 1) := by decide +kernel
theorem own_d10_7 : decode jdk_38_method_24_code 7 = .ok (.invokevirtual 129, 3) := by decide +kernel
theorem own_d10_10 : decode jdk_38_method_24_code 10 = .ok (.astore_n 2, 1) := by decide +kernel
theorem own_d10_11 : decode jdk_38_method_24_code 11 = .ok (.aload_n 2, 1) := by decide +kernel
theorem own_d10_12 : decode jdk_38_method_24_code 12 = .ok (.iload_n 3, 1) := by decide +kernel
theorem own_d10_13 : decode jdk_38_method_24_code 13 = .ok (.aload_n 1, 1) := by decide +kernel
theorem own_d10_14 : decode jdk_38_method_24_code 14 = .ok (.aastore, 1) := by decide +kernel
theorem own_d10_15 : decode jdk_38_method_24_code 15 = .ok (.aload_n 0, 1) := by decide +kernel
theorem own_d10_16 : decode jdk_38_method_24_code 16 = .ok (.iload_n 3, 1) := by decide +kernel
theorem own_d10_17 : decode jdk_38_method_24_code 17 = .ok (.iconst 1, 1) := by decide +kernel
theorem own_d10_18 : decode jdk_38_method_24_code 18 = .ok (.iadd, 1) := by decide +kernel
theorem own_d10_19 : decode jdk_38_method_24_code 19 = .ok (.putfield 48, 3) := by decide +kernel
theorem own_d10_22 : decode jdk_38_method_24_code 22 = .ok (.return_, 1) := by decide +kernel
def own_Q10g (Z : State) (a : Addr) (x : Addr) (dE : Addr) (kD : ClassId) (mcv : Value) (h0 : Heap) (n0 : Nat) (v : Option Value) (h : Heap) (L : List Loc) : Prop := ∃ (r : Addr), ∃ (kN : ClassId), v = none ∧ Fr n0 L ∧ Keep h0 h [a] ∧ Exa Z h a "java/util/ArrayList" ∧ Fld Z h a "java/util/AbstractList" "modCount" "I" mcv ∧ Fld Z h a "java/util/ArrayList" "elementData" "[Ljava/lang/Object;" (.ref r) ∧ Fld Z h a "java/util/ArrayList" "size" "I" (.int (1 : Int32)) ∧ h0.size ≤ r ∧ Exa Z h r "[Ljava/lang/Object;" ∧ Arv Z h r kN (.object "java/lang/Object") (10 : Int32) [(.ref x), .null, .null, .null, .null, .null, .null, .null, .null, .null] .null ∧ Ovr Z kN "java/lang/Object"
set_option maxRecDepth 65536 in
set_option maxHeartbeats 40000000 in
theorem own_rm10g (l : Launch) (Z : State) (a0 : Array Value) (hw : ∀ d ∈ tables_1, d.before a0 Z = true) (ws : List Jvm.Cond) (a : Addr) (x : Addr) (dE : Addr) (kD : ClassId) (mcv : Value) (h0 : Heap) (n0 : Nat) (Z0 : n0 ≤ h0.size) (c0 : Exa Z h0 a "java/util/ArrayList") (c1 : Fld Z h0 a "java/util/AbstractList" "modCount" "I" mcv) (c2 : Fld Z h0 a "java/util/ArrayList" "elementData" "[Ljava/lang/Object;" (.ref dE)) (c3 : Fld Z h0 a "java/util/ArrayList" "size" "I" (.int (0 : Int32))) (c4 : n0 ≤ a) (c5 : Sta Z h0 "java/util/ArrayList" "DEFAULTCAPACITY_EMPTY_ELEMENTDATA" "[Ljava/lang/Object;" (.ref dE)) (c6 : Arv Z h0 dE kD (.object "java/lang/Object") (0 : Int32) [] .null) (ne_d : dE ≠ a) (c8 : Exa Z h0 x "com/example/rowcast/rowcast/Histogram$CountedEndpoint") :
    Con l Z (⟨"java/util/ArrayList", "add", "(Ljava/lang/Object;[Ljava/lang/Object;I)V"⟩ : MethodName) jdk_38_method_24_code 4 none ws ({ frames := 3, cells := 1, slots := 10, locals := 41 } : Room) #[(.ref a), (.ref x), (.ref dE), (.int (0 : Int32))] h0 (own_Q10g Z a x dE kD mcv h0 n0) := by
  refine Con.start #[.val (.ref a), .val (.ref x), .val (.ref dE), .val (.int (0 : Int32))] (plainFor_of_name own_pn5) (fun m => by first | (refine own_ef ?_; exact rfl) | (simp [entryFrame, mkF, argsToLocals, Value.category]; done) | rfl) ?_
  intro p e s m below meth c s₁ P X0 hx hby hml hret hlk hown hnm hZ e0 hf
  have hml : c.maxLocals = 4 := hml
  have N0 := Fr.nil n0
  have K0 : Keep h0 h0 [a] := Keep.refl _ _
  refine g_iloadN (pc' := 1) X0 hx hby (v := (0 : Int32)) own_d10_0 rfl rfl ?_
  refine g_aloadN (pc' := 2) X0 hx hby (v := (.ref dE)) own_d10_1 rfl rfl rfl ?_
  refine g_len (pc' := 3) X0 hx hby hZ e0 c6 rfl own_d10_2 rfl ?_
  refine g_icN (pc' := 6) X0 hx hby own_d10_3 rfl (teq (by decide : (0 : Int32) = (0 : Int32))).2 rfl ?_
  refine g_aloadN (pc' := 7) X0 hx hby (v := (.ref a)) own_d10_6 rfl rfl rfl ?_
  refine g_priv (argsL := []) (pc' := 10) X0 hx hby (by rw [hml]; rfl) hZ hown e0 (own_rm11 l Z a0 hw [] a dE kD mcv h0 n0 Z0 c0 c1 c2 c3 c4 c5 c6 ne_d) (hw _ (List.mem_of_getElem? (i := 83) rfl)) (hw _ (List.mem_of_getElem? (i := 85) rfl)) (hw _ (List.mem_of_getElem? (i := 86) rfl)) (hw _ (List.mem_of_getElem? (i := 84) rfl)) (hw _ (List.mem_of_getElem? (i := 43) rfl)) (hw _ (List.mem_of_getElem? (i := 87) rfl)) (by decide) c0 own_pd3 rfl rfl (W := 0) rfl (by decide) (by decide) (by decide) (by decide) own_d10_7 rfl ?_
  intro T1 v1 L1 X1 qq1
  obtain ⟨h1, e1⟩ : ∃ h, T1.heap = h := ⟨_, rfl⟩
  rw [e1] at qq1
  obtain ⟨rr, kr, rfl, n1, k1, p1_0, p1_1, p1_2, p1_3, p1_4, p1_5, p1_6, p1_7⟩ := qq1
  have f2 := c0.keep k1
  have f6 := own_sta_keep c5 k1 (allS ⟨_, c0⟩ all0)
  have f7 := c6.keep k1 (ninS ne_d nin0)
  have f8 := c8.keep k1
  have ge9 : n0 ≤ rr := Nat.le_trans Z0 p1_4
  have ne10 : a ≠ rr := Nat.ne_of_lt (Nat.lt_of_lt_of_le c0.lt p1_4)
  have ne11 : dE ≠ rr := Nat.ne_of_lt (Nat.lt_of_lt_of_le c6.lt p1_4)
  have ne12 : x ≠ rr := Nat.ne_of_lt (Nat.lt_of_lt_of_le c8.lt p1_4)
  have kp13 : h0.size ≤ rr := Nat.le_trans K0.1 p1_4
  have z1 := Nat.le_trans Z0 k1.1
  have K1 := K0.trans k1 (allS (Or.inl (List.mem_of_getElem? (i := 0) rfl)) all0)
  have N1 := Fr.app N0 n1
  show Gf p e below P T1 m 10 #[.val (.ref a), .val (.ref x), .val (.ref dE), .val (.int (0 : Int32))] [(.ref rr)]
  refine g_astoreN (pc' := 11) (Ls' := #[.val (.ref a), .val (.ref x), .val (.ref rr), .val (.int (0 : Int32))]) X1 hx hby own_d10_10 rfl rfl rfl rfl ?_
  refine g_aloadN (pc' := 12) X1 hx hby (v := (.ref rr)) own_d10_11 rfl rfl rfl ?_
  refine g_iloadN (pc' := 13) X1 hx hby (v := (0 : Int32)) own_d10_12 rfl rfl ?_
  refine g_aloadN (pc' := 14) X1 hx hby (v := (.ref x)) own_d10_13 rfl rfl rfl ?_
  refine g_stR (pc' := 15) X1 hx hby hZ e1 p1_6 p1_7 (Ins.of_exa f8 (hw _ (List.mem_of_getElem? (i := 99) rfl))) ⟨by decide, by decide⟩ 0 rfl (Nat.le_of_ble_eq_true rfl) rfl own_d10_14 rfl N1 ge9 ?_
  intro T14 h14 X14 e14 W14 N14 V14
  have f15 := p1_0.wr W14
  have f16 := f6.wr W14
  have f17 := f7.other W14 ne11
  have f18 := f8.wr W14
  have f19 := p1_1.other W14 (Or.inl ne10)
  have f20 := p1_2.other W14 (Or.inl ne10)
  have f21 := p1_3.other W14 (Or.inl ne10)
  have f22 := p1_5.wr W14
  have z14 := Nat.le_trans z1 (Keep.of_wr W14).1
  have K14 := K1.wr W14 (Or.inr kp13)
  have f14 : Arv Z h14 rr kr (.object "java/lang/Object") (10 : Int32) [(.ref x), .null, .null, .null, .null, .null, .null, .null, .null, .null] .null := V14
  refine g_aloadN (pc' := 16) X14 hx hby (v := (.ref a)) own_d10_15 rfl rfl rfl ?_
  refine g_iloadN (pc' := 17) X14 hx hby (v := (0 : Int32)) own_d10_16 rfl rfl ?_
  refine g_iconst (pc' := 18) (v := (1 : Int32)) X14 hx hby own_d10_17 rfl rfl ?_
  refine g_iadd (pc' := 19) (v := (1 : Int32)) X14 hx hby own_d10_18 rfl rfl rfl ?_
  refine g_putF (pc' := 22) X14 hx hby hZ hown (host := "") (Or.inl (hw _ (List.mem_of_getElem? (i := 76) rfl))) Via.refl e14 f21 f15 (Or.inl (hw _ (List.mem_of_getElem? (i := 77) rfl))) (hw _ (List.mem_of_getElem? (i := 42) rfl)) (ty := .int) own_fd3 rfl rfl rfl own_d10_19 rfl N14 c4 ?_
  intro T23 h23 X23 e23 W23 N23
  have f24 := f15.wr W23
  have f25 := f16.wr W23
  have f26 := f17.other W23 ne_d
  have f27 := f18.wr W23
  have f28 := f19.other W23 (Or.inr (slot_ne (Or.inl (hw _ (List.mem_of_getElem? (i := 61) rfl))) (Or.inl (hw _ (List.mem_of_getElem? (i := 77) rfl))) own_nes22 own_fd3 own_fd3))
  have f29 := f20.other W23 (Or.inr (slot_ne (Or.inl (hw _ (List.mem_of_getElem? (i := 64) rfl))) (Or.inl (hw _ (List.mem_of_getElem? (i := 77) rfl))) own_nes23 own_fd4 own_fd3))
  have f30 := f21.same W23
  have f31 := f22.wr W23
  have f32 := f14.other W23 (Ne.symm ne10)
  have z23 := Nat.le_trans z14 (Keep.of_wr W23).1
  have K23 := K14.wr W23 (Or.inl (List.mem_of_getElem? (i := 0) rfl))
  exact g_ret X23 hx hby hf hlk hret own_d10_22 rfl (by decide) (by decide) e23 ⟨rr, kr, rfl, N23, K23, f24, f28, f29, f30, kp13, f31, f32, p1_7⟩
theorem own_d9_0 : decode jdk_38_method_25_code 0 = .ok (.aload_n 0, 1) := by decide +kernel
theorem own_d9_1 : decode jdk_38_method_25_code 1 = .ok (.dup, 1) := by decide +kernel
theorem own_d9_2 : decode jdk_38_method_25_code 2 = .ok (.getfield 63, 3) := by decide +kernel
theorem own_d9_5 : decode jdk_38_method_25_code 5 = .ok (.iconst 1, 1) := by decide +kernel
theorem own_d9_6 : decode jdk_38_method_25_code 6 = .ok (.iadd, 1) := by decide +kernel
theorem own_d9_7 : decode jdk_38_method_25_code 7 = .ok (.putfield 63, 3) := by decide +kernel
theorem own_d9_10 : decode jdk_38_method_25_code 10 = .ok (.aload_n 0, 1) := by decide +kernel
theorem own_d9_11 : decode jdk_38_method_25_code 11 = .ok (.aload_n 1, 1) := by decide +kernel
theorem own_d9_12 : decode jdk_38_method_25_code 12 = .ok (.aload_n 0, 1) := by decide +kernel
theorem own_d9_13 : decode jdk_38_method_25_code 13 = .ok (.getfield 9, 3) := by decide +kernel
theorem own_d9_16 : decode jdk_38_method_25_code 16 = .ok (.aload_n 0, 1) := by decide +kernel
theorem own_d9_17 : decode jdk_38_method_25_code 17 = .ok (.getfield 48, 3) := by decide +kernel
theorem own_d9_20 : decode jdk_38_method_25_code 20 = .ok (.invokevirtual 131, 3) := by decide +kernel
theorem own_d9_23 : decode jdk_38_method_25_code 23 = .ok (.iconst 1, 1) := by decide +kernel
theorem own_d9_24 : decode jdk_38_method_25_code 24 = .ok (.ireturn, 1) := by decide +kernel
def own_Q9g (Z : State) (a : Addr) (x : Addr) (dE : Addr) (kD : ClassId) (mc : Int32) (h0 : Heap) (n0 : Nat) (v : Option Value) (h : Heap) (L : List Loc) : Prop := ∃ (r : Addr), ∃ (kN : ClassId), v = some (.int (1 : Int32)) ∧ Fr n0 L ∧ Keep h0 h [a] ∧ Exa Z h a "java/util/ArrayList" ∧ Fld Z h a "java/util/AbstractList" "modCount" "I" (.int (mc + (1 : Int32))) ∧ Fld Z h a "java/util/ArrayList" "elementData" "[Ljava/lang/Object;" (.ref r) ∧ Fld Z h a "java/util/ArrayList" "size" "I" (.int (1 : Int32)) ∧ h0.size ≤ r ∧ Exa Z h r "[Ljava/lang/Object;" ∧ Arv Z h r kN (.object "java/lang/Object") (10 : Int32) [(.ref x), .null, .null, .null, .null, .null, .null, .null, .null, .null] .null ∧ Ovr Z kN "java/lang/Object"
set_option maxRecDepth 65536 in
set_option maxHeartbeats 40000000 in
theorem own_rm9g (l : Launch) (Z : State) (a0 : Array Value) (hw : ∀ d ∈ tables_1, d.before a0 Z = true) (ws : List Jvm.Cond) (a : Addr) (x : Addr) (dE : Addr) (kD : ClassId) (mc : Int32) (h0 : Heap) (n0 : Nat) (Z0 : n0 ≤ h0.size) (c0 : Exa Z h0 a "java/util/ArrayList") (c1 : Fld Z h0 a "java/util/AbstractList" "modCount" "I" (.int mc)) (c2 : Fld Z h0 a "java/util/ArrayList" "elementData" "[Ljava/lang/Object;" (.ref dE)) (c3 : Fld Z h0 a "java/util/ArrayList" "size" "I" (.int (0 : Int32))) (c4 : n0 ≤ a) (c5 : Sta Z h0 "java/util/ArrayList" "DEFAULTCAPACITY_EMPTY_ELEMENTDATA" "[Ljava/lang/Object;" (.ref dE)) (c6 : Arv Z h0 dE kD (.object "java/lang/Object") (0 : Int32) [] .null) (ne_d : dE ≠ a) (c8 : Exa Z h0 x "com/example/rowcast/rowcast/Histogram$CountedEndpoint") :
    Con l Z (⟨"java/util/ArrayList", "add", "(Ljava/lang/Object;)Z"⟩ : MethodName) jdk_38_method_25_code 2 (some .boolean) ws ({ frames := 4, cells := 1, slots := 10, locals := 56 } : Room) #[(.ref a), (.ref x)] h0 (own_Q9g Z a x dE kD mc h0 n0) := by
  refine Con.start #[.val (.ref a), .val (.ref x)] (plainFor_of_name own_pn5) (fun m => by first | (refine own_ef ?_; exact rfl) | (simp [entryFrame, mkF, argsToLocals, Value.category]; done) | rfl) ?_
  intro p e s m below meth c s₁ P X0 hx hby hml hret hlk hown hnm hZ e0 hf
  have hml : c.maxLocals = 2 := hml
  have N0 := Fr.nil n0
  have K0 : Keep h0 h0 [a] := Keep.refl _ _
  refine g_aloadN (pc' := 1) X0 hx hby (v := (.ref a)) own_d9_0 rfl rfl rfl ?_
  refine g_dup (pc' := 2) X0 hx hby own_d9_1 rfl rfl rfl ?_
  refine g_getF (pc' := 5) X0 hx hby hZ hown (host := "") (Or.inl (hw _ (List.mem_of_getElem? (i := 74) rfl))) (Via.of (hw _ (List.mem_of_getElem? (i := 75) rfl))) e0 c1 rfl own_d9_2 rfl ?_
  intro T1 X1 e1
  refine g_iconst (pc' := 6) (v := (1 : Int32)) X1 hx hby own_d9_5 rfl rfl ?_
  refine g_iadd (pc' := 7) (v := (mc + (1 : Int32))) X1 hx hby own_d9_6 rfl rfl rfl ?_
  refine g_putF (pc' := 10) X1 hx hby hZ hown (host := "") (Or.inl (hw _ (List.mem_of_getElem? (i := 74) rfl))) (Via.of (hw _ (List.mem_of_getElem? (i := 75) rfl))) e1 c1 c0 (Or.inl (hw _ (List.mem_of_getElem? (i := 61) rfl))) (hw _ (List.mem_of_getElem? (i := 42) rfl)) (ty := .int) own_fd3 rfl rfl rfl own_d9_7 rfl N0 c4 ?_
  intro T2 h2 X2 e2 W2 N2
  have f3 := c0.wr W2
  have f4 := c1.same W2
  have f5 := c2.other W2 (Or.inr (slot_ne (Or.inl (hw _ (List.mem_of_getElem? (i := 64) rfl))) (Or.inl (hw _ (List.mem_of_getElem? (i := 61) rfl))) own_nes18 own_fd4 own_fd3))
  have f6 := c3.other W2 (Or.inr (slot_ne (Or.inl (hw _ (List.mem_of_getElem? (i := 77) rfl))) (Or.inl (hw _ (List.mem_of_getElem? (i := 61) rfl))) own_nes19 own_fd3 own_fd3))
  have f7 := c5.wr W2
  have f8 := c6.other W2 ne_d
  have f9 := c8.wr W2
  have z2 := Nat.le_trans Z0 (Keep.of_wr W2).1
  have K2 := K0.wr W2 (Or.inl (List.mem_of_getElem? (i := 0) rfl))
  refine g_aloadN (pc' := 11) X2 hx hby (v := (.ref a)) own_d9_10 rfl rfl rfl ?_
  refine g_aloadN (pc' := 12) X2 hx hby (v := (.ref x)) own_d9_11 rfl rfl rfl ?_
  refine g_aloadN (pc' := 13) X2 hx hby (v := (.ref a)) own_d9_12 rfl rfl rfl ?_
  refine g_getF (pc' := 16) X2 hx hby hZ hown (host := "") (Or.inl (hw _ (List.mem_of_getElem? (i := 63) rfl))) Via.refl e2 f5 rfl own_d9_13 rfl ?_
  intro T10 X10 e10
  refine g_aloadN (pc' := 17) X10 hx hby (v := (.ref a)) own_d9_16 rfl rfl rfl ?_
  refine g_getF (pc' := 20) X10 hx hby hZ hown (host := "") (Or.inl (hw _ (List.mem_of_getElem? (i := 76) rfl))) Via.refl e10 f6 rfl own_d9_17 rfl ?_
  intro T11 X11 e11
  refine g_priv (argsL := [(.ref x), (.ref dE), (.int (0 : Int32))]) (pc' := 23) X11 hx hby (by rw [hml]; rfl) hZ hown e11 (own_rm10g l Z a0 hw [] a x dE kD (.int (mc + (1 : Int32))) h2 n0 z2 f3 f4 f5 f6 c4 f7 f8 ne_d f9) (hw _ (List.mem_of_getElem? (i := 78) rfl)) (hw _ (List.mem_of_getElem? (i := 80) rfl)) (hw _ (List.mem_of_getElem? (i := 81) rfl)) (hw _ (List.mem_of_getElem? (i := 79) rfl)) (hw _ (List.mem_of_getElem? (i := 43) rfl)) (hw _ (List.mem_of_getElem? (i := 82) rfl)) (by decide) f3 own_pd4 rfl rfl (W := 0) rfl (by decide) (by decide) (by decide) (by decide) own_d9_20 rfl ?_
  intro T12 v12 L12 X12 qq12
  obtain ⟨h12, e12⟩ : ∃ h, T12.heap = h := ⟨_, rfl⟩
  rw [e12] at qq12
  obtain ⟨rr, kr, rfl, n12, k12, p12_0, p12_1, p12_2, p12_3, p12_4, p12_5, p12_6, p12_7⟩ := qq12
  have f13 := f3.keep k12
  have f17 := own_sta_keep f7 k12 (allS ⟨_, f3⟩ all0)
  have f18 := f8.keep k12 (ninS ne_d nin0)
  have f19 := f9.keep k12
  have ge20 : n0 ≤ rr := Nat.le_trans z2 p12_4
  have ne21 : a ≠ rr := Nat.ne_of_lt (Nat.lt_of_lt_of_le f3.lt p12_4)
  have ne22 : dE ≠ rr := Nat.ne_of_lt (Nat.lt_of_lt_of_le f8.lt p12_4)
  have ne23 : x ≠ rr := Nat.ne_of_lt (Nat.lt_of_lt_of_le f9.lt p12_4)
  have kp24 : h0.size ≤ rr := Nat.le_trans K2.1 p12_4
  have z12 := Nat.le_trans z2 k12.1
  have K12 := K2.trans k12 (allS (Or.inl (List.mem_of_getElem? (i := 0) rfl)) all0)
  have N12 := Fr.app N2 n12
  show Gf p e below P T12 m 23 #[.val (.ref a), .val (.ref x)] []
  refine g_iconst (pc' := 24) (v := (1 : Int32)) X12 hx hby own_d9_23 rfl rfl ?_
  exact g_retZ X12 hx hby hf hlk hret own_d9_24 rfl (by simp) rfl (by decide) (by decide) e12 ⟨rr, kr, rfl, N12, K12, p12_0, p12_1, p12_2, p12_3, kp24, p12_5, p12_6, p12_7⟩
def own_Q10_0 (Z : State) (a : Addr) (x : Addr) (t : Addr) (kt : ClassId) (mcv : Value) (h0 : Heap) (n0 : Nat) (v : Option Value) (h : Heap) (L : List Loc) : Prop := v = none ∧ Fr n0 L ∧ Keep h0 h [a, t] ∧ Exa Z h a "java/util/ArrayList" ∧ Fld Z h a "java/util/AbstractList" "modCount" "I" mcv ∧ Fld Z h a "java/util/ArrayList" "elementData" "[Ljava/lang/Object;" (.ref t) ∧ Fld Z h a "java/util/ArrayList" "size" "I" (.int (1 : Int32)) ∧ Arv Z h t kt (.object "java/lang/Object") (2 : Int32) [(.ref x), .null] .null
set_option maxRecDepth 65536 in
set_option maxHeartbeats 40000000 in
theorem own_rm10_0 (l : Launch) (Z : State) (a0 : Array Value) (hw : ∀ d ∈ tables_1, d.before a0 Z = true) (ws : List Jvm.Cond) (a : Addr) (x : Addr) (t : Addr) (kt : ClassId) (mcv : Value) (h0 : Heap) (n0 : Nat) (Z0 : n0 ≤ h0.size) (c0 : Exa Z h0 a "java/util/ArrayList") (c1 : Fld Z h0 a "java/util/AbstractList" "modCount" "I" mcv) (c2 : Fld Z h0 a "java/util/ArrayList" "elementData" "[Ljava/lang/Object;" (.ref t)) (c3 : Fld Z h0 a "java/util/ArrayList" "size" "I" (.int (0 : Int32))) (c4 : n0 ≤ a) (c5 : Arv Z h0 t kt (.object "java/lang/Object") (2 : Int32) [.null, .null] .null) (c6 : n0 ≤ t) (c7 : Exa Z h0 t "[Ljava/lang/Object;") (ov : Ovr Z kt "java/lang/Object") (ne_t : t ≠ a) (c10 : Exa Z h0 x "com/example/rowcast/rowcast/JoinValue") :
    Con l Z (⟨"java/util/ArrayList", "add", "(Ljava/lang/Object;[Ljava/lang/Object;I)V"⟩ : MethodName) jdk_38_method_24_code 4 none ws ({ frames := 0, cells := 0, slots := 0, locals := 0 } : Room) #[(.ref a), (.ref x), (.ref t), (.int (0 : Int32))] h0 (own_Q10_0 Z a x t kt mcv h0 n0) := by
  refine Con.start #[.val (.ref a), .val (.ref x), .val (.ref t), .val (.int (0 : Int32))] (plainFor_of_name own_pn5) (fun m => by first | (refine own_ef ?_; exact rfl) | (simp [entryFrame, mkF, argsToLocals, Value.category]; done) | rfl) ?_
  intro p e s m below meth c s₁ P X0 hx hby hml hret hlk hown hnm hZ e0 hf
  have hml : c.maxLocals = 4 := hml
  have N0 := Fr.nil n0
  have K0 : Keep h0 h0 [a, t] := Keep.refl _ _
  refine g_iloadN (pc' := 1) X0 hx hby (v := (0 : Int32)) own_d10_0 rfl rfl ?_
  refine g_aloadN (pc' := 2) X0 hx hby (v := (.ref t)) own_d10_1 rfl rfl rfl ?_
  refine g_len (pc' := 3) X0 hx hby hZ e0 c5 rfl own_d10_2 rfl ?_
  refine g_icY (pc' := 11) X0 hx hby own_d10_3 rfl (feq (by decide : ¬ ((0 : Int32) = (2 : Int32)))).2 (by decide) (by decide) ?_
  refine g_aloadN (pc' := 12) X0 hx hby (v := (.ref t)) own_d10_11 rfl rfl rfl ?_
  refine g_iloadN (pc' := 13) X0 hx hby (v := (0 : Int32)) own_d10_12 rfl rfl ?_
  refine g_aloadN (pc' := 14) X0 hx hby (v := (.ref x)) own_d10_13 rfl rfl rfl ?_
  refine g_stR (pc' := 15) X0 hx hby hZ e0 c5 ov (Ins.of_exa c10 (hw _ (List.mem_of_getElem? (i := 146) rfl))) ⟨by decide, by decide⟩ 0 rfl (Nat.le_of_ble_eq_true rfl) rfl own_d10_14 rfl N0 c6 ?_
  intro T1 h1 X1 e1 W1 N1 V1
  have f2 := c0.wr W1
  have f3 := c1.other W1 (Or.inl (Ne.symm ne_t))
  have f4 := c2.other W1 (Or.inl (Ne.symm ne_t))
  have f5 := c3.other W1 (Or.inl (Ne.symm ne_t))
  have f6 := c7.wr W1
  have f7 := c10.wr W1
  have z1 := Nat.le_trans Z0 (Keep.of_wr W1).1
  have K1 := K0.wr W1 (Or.inl (List.mem_of_getElem? (i := 1) rfl))
  have f1 : Arv Z h1 t kt (.object "java/lang/Object") (2 : Int32) [(.ref x), .null] .null := V1
  refine g_aloadN (pc' := 16) X1 hx hby (v := (.ref a)) own_d10_15 rfl rfl rfl ?_
  refine g_iloadN (pc' := 17) X1 hx hby (v := (0 : Int32)) own_d10_16 rfl rfl ?_
  refine g_iconst (pc' := 18) (v := (1 : Int32)) X1 hx hby own_d10_17 rfl rfl ?_
  refine g_iadd (pc' := 19) (v := (1 : Int32)) X1 hx hby own_d10_18 rfl rfl rfl ?_
  refine g_putF (pc' := 22) X1 hx hby hZ hown (host := "") (Or.inl (hw _ (List.mem_of_getElem? (i := 76) rfl))) Via.refl e1 f5 f2 (Or.inl (hw _ (List.mem_of_getElem? (i := 77) rfl))) (hw _ (List.mem_of_getElem? (i := 42) rfl)) (ty := .int) own_fd3 rfl rfl rfl own_d10_19 rfl N1 c4 ?_
  intro T8 h8 X8 e8 W8 N8
  have f9 := f2.wr W8
  have f10 := f3.other W8 (Or.inr (slot_ne (Or.inl (hw _ (List.mem_of_getElem? (i := 61) rfl))) (Or.inl (hw _ (List.mem_of_getElem? (i := 77) rfl))) own_nes22 own_fd3 own_fd3))
  have f11 := f4.other W8 (Or.inr (slot_ne (Or.inl (hw _ (List.mem_of_getElem? (i := 64) rfl))) (Or.inl (hw _ (List.mem_of_getElem? (i := 77) rfl))) own_nes23 own_fd4 own_fd3))
  have f12 := f5.same W8
  have f13 := f6.wr W8
  have f14 := f7.wr W8
  have f15 := f1.other W8 ne_t
  have z8 := Nat.le_trans z1 (Keep.of_wr W8).1
  have K8 := K1.wr W8 (Or.inl (List.mem_of_getElem? (i := 0) rfl))
  exact g_ret X8 hx hby hf hlk hret own_d10_22 rfl (by decide) (by decide) e8 ⟨rfl, N8, K8, f9, f10, f11, f12, f15⟩
def own_Q9_0 (Z : State) (a : Addr) (x : Addr) (t : Addr) (kt : ClassId) (mc : Int32) (h0 : Heap) (n0 : Nat) (v : Option Value) (h : Heap) (L : List Loc) : Prop := v = some (.int (1 : Int32)) ∧ Fr n0 L ∧ Keep h0 h [a, t] ∧ Exa Z h a "java/util/ArrayList" ∧ Fld Z h a "java/util/AbstractList" "modCount" "I" (.int (mc + (1 : Int32))) ∧ Fld Z h a "java/util/ArrayList" "elementData" "[Ljava/lang/Object;" (.ref t) ∧ Fld Z h a "java/util/ArrayList" "size" "I" (.int (1 : Int32)) ∧ Arv Z h t kt (.object "java/lang/Object") (2 : Int32) [(.ref x), .null] .null
set_option maxRecDepth 65536 in
set_option maxHeartbeats 40000000 in
theorem own_rm9_0 (l : Launch) (Z : State) (a0 : Array Value) (hw : ∀ d ∈ tables_1, d.before a0 Z = true) (ws : List Jvm.Cond) (a : Addr) (x : Addr) (t : Addr) (kt : ClassId) (mc : Int32) (h0 : Heap) (n0 : Nat) (Z0 : n0 ≤ h0.size) (c0 : Exa Z h0 a "java/util/ArrayList") (c1 : Fld Z h0 a "java/util/AbstractList" "modCount" "I" (.int mc)) (c2 : Fld Z h0 a "java/util/ArrayList" "elementData" "[Ljava/lang/Object;" (.ref t)) (c3 : Fld Z h0 a "java/util/ArrayList" "size" "I" (.int (0 : Int32))) (c4 : n0 ≤ a) (c5 : Arv Z h0 t kt (.object "java/lang/Object") (2 : Int32) [.null, .null] .null) (c6 : n0 ≤ t) (c7 : Exa Z h0 t "[Ljava/lang/Object;") (ov : Ovr Z kt "java/lang/Object") (ne_t : t ≠ a) (c10 : Exa Z h0 x "com/example/rowcast/rowcast/JoinValue") :
    Con l Z (⟨"java/util/ArrayList", "add", "(Ljava/lang/Object;)Z"⟩ : MethodName) jdk_38_method_25_code 2 (some .boolean) ws ({ frames := 1, cells := 0, slots := 0, locals := 15 } : Room) #[(.ref a), (.ref x)] h0 (own_Q9_0 Z a x t kt mc h0 n0) := by
  refine Con.start #[.val (.ref a), .val (.ref x)] (plainFor_of_name own_pn5) (fun m => by first | (refine own_ef ?_; exact rfl) | (simp [entryFrame, mkF, argsToLocals, Value.category]; done) | rfl) ?_
  intro p e s m below meth c s₁ P X0 hx hby hml hret hlk hown hnm hZ e0 hf
  have hml : c.maxLocals = 2 := hml
  have N0 := Fr.nil n0
  have K0 : Keep h0 h0 [a, t] := Keep.refl _ _
  refine g_aloadN (pc' := 1) X0 hx hby (v := (.ref a)) own_d9_0 rfl rfl rfl ?_
  refine g_dup (pc' := 2) X0 hx hby own_d9_1 rfl rfl rfl ?_
  refine g_getF (pc' := 5) X0 hx hby hZ hown (host := "") (Or.inl (hw _ (List.mem_of_getElem? (i := 74) rfl))) (Via.of (hw _ (List.mem_of_getElem? (i := 75) rfl))) e0 c1 rfl own_d9_2 rfl ?_
  intro T1 X1 e1
  refine g_iconst (pc' := 6) (v := (1 : Int32)) X1 hx hby own_d9_5 rfl rfl ?_
  refine g_iadd (pc' := 7) (v := (mc + (1 : Int32))) X1 hx hby own_d9_6 rfl rfl rfl ?_
  refine g_putF (pc' := 10) X1 hx hby hZ hown (host := "") (Or.inl (hw _ (List.mem_of_getElem? (i := 74) rfl))) (Via.of (hw _ (List.mem_of_getElem? (i := 75) rfl))) e1 c1 c0 (Or.inl (hw _ (List.mem_of_getElem? (i := 61) rfl))) (hw _ (List.mem_of_getElem? (i := 42) rfl)) (ty := .int) own_fd3 rfl rfl rfl own_d9_7 rfl N0 c4 ?_
  intro T2 h2 X2 e2 W2 N2
  have f3 := c0.wr W2
  have f4 := c1.same W2
  have f5 := c2.other W2 (Or.inr (slot_ne (Or.inl (hw _ (List.mem_of_getElem? (i := 64) rfl))) (Or.inl (hw _ (List.mem_of_getElem? (i := 61) rfl))) own_nes18 own_fd4 own_fd3))
  have f6 := c3.other W2 (Or.inr (slot_ne (Or.inl (hw _ (List.mem_of_getElem? (i := 77) rfl))) (Or.inl (hw _ (List.mem_of_getElem? (i := 61) rfl))) own_nes19 own_fd3 own_fd3))
  have f7 := c5.other W2 ne_t
  have f8 := c7.wr W2
  have f9 := c10.wr W2
  have z2 := Nat.le_trans Z0 (Keep.of_wr W2).1
  have K2 := K0.wr W2 (Or.inl (List.mem_of_getElem? (i := 0) rfl))
  refine g_aloadN (pc' := 11) X2 hx hby (v := (.ref a)) own_d9_10 rfl rfl rfl ?_
  refine g_aloadN (pc' := 12) X2 hx hby (v := (.ref x)) own_d9_11 rfl rfl rfl ?_
  refine g_aloadN (pc' := 13) X2 hx hby (v := (.ref a)) own_d9_12 rfl rfl rfl ?_
  refine g_getF (pc' := 16) X2 hx hby hZ hown (host := "") (Or.inl (hw _ (List.mem_of_getElem? (i := 63) rfl))) Via.refl e2 f5 rfl own_d9_13 rfl ?_
  intro T10 X10 e10
  refine g_aloadN (pc' := 17) X10 hx hby (v := (.ref a)) own_d9_16 rfl rfl rfl ?_
  refine g_getF (pc' := 20) X10 hx hby hZ hown (host := "") (Or.inl (hw _ (List.mem_of_getElem? (i := 76) rfl))) Via.refl e10 f6 rfl own_d9_17 rfl ?_
  intro T11 X11 e11
  refine g_priv (argsL := [(.ref x), (.ref t), (.int (0 : Int32))]) (pc' := 23) X11 hx hby (by rw [hml]; rfl) hZ hown e11 (own_rm10_0 l Z a0 hw [] a x t kt (.int (mc + (1 : Int32))) h2 n0 z2 f3 f4 f5 f6 c4 f7 c6 f8 ov ne_t f9) (hw _ (List.mem_of_getElem? (i := 78) rfl)) (hw _ (List.mem_of_getElem? (i := 80) rfl)) (hw _ (List.mem_of_getElem? (i := 81) rfl)) (hw _ (List.mem_of_getElem? (i := 79) rfl)) (hw _ (List.mem_of_getElem? (i := 43) rfl)) (hw _ (List.mem_of_getElem? (i := 82) rfl)) (by decide) f3 own_pd4 rfl rfl (W := 0) rfl (by decide) (by decide) (by decide) (by decide) own_d9_20 rfl ?_
  intro T12 v12 L12 X12 qq12
  obtain ⟨h12, e12⟩ : ∃ h, T12.heap = h := ⟨_, rfl⟩
  rw [e12] at qq12
  obtain ⟨rfl, n12, k12, p12_0, p12_1, p12_2, p12_3, p12_4⟩ := qq12
  have f13 := f3.keep k12
  have f18 := f8.keep k12
  have f19 := f9.keep k12
  have z12 := Nat.le_trans z2 k12.1
  have K12 := K2.trans k12 (allS (Or.inl (List.mem_of_getElem? (i := 0) rfl)) (allS (Or.inl (List.mem_of_getElem? (i := 1) rfl)) all0))
  have N12 := Fr.app N2 n12
  show Gf p e below P T12 m 23 #[.val (.ref a), .val (.ref x)] []
  refine g_iconst (pc' := 24) (v := (1 : Int32)) X12 hx hby own_d9_23 rfl rfl ?_
  exact g_retZ X12 hx hby hf hlk hret own_d9_24 rfl (by simp) rfl (by decide) (by decide) e12 ⟨rfl, N12, K12, p12_0, p12_1, p12_2, p12_3, p12_4⟩
def own_Q10_1 (Z : State) (a : Addr) (x : Addr) (t : Addr) (kt : ClassId) (y : Addr) (mcv : Value) (h0 : Heap) (n0 : Nat) (v : Option Value) (h : Heap) (L : List Loc) : Prop := v = none ∧ Fr n0 L ∧ Keep h0 h [a, t] ∧ Exa Z h a "java/util/ArrayList" ∧ Fld Z h a "java/util/AbstractList" "modCount" "I" mcv ∧ Fld Z h a "java/util/ArrayList" "elementData" "[Ljava/lang/Object;" (.ref t) ∧ Fld Z h a "java/util/ArrayList" "size" "I" (.int (2 : Int32)) ∧ Arv Z h t kt (.object "java/lang/Object") (2 : Int32) [(.ref y), (.ref x)] .null
set_option maxRecDepth 65536 in
set_option maxHeartbeats 40000000 in
theorem own_rm10_1 (l : Launch) (Z : State) (a0 : Array Value) (hw : ∀ d ∈ tables_1, d.before a0 Z = true) (ws : List Jvm.Cond) (a : Addr) (x : Addr) (t : Addr) (kt : ClassId) (y : Addr) (mcv : Value) (h0 : Heap) (n0 : Nat) (Z0 : n0 ≤ h0.size) (c0 : Exa Z h0 a "java/util/ArrayList") (c1 : Fld Z h0 a "java/util/AbstractList" "modCount" "I" mcv) (c2 : Fld Z h0 a "java/util/ArrayList" "elementData" "[Ljava/lang/Object;" (.ref t)) (c3 : Fld Z h0 a "java/util/ArrayList" "size" "I" (.int (1 : Int32))) (c4 : n0 ≤ a) (c5 : Arv Z h0 t kt (.object "java/lang/Object") (2 : Int32) [(.ref y), .null] .null) (c6 : n0 ≤ t) (c7 : Exa Z h0 t "[Ljava/lang/Object;") (ov : Ovr Z kt "java/lang/Object") (ne_t : t ≠ a) (c10 : Exa Z h0 x "com/example/rowcast/rowcast/JoinValue") :
    Con l Z (⟨"java/util/ArrayList", "add", "(Ljava/lang/Object;[Ljava/lang/Object;I)V"⟩ : MethodName) jdk_38_method_24_code 4 none ws ({ frames := 0, cells := 0, slots := 0, locals := 0 } : Room) #[(.ref a), (.ref x), (.ref t), (.int (1 : Int32))] h0 (own_Q10_1 Z a x t kt y mcv h0 n0) := by
  refine Con.start #[.val (.ref a), .val (.ref x), .val (.ref t), .val (.int (1 : Int32))] (plainFor_of_name own_pn5) (fun m => by first | (refine own_ef ?_; exact rfl) | (simp [entryFrame, mkF, argsToLocals, Value.category]; done) | rfl) ?_
  intro p e s m below meth c s₁ P X0 hx hby hml hret hlk hown hnm hZ e0 hf
  have hml : c.maxLocals = 4 := hml
  have N0 := Fr.nil n0
  have K0 : Keep h0 h0 [a, t] := Keep.refl _ _
  refine g_iloadN (pc' := 1) X0 hx hby (v := (1 : Int32)) own_d10_0 rfl rfl ?_
  refine g_aloadN (pc' := 2) X0 hx hby (v := (.ref t)) own_d10_1 rfl rfl rfl ?_
  refine g_len (pc' := 3) X0 hx hby hZ e0 c5 rfl own_d10_2 rfl ?_
  refine g_icY (pc' := 11) X0 hx hby own_d10_3 rfl (feq (by decide : ¬ ((1 : Int32) = (2 : Int32)))).2 (by decide) (by decide) ?_
  refine g_aloadN (pc' := 12) X0 hx hby (v := (.ref t)) own_d10_11 rfl rfl rfl ?_
  refine g_iloadN (pc' := 13) X0 hx hby (v := (1 : Int32)) own_d10_12 rfl rfl ?_
  refine g_aloadN (pc' := 14) X0 hx hby (v := (.ref x)) own_d10_13 rfl rfl rfl ?_
  refine g_stR (pc' := 15) X0 hx hby hZ e0 c5 ov (Ins.of_exa c10 (hw _ (List.mem_of_getElem? (i := 146) rfl))) ⟨by decide, by decide⟩ 1 rfl (Nat.le_of_ble_eq_true rfl) rfl own_d10_14 rfl N0 c6 ?_
  intro T1 h1 X1 e1 W1 N1 V1
  have f2 := c0.wr W1
  have f3 := c1.other W1 (Or.inl (Ne.symm ne_t))
  have f4 := c2.other W1 (Or.inl (Ne.symm ne_t))
  have f5 := c3.other W1 (Or.inl (Ne.symm ne_t))
  have f6 := c7.wr W1
  have f7 := c10.wr W1
  have z1 := Nat.le_trans Z0 (Keep.of_wr W1).1
  have K1 := K0.wr W1 (Or.inl (List.mem_of_getElem? (i := 1) rfl))
  have f1 : Arv Z h1 t kt (.object "java/lang/Object") (2 : Int32) [(.ref y), (.ref x)] .null := V1
  refine g_aloadN (pc' := 16) X1 hx hby (v := (.ref a)) own_d10_15 rfl rfl rfl ?_
  refine g_iloadN (pc' := 17) X1 hx hby (v := (1 : Int32)) own_d10_16 rfl rfl ?_
  refine g_iconst (pc' := 18) (v := (1 : Int32)) X1 hx hby own_d10_17 rfl rfl ?_
  refine g_iadd (pc' := 19) (v := (2 : Int32)) X1 hx hby own_d10_18 rfl rfl rfl ?_
  refine g_putF (pc' := 22) X1 hx hby hZ hown (host := "") (Or.inl (hw _ (List.mem_of_getElem? (i := 76) rfl))) Via.refl e1 f5 f2 (Or.inl (hw _ (List.mem_of_getElem? (i := 77) rfl))) (hw _ (List.mem_of_getElem? (i := 42) rfl)) (ty := .int) own_fd3 rfl rfl rfl own_d10_19 rfl N1 c4 ?_
  intro T8 h8 X8 e8 W8 N8
  have f9 := f2.wr W8
  have f10 := f3.other W8 (Or.inr (slot_ne (Or.inl (hw _ (List.mem_of_getElem? (i := 61) rfl))) (Or.inl (hw _ (List.mem_of_getElem? (i := 77) rfl))) own_nes22 own_fd3 own_fd3))
  have f11 := f4.other W8 (Or.inr (slot_ne (Or.inl (hw _ (List.mem_of_getElem? (i := 64) rfl))) (Or.inl (hw _ (List.mem_of_getElem? (i := 77) rfl))) own_nes23 own_fd4 own_fd3))
  have f12 := f5.same W8
  have f13 := f6.wr W8
  have f14 := f7.wr W8
  have f15 := f1.other W8 ne_t
  have z8 := Nat.le_trans z1 (Keep.of_wr W8).1
  have K8 := K1.wr W8 (Or.inl (List.mem_of_getElem? (i := 0) rfl))
  exact g_ret X8 hx hby hf hlk hret own_d10_22 rfl (by decide) (by decide) e8 ⟨rfl, N8, K8, f9, f10, f11, f12, f15⟩
def own_Q9_1 (Z : State) (a : Addr) (x : Addr) (t : Addr) (kt : ClassId) (y : Addr) (mc : Int32) (h0 : Heap) (n0 : Nat) (v : Option Value) (h : Heap) (L : List Loc) : Prop := v = some (.int (1 : Int32)) ∧ Fr n0 L ∧ Keep h0 h [a, t] ∧ Exa Z h a "java/util/ArrayList" ∧ Fld Z h a "java/util/AbstractList" "modCount" "I" (.int (mc + (1 : Int32))) ∧ Fld Z h a "java/util/ArrayList" "elementData" "[Ljava/lang/Object;" (.ref t) ∧ Fld Z h a "java/util/ArrayList" "size" "I" (.int (2 : Int32)) ∧ Arv Z h t kt (.object "java/lang/Object") (2 : Int32) [(.ref y), (.ref x)] .null
set_option maxRecDepth 65536 in
set_option maxHeartbeats 40000000 in
theorem own_rm9_1 (l : Launch) (Z : State) (a0 : Array Value) (hw : ∀ d ∈ tables_1, d.before a0 Z = true) (ws : List Jvm.Cond) (a : Addr) (x : Addr) (t : Addr) (kt : ClassId) (y : Addr) (mc : Int32) (h0 : Heap) (n0 : Nat) (Z0 : n0 ≤ h0.size) (c0 : Exa Z h0 a "java/util/ArrayList") (c1 : Fld Z h0 a "java/util/AbstractList" "modCount" "I" (.int mc)) (c2 : Fld Z h0 a "java/util/ArrayList" "elementData" "[Ljava/lang/Object;" (.ref t)) (c3 : Fld Z h0 a "java/util/ArrayList" "size" "I" (.int (1 : Int32))) (c4 : n0 ≤ a) (c5 : Arv Z h0 t kt (.object "java/lang/Object") (2 : Int32) [(.ref y), .null] .null) (c6 : n0 ≤ t) (c7 : Exa Z h0 t "[Ljava/lang/Object;") (ov : Ovr Z kt "java/lang/Object") (ne_t : t ≠ a) (c10 : Exa Z h0 x "com/example/rowcast/rowcast/JoinValue") :
    Con l Z (⟨"java/util/ArrayList", "add", "(Ljava/lang/Object;)Z"⟩ : MethodName) jdk_38_method_25_code 2 (some .boolean) ws ({ frames := 1, cells := 0, slots := 0, locals := 15 } : Room) #[(.ref a), (.ref x)] h0 (own_Q9_1 Z a x t kt y mc h0 n0) := by
  refine Con.start #[.val (.ref a), .val (.ref x)] (plainFor_of_name own_pn5) (fun m => by first | (refine own_ef ?_; exact rfl) | (simp [entryFrame, mkF, argsToLocals, Value.category]; done) | rfl) ?_
  intro p e s m below meth c s₁ P X0 hx hby hml hret hlk hown hnm hZ e0 hf
  have hml : c.maxLocals = 2 := hml
  have N0 := Fr.nil n0
  have K0 : Keep h0 h0 [a, t] := Keep.refl _ _
  refine g_aloadN (pc' := 1) X0 hx hby (v := (.ref a)) own_d9_0 rfl rfl rfl ?_
  refine g_dup (pc' := 2) X0 hx hby own_d9_1 rfl rfl rfl ?_
  refine g_getF (pc' := 5) X0 hx hby hZ hown (host := "") (Or.inl (hw _ (List.mem_of_getElem? (i := 74) rfl))) (Via.of (hw _ (List.mem_of_getElem? (i := 75) rfl))) e0 c1 rfl own_d9_2 rfl ?_
  intro T1 X1 e1
  refine g_iconst (pc' := 6) (v := (1 : Int32)) X1 hx hby own_d9_5 rfl rfl ?_
  refine g_iadd (pc' := 7) (v := (mc + (1 : Int32))) X1 hx hby own_d9_6 rfl rfl rfl ?_
  refine g_putF (pc' := 10) X1 hx hby hZ hown (host := "") (Or.inl (hw _ (List.mem_of_getElem? (i := 74) rfl))) (Via.of (hw _ (List.mem_of_getElem? (i := 75) rfl))) e1 c1 c0 (Or.inl (hw _ (List.mem_of_getElem? (i := 61) rfl))) (hw _ (List.mem_of_getElem? (i := 42) rfl)) (ty := .int) own_fd3 rfl rfl rfl own_d9_7 rfl N0 c4 ?_
  intro T2 h2 X2 e2 W2 N2
  have f3 := c0.wr W2
  have f4 := c1.same W2
  have f5 := c2.other W2 (Or.inr (slot_ne (Or.inl (hw _ (List.mem_of_getElem? (i := 64) rfl))) (Or.inl (hw _ (List.mem_of_getElem? (i := 61) rfl))) own_nes18 own_fd4 own_fd3))
  have f6 := c3.other W2 (Or.inr (slot_ne (Or.inl (hw _ (List.mem_of_getElem? (i := 77) rfl))) (Or.inl (hw _ (List.mem_of_getElem? (i := 61) rfl))) own_nes19 own_fd3 own_fd3))
  have f7 := c5.other W2 ne_t
  have f8 := c7.wr W2
  have f9 := c10.wr W2
  have z2 := Nat.le_trans Z0 (Keep.of_wr W2).1
  have K2 := K0.wr W2 (Or.inl (List.mem_of_getElem? (i := 0) rfl))
  refine g_aloadN (pc' := 11) X2 hx hby (v := (.ref a)) own_d9_10 rfl rfl rfl ?_
  refine g_aloadN (pc' := 12) X2 hx hby (v := (.ref x)) own_d9_11 rfl rfl rfl ?_
  refine g_aloadN (pc' := 13) X2 hx hby (v := (.ref a)) own_d9_12 rfl rfl rfl ?_
  refine g_getF (pc' := 16) X2 hx hby hZ hown (host := "") (Or.inl (hw _ (List.mem_of_getElem? (i := 63) rfl))) Via.refl e2 f5 rfl own_d9_13 rfl ?_
  intro T10 X10 e10
  refine g_aloadN (pc' := 17) X10 hx hby (v := (.ref a)) own_d9_16 rfl rfl rfl ?_
  refine g_getF (pc' := 20) X10 hx hby hZ hown (host := "") (Or.inl (hw _ (List.mem_of_getElem? (i := 76) rfl))) Via.refl e10 f6 rfl own_d9_17 rfl ?_
  intro T11 X11 e11
  refine g_priv (argsL := [(.ref x), (.ref t), (.int (1 : Int32))]) (pc' := 23) X11 hx hby (by rw [hml]; rfl) hZ hown e11 (own_rm10_1 l Z a0 hw [] a x t kt y (.int (mc + (1 : Int32))) h2 n0 z2 f3 f4 f5 f6 c4 f7 c6 f8 ov ne_t f9) (hw _ (List.mem_of_getElem? (i := 78) rfl)) (hw _ (List.mem_of_getElem? (i := 80) rfl)) (hw _ (List.mem_of_getElem? (i := 81) rfl)) (hw _ (List.mem_of_getElem? (i := 79) rfl)) (hw _ (List.mem_of_getElem? (i := 43) rfl)) (hw _ (List.mem_of_getElem? (i := 82) rfl)) (by decide) f3 own_pd4 rfl rfl (W := 0) rfl (by decide) (by decide) (by decide) (by decide) own_d9_20 rfl ?_
  intro T12 v12 L12 X12 qq12
  obtain ⟨h12, e12⟩ : ∃ h, T12.heap = h := ⟨_, rfl⟩
  rw [e12] at qq12
  obtain ⟨rfl, n12, k12, p12_0, p12_1, p12_2, p12_3, p12_4⟩ := qq12
  have f13 := f3.keep k12
  have f18 := f8.keep k12
  have f19 := f9.keep k12
  have z12 := Nat.le_trans z2 k12.1
  have K12 := K2.trans k12 (allS (Or.inl (List.mem_of_getElem? (i := 0) rfl)) (allS (Or.inl (List.mem_of_getElem? (i := 1) rfl)) all0))
  have N12 := Fr.app N2 n12
  show Gf p e below P T12 m 23 #[.val (.ref a), .val (.ref x)] []
  refine g_iconst (pc' := 24) (v := (1 : Int32)) X12 hx hby own_d9_23 rfl rfl ?_
  exact g_retZ X12 hx hby hf hlk hret own_d9_24 rfl (by simp) rfl (by decide) (by decide) e12 ⟨rfl, N12, K12, p12_0, p12_1, p12_2, p12_3, p12_4⟩
theorem own_d15_0 : decode jdk_38_method_8_code 0 = .ok (.aload_n 0, 1) := by decide +kernel
theorem own_d15_1 : decode jdk_38_method_8_code 1 = .ok (.getfield 48, 3) := by decide +kernel
theorem own_d15_4 : decode jdk_38_method_8_code 4 = .ok (.ireturn, 1) := by decide +kernel
def own_Q15 (Z : State) (a : Addr) (sn : Int32) (h0 : Heap) (n0 : Nat) (v : Option Value) (h : Heap) (L : List Loc) : Prop := v = some (.int sn) ∧ Fr n0 L ∧ h = h0
set_option maxRecDepth 65536 in
set_option maxHeartbeats 40000000 in
theorem own_rm15 (l : Launch) (Z : State) (a0 : Array Value) (hw : ∀ d ∈ tables_1, d.before a0 Z = true) (ws : List Jvm.Cond) (a : Addr) (sn : Int32) (h0 : Heap) (n0 : Nat) (Z0 : n0 ≤ h0.size) (c0 : Fld Z h0 a "java/util/ArrayList" "size" "I" (.int sn)) :
    Con l Z (⟨"java/util/ArrayList", "size", "()I"⟩ : MethodName) jdk_38_method_8_code 1 (some .int) ws ({ frames := 0, cells := 0, slots := 0, locals := 0 } : Room) #[(.ref a)] h0 (own_Q15 Z a sn h0 n0) := by
  refine Con.start #[.val (.ref a)] (plainFor_of_name own_pn5) (fun m => by first | (refine own_ef ?_; exact rfl) | (simp [entryFrame, mkF, argsToLocals, Value.category]; done) | rfl) ?_
  intro p e s m below meth c s₁ P X0 hx hby hml hret hlk hown hnm hZ e0 hf
  have hml : c.maxLocals = 1 := hml
  have N0 := Fr.nil n0
  refine g_aloadN (pc' := 1) X0 hx hby (v := (.ref a)) own_d15_0 rfl rfl rfl ?_
  refine g_getF (pc' := 4) X0 hx hby hZ hown (host := "") (Or.inl (hw _ (List.mem_of_getElem? (i := 76) rfl))) Via.refl e0 c0 rfl own_d15_1 rfl ?_
  intro T1 X1 e1
  exact g_retV X1 hx hby hf hlk hret own_d15_4 rfl rfl (Or.inl ⟨rfl, Or.inl rfl, _, rfl⟩) (by decide) (by decide) e1 ⟨rfl, N0, rfl⟩
theorem own_d19_0 : decode jdk_41_method_11_code 0 = .ok (.iload_n 0, 1) := by decide +kernel
theorem own_d19_1 : decode jdk_41_method_11_code 1 = .ok (.ifCond .lt 8, 3) := by decide +kernel
theorem own_d19_4 : decode jdk_41_method_11_code 4 = .ok (.iload_n 0, 1) := by decide +kernel
theorem own_d19_5 : decode jdk_41_method_11_code 5 = .ok (.iload_n 1, 1) := by decide +kernel
theorem own_d19_6 : decode jdk_41_method_11_code 6 = .ok (.if_icmp .lt 10, 3) := by decide +kernel
theorem own_d19_16 : decode jdk_41_method_11_code 16 = .ok (.iload_n 0, 1) := by decide +kernel
theorem own_d19_17 : decode jdk_41_method_11_code 17 = .ok (.ireturn, 1) := by decide +kernel
def own_Q19_0_1 (Z : State)  (h0 : Heap) (n0 : Nat) (v : Option Value) (h : Heap) (L : List Loc) : Prop := v = some (.int (0 : Int32)) ∧ Fr n0 L ∧ h = h0
set_option maxRecDepth 65536 in
set_option maxHeartbeats 40000000 in
theorem own_rm19_0_1 (l : Launch) (Z : State) (a0 : Array Value) (hw : ∀ d ∈ tables_1, d.before a0 Z = true) (ws : List Jvm.Cond)  (h0 : Heap) (n0 : Nat) (Z0 : n0 ≤ h0.size) :
    Con l Z (⟨"jdk/internal/util/Preconditions", "checkIndex", "(IILjava/util/function/BiFunction;)I"⟩ : MethodName) jdk_41_method_11_code 3 (some .int) ws ({ frames := 0, cells := 0, slots := 0, locals := 0 } : Room) #[(.int (0 : Int32)), (.int (1 : Int32)), .null] h0 (own_Q19_0_1 Z  h0 n0) := by
  refine Con.start #[.val (.int (0 : Int32)), .val (.int (1 : Int32)), .val .null] (plainFor_of_name own_pn7) (fun m => by first | (refine own_ef ?_; exact rfl) | (simp [entryFrame, mkF, argsToLocals, Value.category]; done) | rfl) ?_
  intro p e s m below meth c s₁ P X0 hx hby hml hret hlk hown hnm hZ e0 hf
  have hml : c.maxLocals = 3 := hml
  have N0 := Fr.nil n0
  refine g_iloadN (pc' := 1) X0 hx hby (v := (0 : Int32)) own_d19_0 rfl rfl ?_
  refine g_ifN (pc' := 4) X0 hx hby own_d19_1 rfl (flt (by decide : ¬ ((0 : Int32) < (0 : Int32)))).1 rfl ?_
  refine g_iloadN (pc' := 5) X0 hx hby (v := (0 : Int32)) own_d19_4 rfl rfl ?_
  refine g_iloadN (pc' := 6) X0 hx hby (v := (1 : Int32)) own_d19_5 rfl rfl ?_
  refine g_icY (pc' := 16) X0 hx hby own_d19_6 rfl (tlt (by decide : (0 : Int32) < (1 : Int32))).1 (by decide) (by decide) ?_
  refine g_iloadN (pc' := 17) X0 hx hby (v := (0 : Int32)) own_d19_16 rfl rfl ?_
  exact g_retV X0 hx hby hf hlk hret own_d19_17 rfl rfl (Or.inl ⟨rfl, Or.inl rfl, _, rfl⟩) (by decide) (by decide) e0 ⟨rfl, N0, rfl⟩
theorem own_d18_0 : decode jdk_31_method_17_code 0 = .ok (.iload_n 0, 1) := by decide +kernel
theorem own_d18_1 : decode jdk_31_method_17_code 1 = .ok (.iload_n 1, 1) := by decide +kernel
theorem own_d18_2 : decode jdk_31_method_17_code 2 = .ok (.aconst_null, 1) := by decide +kernel
theorem own_d18_3 : decode jdk_31_method_17_code 3 = .ok (.invokestatic 105, 3) := by decide +kernel
theorem own_d18_6 : decode jdk_31_method_17_code 6 = .ok (.ireturn, 1) := by decide +kernel
def own_Q18_0_1 (Z : State)  (h0 : Heap) (n0 : Nat) (v : Option Value) (h : Heap) (L : List Loc) : Prop := v = some (.int (0 : Int32)) ∧ Fr n0 L ∧ h = h0
set_option maxRecDepth 65536 in
set_option maxHeartbeats 40000000 in
theorem own_rm18_0_1 (l : Launch) (Z : State) (a0 : Array Value) (hw : ∀ d ∈ tables_1, d.before a0 Z = true) (ws : List Jvm.Cond)  (h0 : Heap) (n0 : Nat) (Z0 : n0 ≤ h0.size) :
    Con l Z (⟨"java/util/Objects", "checkIndex", "(II)I"⟩ : MethodName) jdk_31_method_17_code 2 (some .int) ws ({ frames := 1, cells := 0, slots := 0, locals := 14 } : Room) #[(.int (0 : Int32)), (.int (1 : Int32))] h0 (own_Q18_0_1 Z  h0 n0) := by
  refine Con.start #[.val (.int (0 : Int32)), .val (.int (1 : Int32))] (plainFor_of_name own_pn8) (fun m => by first | (refine own_ef ?_; exact rfl) | (simp [entryFrame, mkF, argsToLocals, Value.category]; done) | rfl) ?_
  intro p e s m below meth c s₁ P X0 hx hby hml hret hlk hown hnm hZ e0 hf
  have hml : c.maxLocals = 2 := hml
  have N0 := Fr.nil n0
  refine g_iloadN (pc' := 1) X0 hx hby (v := (0 : Int32)) own_d18_0 rfl rfl ?_
  refine g_iloadN (pc' := 2) X0 hx hby (v := (1 : Int32)) own_d18_1 rfl rfl ?_
  refine g_aconst_null (pc' := 3) X0 hx hby own_d18_2 rfl ?_
  refine g_callS (argsL := [(.int (0 : Int32)), (.int (1 : Int32)), .null]) (pc' := 6) X0 hx hby (by rw [hml]; rfl) hZ hown e0 (own_rm19_0_1 l Z a0 hw []   h0 n0 Z0) (hw _ (List.mem_of_getElem? (i := 127) rfl)) (hw _ (List.mem_of_getElem? (i := 128) rfl)) (hw _ (List.mem_of_getElem? (i := 129) rfl)) (hw _ (List.mem_of_getElem? (i := 130) rfl)) (by decide) own_pd5 rfl rfl (W := 0) rfl (by decide) (by decide) (by decide) (by decide) own_d18_3 rfl ?_
  intro T1 v1 L1 X1 qq1
  obtain ⟨rfl, n1, e1⟩ := qq1
  have N1 := Fr.app N0 n1
  show Gf p e below P T1 m 6 #[.val (.int (0 : Int32)), .val (.int (1 : Int32))] [(.int (0 : Int32))]
  exact g_retV X1 hx hby hf hlk hret own_d18_6 rfl rfl (Or.inl ⟨rfl, Or.inl rfl, _, rfl⟩) (by decide) (by decide) e1 ⟨rfl, N1, rfl⟩
theorem own_d20_0 : decode jdk_38_method_18_code 0 = .ok (.aload_n 0, 1) := by decide +kernel
theorem own_d20_1 : decode jdk_38_method_18_code 1 = .ok (.getfield 9, 3) := by decide +kernel
theorem own_d20_4 : decode jdk_38_method_18_code 4 = .ok (.iload_n 1, 1) := by decide +kernel
theorem own_d20_5 : decode jdk_38_method_18_code 5 = .ok (.aaload, 1) := by decide +kernel
theorem own_d20_6 : decode jdk_38_method_18_code 6 = .ok (.areturn, 1) := by decide +kernel
def own_Q20A (Z : State) (a : Addr) (t : Addr) (kt : ClassId) (x : Addr) (h0 : Heap) (n0 : Nat) (v : Option Value) (h : Heap) (L : List Loc) : Prop := v = some (.ref x) ∧ Fr n0 L ∧ h = h0
set_option maxRecDepth 65536 in
set_option maxHeartbeats 40000000 in
theorem own_rm20A (l : Launch) (Z : State) (a0 : Array Value) (hw : ∀ d ∈ tables_1, d.before a0 Z = true) (ws : List Jvm.Cond) (a : Addr) (t : Addr) (kt : ClassId) (x : Addr) (h0 : Heap) (n0 : Nat) (Z0 : n0 ≤ h0.size) (c0 : Fld Z h0 a "java/util/ArrayList" "elementData" "[Ljava/lang/Object;" (.ref t)) (c1 : Arv Z h0 t kt (.object "java/lang/Object") (10 : Int32) [(.ref x), .null, .null, .null, .null, .null, .null, .null, .null, .null] .null) :
    Con l Z (⟨"java/util/ArrayList", "elementData", "(I)Ljava/lang/Object;"⟩ : MethodName) jdk_38_method_18_code 2 (some (.object "java/lang/Object")) ws ({ frames := 0, cells := 0, slots := 0, locals := 0 } : Room) #[(.ref a), (.int (0 : Int32))] h0 (own_Q20A Z a t kt x h0 n0) := by
  refine Con.start #[.val (.ref a), .val (.int (0 : Int32))] (plainFor_of_name own_pn5) (fun m => by first | (refine own_ef ?_; exact rfl) | (simp [entryFrame, mkF, argsToLocals, Value.category]; done) | rfl) ?_
  intro p e s m below meth c s₁ P X0 hx hby hml hret hlk hown hnm hZ e0 hf
  have hml : c.maxLocals = 2 := hml
  have N0 := Fr.nil n0
  refine g_aloadN (pc' := 1) X0 hx hby (v := (.ref a)) own_d20_0 rfl rfl rfl ?_
  refine g_getF (pc' := 4) X0 hx hby hZ hown (host := "") (Or.inl (hw _ (List.mem_of_getElem? (i := 63) rfl))) Via.refl e0 c0 rfl own_d20_1 rfl ?_
  intro T1 X1 e1
  refine g_iloadN (pc' := 5) X1 hx hby (v := (0 : Int32)) own_d20_4 rfl rfl ?_
  refine g_ldR (pc' := 6) X1 hx hby hZ (v := (.ref x)) e1 c1 ⟨by decide, by decide⟩ rfl rfl own_d20_5 rfl ?_
  exact g_retV X1 hx hby hf hlk hret own_d20_6 rfl rfl (Or.inr (Or.inr (Or.inr (Or.inr ⟨rfl, rfl, rfl⟩)))) (by decide) (by decide) e1 ⟨rfl, N0, rfl⟩
theorem own_d17_0 : decode jdk_38_method_20_code 0 = .ok (.iload_n 1, 1) := by decide +kernel
theorem own_d17_1 : decode jdk_38_method_20_code 1 = .ok (.aload_n 0, 1) := by decide +kernel
theorem own_d17_2 : decode jdk_38_method_20_code 2 = .ok (.getfield 48, 3) := by decide +kernel
theorem own_d17_5 : decode jdk_38_method_20_code 5 = .ok (.invokestatic 118, 3) := by decide +kernel
theorem own_d17_8 : decode jdk_38_method_20_code 8 = .ok (.pop, 1) := by decide +kernel
theorem own_d17_9 : decode jdk_38_method_20_code 9 = .ok (.aload_n 0, 1) := by decide +kernel
theorem own_d17_10 : decode jdk_38_method_20_code 10 = .ok (.iload_n 1, 1) := by decide +kernel
theorem own_d17_11 : decode jdk_38_method_20_code 11 = .ok (.invokevirtual 123, 3) := by decide +kernel
theorem own_d17_14 : decode jdk_38_method_20_code 14 = .ok (.areturn, 1) := by decide +kernel
def own_Q17A (Z : State) (a : Addr) (t : Addr) (kt : ClassId) (x : Addr) (h0 : Heap) (n0 : Nat) (v : Option Value) (h : Heap) (L : List Loc) : Prop := v = some (.ref x) ∧ Fr n0 L ∧ h = h0
set_option maxRecDepth 65536 in
set_option maxHeartbeats 40000000 in
theorem own_rm17A (l : Launch) (Z : State) (a0 : Array Value) (hw : ∀ d ∈ tables_1, d.before a0 Z = true) (ws : List Jvm.Cond) (a : Addr) (t : Addr) (kt : ClassId) (x : Addr) (h0 : Heap) (n0 : Nat) (Z0 : n0 ≤ h0.size) (c0 : Fld Z h0 a "java/util/ArrayList" "elementData" "[Ljava/lang/Object;" (.ref t)) (c1 : Arv Z h0 t kt (.object "java/lang/Object") (10 : Int32) [(.ref x), .null, .null, .null, .null, .null, .null, .null, .null, .null] .null) (c2 : Exa Z h0 a "java/util/ArrayList") (c3 : Fld Z h0 a "java/util/ArrayList" "size" "I" (.int (1 : Int32))) :
    Con l Z (⟨"java/util/ArrayList", "get", "(I)Ljava/lang/Object;"⟩ : MethodName) jdk_38_method_20_code 2 (some (.object "java/lang/Object")) ws ({ frames := 2, cells := 0, slots := 0, locals := 27 } : Room) #[(.ref a), (.int (0 : Int32))] h0 (own_Q17A Z a t kt x h0 n0) := by
  refine Con.start #[.val (.ref a), .val (.int (0 : Int32))] (plainFor_of_name own_pn5) (fun m => by first | (refine own_ef ?_; exact rfl) | (simp [entryFrame, mkF, argsToLocals, Value.category]; done) | rfl) ?_
  intro p e s m below meth c s₁ P X0 hx hby hml hret hlk hown hnm hZ e0 hf
  have hml : c.maxLocals = 2 := hml
  have N0 := Fr.nil n0
  refine g_iloadN (pc' := 1) X0 hx hby (v := (0 : Int32)) own_d17_0 rfl rfl ?_
  refine g_aloadN (pc' := 2) X0 hx hby (v := (.ref a)) own_d17_1 rfl rfl rfl ?_
  refine g_getF (pc' := 5) X0 hx hby hZ hown (host := "") (Or.inl (hw _ (List.mem_of_getElem? (i := 76) rfl))) Via.refl e0 c3 rfl own_d17_2 rfl ?_
  intro T1 X1 e1
  refine g_callS (argsL := [(.int (0 : Int32)), (.int (1 : Int32))]) (pc' := 8) X1 hx hby (by rw [hml]; rfl) hZ hown e1 (own_rm18_0_1 l Z a0 hw []   h0 n0 Z0) (hw _ (List.mem_of_getElem? (i := 123) rfl)) (hw _ (List.mem_of_getElem? (i := 124) rfl)) (hw _ (List.mem_of_getElem? (i := 125) rfl)) (hw _ (List.mem_of_getElem? (i := 126) rfl)) (by decide) own_pd1 rfl rfl (W := 0) rfl (by decide) (by decide) (by decide) (by decide) own_d17_5 rfl ?_
  intro T2 v2 L2 X2 qq2
  obtain ⟨rfl, n2, e2⟩ := qq2
  have N2 := Fr.app N0 n2
  show Gf p e below P T2 m 8 #[.val (.ref a), .val (.int (0 : Int32))] [(.int (0 : Int32))]
  refine g_pop (pc' := 9) X2 hx hby own_d17_8 rfl rfl rfl ?_
  refine g_aloadN (pc' := 10) X2 hx hby (v := (.ref a)) own_d17_9 rfl rfl rfl ?_
  refine g_iloadN (pc' := 11) X2 hx hby (v := (0 : Int32)) own_d17_10 rfl rfl ?_
  refine g_virt (argsL := [(.int (0 : Int32))]) (pc' := 14) X2 hx hby (by rw [hml]; rfl) hZ hown e2 (own_rm20A l Z a0 hw [] a t kt x h0 n0 Z0 c0 c1) (hw _ (List.mem_of_getElem? (i := 131) rfl)) (hw _ (List.mem_of_getElem? (i := 132) rfl)) (hw _ (List.mem_of_getElem? (i := 134) rfl)) (hw _ (List.mem_of_getElem? (i := 133) rfl)) (hw _ (List.mem_of_getElem? (i := 43) rfl)) (hw _ (List.mem_of_getElem? (i := 135) rfl)) (by decide) c2 own_pd6 rfl rfl (W := 0) rfl (by decide) (by decide) (by decide) (by decide) own_d17_11 rfl ?_
  intro T3 v3 L3 X3 qq3
  obtain ⟨rfl, n3, e3⟩ := qq3
  have N3 := Fr.app N2 n3
  show Gf p e below P T3 m 14 #[.val (.ref a), .val (.int (0 : Int32))] [(.ref x)]
  exact g_retV X3 hx hby hf hlk hret own_d17_14 rfl rfl (Or.inr (Or.inr (Or.inr (Or.inr ⟨rfl, rfl, rfl⟩)))) (by decide) (by decide) e3 ⟨rfl, N3, rfl⟩
def own_Q20B (Z : State) (a : Addr) (t : Addr) (kt : ClassId) (x : Addr) (h0 : Heap) (n0 : Nat) (v : Option Value) (h : Heap) (L : List Loc) : Prop := v = some (.ref x) ∧ Fr n0 L ∧ h = h0
set_option maxRecDepth 65536 in
set_option maxHeartbeats 40000000 in
theorem own_rm20B (l : Launch) (Z : State) (a0 : Array Value) (hw : ∀ d ∈ tables_1, d.before a0 Z = true) (ws : List Jvm.Cond) (a : Addr) (t : Addr) (kt : ClassId) (x : Addr) (h0 : Heap) (n0 : Nat) (Z0 : n0 ≤ h0.size) (c0 : Fld Z h0 a "java/util/ArrayList" "elementData" "[Ljava/lang/Object;" (.ref t)) (c1 : Arv Z h0 t kt (.object "java/lang/Object") (2 : Int32) [(.ref x), .null] .null) :
    Con l Z (⟨"java/util/ArrayList", "elementData", "(I)Ljava/lang/Object;"⟩ : MethodName) jdk_38_method_18_code 2 (some (.object "java/lang/Object")) ws ({ frames := 0, cells := 0, slots := 0, locals := 0 } : Room) #[(.ref a), (.int (0 : Int32))] h0 (own_Q20B Z a t kt x h0 n0) := by
  refine Con.start #[.val (.ref a), .val (.int (0 : Int32))] (plainFor_of_name own_pn5) (fun m => by first | (refine own_ef ?_; exact rfl) | (simp [entryFrame, mkF, argsToLocals, Value.category]; done) | rfl) ?_
  intro p e s m below meth c s₁ P X0 hx hby hml hret hlk hown hnm hZ e0 hf
  have hml : c.maxLocals = 2 := hml
  have N0 := Fr.nil n0
  refine g_aloadN (pc' := 1) X0 hx hby (v := (.ref a)) own_d20_0 rfl rfl rfl ?_
  refine g_getF (pc' := 4) X0 hx hby hZ hown (host := "") (Or.inl (hw _ (List.mem_of_getElem? (i := 63) rfl))) Via.refl e0 c0 rfl own_d20_1 rfl ?_
  intro T1 X1 e1
  refine g_iloadN (pc' := 5) X1 hx hby (v := (0 : Int32)) own_d20_4 rfl rfl ?_
  refine g_ldR (pc' := 6) X1 hx hby hZ (v := (.ref x)) e1 c1 ⟨by decide, by decide⟩ rfl rfl own_d20_5 rfl ?_
  exact g_retV X1 hx hby hf hlk hret own_d20_6 rfl rfl (Or.inr (Or.inr (Or.inr (Or.inr ⟨rfl, rfl, rfl⟩)))) (by decide) (by decide) e1 ⟨rfl, N0, rfl⟩
def own_Q17B (Z : State) (a : Addr) (t : Addr) (kt : ClassId) (x : Addr) (h0 : Heap) (n0 : Nat) (v : Option Value) (h : Heap) (L : List Loc) : Prop := v = some (.ref x) ∧ Fr n0 L ∧ h = h0
set_option maxRecDepth 65536 in
set_option maxHeartbeats 40000000 in
theorem own_rm17B (l : Launch) (Z : State) (a0 : Array Value) (hw : ∀ d ∈ tables_1, d.before a0 Z = true) (ws : List Jvm.Cond) (a : Addr) (t : Addr) (kt : ClassId) (x : Addr) (h0 : Heap) (n0 : Nat) (Z0 : n0 ≤ h0.size) (c0 : Fld Z h0 a "java/util/ArrayList" "elementData" "[Ljava/lang/Object;" (.ref t)) (c1 : Arv Z h0 t kt (.object "java/lang/Object") (2 : Int32) [(.ref x), .null] .null) (c2 : Exa Z h0 a "java/util/ArrayList") (c3 : Fld Z h0 a "java/util/ArrayList" "size" "I" (.int (1 : Int32))) :
    Con l Z (⟨"java/util/ArrayList", "get", "(I)Ljava/lang/Object;"⟩ : MethodName) jdk_38_method_20_code 2 (some (.object "java/lang/Object")) ws ({ frames := 2, cells := 0, slots := 0, locals := 27 } : Room) #[(.ref a), (.int (0 : Int32))] h0 (own_Q17B Z a t kt x h0 n0) := by
  refine Con.start #[.val (.ref a), .val (.int (0 : Int32))] (plainFor_of_name own_pn5) (fun m => by first | (refine own_ef ?_; exact rfl) | (simp [entryFrame, mkF, argsToLocals, Value.category]; done) | rfl) ?_
  intro p e s m below meth c s₁ P X0 hx hby hml hret hlk hown hnm hZ e0 hf
  have hml : c.maxLocals = 2 := hml
  have N0 := Fr.nil n0
  refine g_iloadN (pc' := 1) X0 hx hby (v := (0 : Int32)) own_d17_0 rfl rfl ?_
  refine g_aloadN (pc' := 2) X0 hx hby (v := (.ref a)) own_d17_1 rfl rfl rfl ?_
  refine g_getF (pc' := 5) X0 hx hby hZ hown (host := "") (Or.inl (hw _ (List.mem_of_getElem? (i := 76) rfl))) Via.refl e0 c3 rfl own_d17_2 rfl ?_
  intro T1 X1 e1
  refine g_callS (argsL := [(.int (0 : Int32)), (.int (1 : Int32))]) (pc' := 8) X1 hx hby (by rw [hml]; rfl) hZ hown e1 (own_rm18_0_1 l Z a0 hw []   h0 n0 Z0) (hw _ (List.mem_of_getElem? (i := 123) rfl)) (hw _ (List.mem_of_getElem? (i := 124) rfl)) (hw _ (List.mem_of_getElem? (i := 125) rfl)) (hw _ (List.mem_of_getElem? (i := 126) rfl)) (by decide) own_pd1 rfl rfl (W := 0) rfl (by decide) (by decide) (by decide) (by decide) own_d17_5 rfl ?_
  intro T2 v2 L2 X2 qq2
  obtain ⟨rfl, n2, e2⟩ := qq2
  have N2 := Fr.app N0 n2
  show Gf p e below P T2 m 8 #[.val (.ref a), .val (.int (0 : Int32))] [(.int (0 : Int32))]
  refine g_pop (pc' := 9) X2 hx hby own_d17_8 rfl rfl rfl ?_
  refine g_aloadN (pc' := 10) X2 hx hby (v := (.ref a)) own_d17_9 rfl rfl rfl ?_
  refine g_iloadN (pc' := 11) X2 hx hby (v := (0 : Int32)) own_d17_10 rfl rfl ?_
  refine g_virt (argsL := [(.int (0 : Int32))]) (pc' := 14) X2 hx hby (by rw [hml]; rfl) hZ hown e2 (own_rm20B l Z a0 hw [] a t kt x h0 n0 Z0 c0 c1) (hw _ (List.mem_of_getElem? (i := 131) rfl)) (hw _ (List.mem_of_getElem? (i := 132) rfl)) (hw _ (List.mem_of_getElem? (i := 134) rfl)) (hw _ (List.mem_of_getElem? (i := 133) rfl)) (hw _ (List.mem_of_getElem? (i := 43) rfl)) (hw _ (List.mem_of_getElem? (i := 135) rfl)) (by decide) c2 own_pd6 rfl rfl (W := 0) rfl (by decide) (by decide) (by decide) (by decide) own_d17_11 rfl ?_
  intro T3 v3 L3 X3 qq3
  obtain ⟨rfl, n3, e3⟩ := qq3
  have N3 := Fr.app N2 n3
  show Gf p e below P T3 m 14 #[.val (.ref a), .val (.int (0 : Int32))] [(.ref x)]
  exact g_retV X3 hx hby hf hlk hret own_d17_14 rfl rfl (Or.inr (Or.inr (Or.inr (Or.inr ⟨rfl, rfl, rfl⟩)))) (by decide) (by decide) e3 ⟨rfl, N3, rfl⟩
def own_Q19_0_2 (Z : State)  (h0 : Heap) (n0 : Nat) (v : Option Value) (h : Heap) (L : List Loc) : Prop := v = some (.int (0 : Int32)) ∧ Fr n0 L ∧ h = h0
set_option maxRecDepth 65536 in
set_option maxHeartbeats 40000000 in
theorem own_rm19_0_2 (l : Launch) (Z : State) (a0 : Array Value) (hw : ∀ d ∈ tables_1, d.before a0 Z = true) (ws : List Jvm.Cond)  (h0 : Heap) (n0 : Nat) (Z0 : n0 ≤ h0.size) :
    Con l Z (⟨"jdk/internal/util/Preconditions", "checkIndex", "(IILjava/util/function/BiFunction;)I"⟩ : MethodName) jdk_41_method_11_code 3 (some .int) ws ({ frames := 0, cells := 0, slots := 0, locals := 0 } : Room) #[(.int (0 : Int32)), (.int (2 : Int32)), .null] h0 (own_Q19_0_2 Z  h0 n0) := by
  refine Con.start #[.val (.int (0 : Int32)), .val (.int (2 : Int32)), .val .null] (plainFor_of_name own_pn7) (fun m => by first | (refine own_ef ?_; exact rfl) | (simp [entryFrame, mkF, argsToLocals, Value.category]; done) | rfl) ?_
  intro p e s m below meth c s₁ P X0 hx hby hml hret hlk hown hnm hZ e0 hf
  have hml : c.maxLocals = 3 := hml
  have N0 := Fr.nil n0
  refine g_iloadN (pc' := 1) X0 hx hby (v := (0 : Int32)) own_d19_0 rfl rfl ?_
  refine g_ifN (pc' := 4) X0 hx hby own_d19_1 rfl (flt (by decide : ¬ ((0 : Int32) < (0 : Int32)))).1 rfl ?_
  refine g_iloadN (pc' := 5) X0 hx hby (v := (0 : Int32)) own_d19_4 rfl rfl ?_
  refine g_iloadN (pc' := 6) X0 hx hby (v := (2 : Int32)) own_d19_5 rfl rfl ?_
  refine g_icY (pc' := 16) X0 hx hby own_d19_6 rfl (tlt (by decide : (0 : Int32) < (2 : Int32))).1 (by decide) (by decide) ?_
  refine g_iloadN (pc' := 17) X0 hx hby (v := (0 : Int32)) own_d19_16 rfl rfl ?_
  exact g_retV X0 hx hby hf hlk hret own_d19_17 rfl rfl (Or.inl ⟨rfl, Or.inl rfl, _, rfl⟩) (by decide) (by decide) e0 ⟨rfl, N0, rfl⟩
def own_Q18_0_2 (Z : State)  (h0 : Heap) (n0 : Nat) (v : Option Value) (h : Heap) (L : List Loc) : Prop := v = some (.int (0 : Int32)) ∧ Fr n0 L ∧ h = h0
set_option maxRecDepth 65536 in
set_option maxHeartbeats 40000000 in
theorem own_rm18_0_2 (l : Launch) (Z : State) (a0 : Array Value) (hw : ∀ d ∈ tables_1, d.before a0 Z = true) (ws : List Jvm.Cond)  (h0 : Heap) (n0 : Nat) (Z0 : n0 ≤ h0.size) :
    Con l Z (⟨"java/util/Objects", "checkIndex", "(II)I"⟩ : MethodName) jdk_31_method_17_code 2 (some .int) ws ({ frames := 1, cells := 0, slots := 0, locals := 14 } : Room) #[(.int (0 : Int32)), (.int (2 : Int32))] h0 (own_Q18_0_2 Z  h0 n0) := by
  refine Con.start #[.val (.int (0 : Int32)), .val (.int (2 : Int32))] (plainFor_of_name own_pn8) (fun m => by first | (refine own_ef ?_; exact rfl) | (simp [entryFrame, mkF, argsToLocals, Value.category]; done) | rfl) ?_
  intro p e s m below meth c s₁ P X0 hx hby hml hret hlk hown hnm hZ e0 hf
  have hml : c.maxLocals = 2 := hml
  have N0 := Fr.nil n0
  refine g_iloadN (pc' := 1) X0 hx hby (v := (0 : Int32)) own_d18_0 rfl rfl ?_
  refine g_iloadN (pc' := 2) X0 hx hby (v := (2 : Int32)) own_d18_1 rfl rfl ?_
  refine g_aconst_null (pc' := 3) X0 hx hby own_d18_2 rfl ?_
  refine g_callS (argsL := [(.int (0 : Int32)), (.int (2 : Int32)), .null]) (pc' := 6) X0 hx hby (by rw [hml]; rfl) hZ hown e0 (own_rm19_0_2 l Z a0 hw []   h0 n0 Z0) (hw _ (List.mem_of_getElem? (i := 127) rfl)) (hw _ (List.mem_of_getElem? (i := 128) rfl)) (hw _ (List.mem_of_getElem? (i := 129) rfl)) (hw _ (List.mem_of_getElem? (i := 130) rfl)) (by decide) own_pd5 rfl rfl (W := 0) rfl (by decide) (by decide) (by decide) (by decide) own_d18_3 rfl ?_
  intro T1 v1 L1 X1 qq1
  obtain ⟨rfl, n1, e1⟩ := qq1
  have N1 := Fr.app N0 n1
  show Gf p e below P T1 m 6 #[.val (.int (0 : Int32)), .val (.int (2 : Int32))] [(.int (0 : Int32))]
  exact g_retV X1 hx hby hf hlk hret own_d18_6 rfl rfl (Or.inl ⟨rfl, Or.inl rfl, _, rfl⟩) (by decide) (by decide) e1 ⟨rfl, N1, rfl⟩
def own_Q20C (Z : State) (a : Addr) (t : Addr) (kt : ClassId) (x : Addr) (y : Addr) (h0 : Heap) (n0 : Nat) (v : Option Value) (h : Heap) (L : List Loc) : Prop := v = some (.ref x) ∧ Fr n0 L ∧ h = h0
set_option maxRecDepth 65536 in
set_option maxHeartbeats 40000000 in
theorem own_rm20C (l : Launch) (Z : State) (a0 : Array Value) (hw : ∀ d ∈ tables_1, d.before a0 Z = true) (ws : List Jvm.Cond) (a : Addr) (t : Addr) (kt : ClassId) (x : Addr) (y : Addr) (h0 : Heap) (n0 : Nat) (Z0 : n0 ≤ h0.size) (c0 : Fld Z h0 a "java/util/ArrayList" "elementData" "[Ljava/lang/Object;" (.ref t)) (c1 : Arv Z h0 t kt (.object "java/lang/Object") (2 : Int32) [(.ref x), (.ref y)] .null) :
    Con l Z (⟨"java/util/ArrayList", "elementData", "(I)Ljava/lang/Object;"⟩ : MethodName) jdk_38_method_18_code 2 (some (.object "java/lang/Object")) ws ({ frames := 0, cells := 0, slots := 0, locals := 0 } : Room) #[(.ref a), (.int (0 : Int32))] h0 (own_Q20C Z a t kt x y h0 n0) := by
  refine Con.start #[.val (.ref a), .val (.int (0 : Int32))] (plainFor_of_name own_pn5) (fun m => by first | (refine own_ef ?_; exact rfl) | (simp [entryFrame, mkF, argsToLocals, Value.category]; done) | rfl) ?_
  intro p e s m below meth c s₁ P X0 hx hby hml hret hlk hown hnm hZ e0 hf
  have hml : c.maxLocals = 2 := hml
  have N0 := Fr.nil n0
  refine g_aloadN (pc' := 1) X0 hx hby (v := (.ref a)) own_d20_0 rfl rfl rfl ?_
  refine g_getF (pc' := 4) X0 hx hby hZ hown (host := "") (Or.inl (hw _ (List.mem_of_getElem? (i := 63) rfl))) Via.refl e0 c0 rfl own_d20_1 rfl ?_
  intro T1 X1 e1
  refine g_iloadN (pc' := 5) X1 hx hby (v := (0 : Int32)) own_d20_4 rfl rfl ?_
  refine g_ldR (pc' := 6) X1 hx hby hZ (v := (.ref x)) e1 c1 ⟨by decide, by decide⟩ rfl rfl own_d20_5 rfl ?_
  exact g_retV X1 hx hby hf hlk hret own_d20_6 rfl rfl (Or.inr (Or.inr (Or.inr (Or.inr ⟨rfl, rfl, rfl⟩)))) (by decide) (by decide) e1 ⟨rfl, N0, rfl⟩
def own_Q17C (Z : State) (a : Addr) (t : Addr) (kt : ClassId) (x : Addr) (y : Addr) (h0 : Heap) (n0 : Nat) (v : Option Value) (h : Heap) (L : List Loc) : Prop := v = some (.ref x) ∧ Fr n0 L ∧ h = h0
set_option maxRecDepth 65536 in
set_option maxHeartbeats 40000000 in
theorem own_rm17C (l : Launch) (Z : State) (a0 : Array Value) (hw : ∀ d ∈ tables_1, d.before a0 Z = true) (ws : List Jvm.Cond) (a : Addr) (t : Addr) (kt : ClassId) (x : Addr) (y : Addr) (h0 : Heap) (n0 : Nat) (Z0 : n0 ≤ h0.size) (c0 : Fld Z h0 a "java/util/ArrayList" "elementData" "[Ljava/lang/Object;" (.ref t)) (c1 : Arv Z h0 t kt (.object "java/lang/Object") (2 : Int32) [(.ref x), (.ref y)] .null) (c2 : Exa Z h0 a "java/util/ArrayList") (c3 : Fld Z h0 a "java/util/ArrayList" "size" "I" (.int (2 : Int32))) :
    Con l Z (⟨"java/util/ArrayList", "get", "(I)Ljava/lang/Object;"⟩ : MethodName) jdk_38_method_20_code 2 (some (.object "java/lang/Object")) ws ({ frames := 2, cells := 0, slots := 0, locals := 27 } : Room) #[(.ref a), (.int (0 : Int32))] h0 (own_Q17C Z a t kt x y h0 n0) := by
  refine Con.start #[.val (.ref a), .val (.int (0 : Int32))] (plainFor_of_name own_pn5) (fun m => by first | (refine own_ef ?_; exact rfl) | (simp [entryFrame, mkF, argsToLocals, Value.category]; done) | rfl) ?_
  intro p e s m below meth c s₁ P X0 hx hby hml hret hlk hown hnm hZ e0 hf
  have hml : c.maxLocals = 2 := hml
  have N0 := Fr.nil n0
  refine g_iloadN (pc' := 1) X0 hx hby (v := (0 : Int32)) own_d17_0 rfl rfl ?_
  refine g_aloadN (pc' := 2) X0 hx hby (v := (.ref a)) own_d17_1 rfl rfl rfl ?_
  refine g_getF (pc' := 5) X0 hx hby hZ hown (host := "") (Or.inl (hw _ (List.mem_of_getElem? (i := 76) rfl))) Via.refl e0 c3 rfl own_d17_2 rfl ?_
  intro T1 X1 e1
  refine g_callS (argsL := [(.int (0 : Int32)), (.int (2 : Int32))]) (pc' := 8) X1 hx hby (by rw [hml]; rfl) hZ hown e1 (own_rm18_0_2 l Z a0 hw []   h0 n0 Z0) (hw _ (List.mem_of_getElem? (i := 123) rfl)) (hw _ (List.mem_of_getElem? (i := 124) rfl)) (hw _ (List.mem_of_getElem? (i := 125) rfl)) (hw _ (List.mem_of_getElem? (i := 126) rfl)) (by decide) own_pd1 rfl rfl (W := 0) rfl (by decide) (by decide) (by decide) (by decide) own_d17_5 rfl ?_
  intro T2 v2 L2 X2 qq2
  obtain ⟨rfl, n2, e2⟩ := qq2
  have N2 := Fr.app N0 n2
  show Gf p e below P T2 m 8 #[.val (.ref a), .val (.int (0 : Int32))] [(.int (0 : Int32))]
  refine g_pop (pc' := 9) X2 hx hby own_d17_8 rfl rfl rfl ?_
  refine g_aloadN (pc' := 10) X2 hx hby (v := (.ref a)) own_d17_9 rfl rfl rfl ?_
  refine g_iloadN (pc' := 11) X2 hx hby (v := (0 : Int32)) own_d17_10 rfl rfl ?_
  refine g_virt (argsL := [(.int (0 : Int32))]) (pc' := 14) X2 hx hby (by rw [hml]; rfl) hZ hown e2 (own_rm20C l Z a0 hw [] a t kt x y h0 n0 Z0 c0 c1) (hw _ (List.mem_of_getElem? (i := 131) rfl)) (hw _ (List.mem_of_getElem? (i := 132) rfl)) (hw _ (List.mem_of_getElem? (i := 134) rfl)) (hw _ (List.mem_of_getElem? (i := 133) rfl)) (hw _ (List.mem_of_getElem? (i := 43) rfl)) (hw _ (List.mem_of_getElem? (i := 135) rfl)) (by decide) c2 own_pd6 rfl rfl (W := 0) rfl (by decide) (by decide) (by decide) (by decide) own_d17_11 rfl ?_
  intro T3 v3 L3 X3 qq3
  obtain ⟨rfl, n3, e3⟩ := qq3
  have N3 := Fr.app N2 n3
  show Gf p e below P T3 m 14 #[.val (.ref a), .val (.int (0 : Int32))] [(.ref x)]
  exact g_retV X3 hx hby hf hlk hret own_d17_14 rfl rfl (Or.inr (Or.inr (Or.inr (Or.inr ⟨rfl, rfl, rfl⟩)))) (by decide) (by decide) e3 ⟨rfl, N3, rfl⟩
def own_Q19_1_2 (Z : State)  (h0 : Heap) (n0 : Nat) (v : Option Value) (h : Heap) (L : List Loc) : Prop := v = some (.int (1 : Int32)) ∧ Fr n0 L ∧ h = h0
set_option maxRecDepth 65536 in
set_option maxHeartbeats 40000000 in
theorem own_rm19_1_2 (l : Launch) (Z : State) (a0 : Array Value) (hw : ∀ d ∈ tables_1, d.before a0 Z = true) (ws : List Jvm.Cond)  (h0 : Heap) (n0 : Nat) (Z0 : n0 ≤ h0.size) :
    Con l Z (⟨"jdk/internal/util/Preconditions", "checkIndex", "(IILjava/util/function/BiFunction;)I"⟩ : MethodName) jdk_41_method_11_code 3 (some .int) ws ({ frames := 0, cells := 0, slots := 0, locals := 0 } : Room) #[(.int (1 : Int32)), (.int (2 : Int32)), .null] h0 (own_Q19_1_2 Z  h0 n0) := by
  refine Con.start #[.val (.int (1 : Int32)), .val (.int (2 : Int32)), .val .null] (plainFor_of_name own_pn7) (fun m => by first | (refine own_ef ?_; exact rfl) | (simp [entryFrame, mkF, argsToLocals, Value.category]; done) | rfl) ?_
  intro p e s m below meth c s₁ P X0 hx hby hml hret hlk hown hnm hZ e0 hf
  have hml : c.maxLocals = 3 := hml
  have N0 := Fr.nil n0
  refine g_iloadN (pc' := 1) X0 hx hby (v := (1 : Int32)) own_d19_0 rfl rfl ?_
  refine g_ifN (pc' := 4) X0 hx hby own_d19_1 rfl (flt (by decide : ¬ ((1 : Int32) < (0 : Int32)))).1 rfl ?_
  refine g_iloadN (pc' := 5) X0 hx hby (v := (1 : Int32)) own_d19_4 rfl rfl ?_
  refine g_iloadN (pc' := 6) X0 hx hby (v := (2 : Int32)) own_d19_5 rfl rfl ?_
  refine g_icY (pc' := 16) X0 hx hby own_d19_6 rfl (tlt (by decide : (1 : Int32) < (2 : Int32))).1 (by decide) (by decide) ?_
  refine g_iloadN (pc' := 17) X0 hx hby (v := (1 : Int32)) own_d19_16 rfl rfl ?_
  exact g_retV X0 hx hby hf hlk hret own_d19_17 rfl rfl (Or.inl ⟨rfl, Or.inl rfl, _, rfl⟩) (by decide) (by decide) e0 ⟨rfl, N0, rfl⟩
def own_Q18_1_2 (Z : State)  (h0 : Heap) (n0 : Nat) (v : Option Value) (h : Heap) (L : List Loc) : Prop := v = some (.int (1 : Int32)) ∧ Fr n0 L ∧ h = h0
set_option maxRecDepth 65536 in
set_option maxHeartbeats 40000000 in
theorem own_rm18_1_2 (l : Launch) (Z : State) (a0 : Array Value) (hw : ∀ d ∈ tables_1, d.before a0 Z = true) (ws : List Jvm.Cond)  (h0 : Heap) (n0 : Nat) (Z0 : n0 ≤ h0.size) :
    Con l Z (⟨"java/util/Objects", "checkIndex", "(II)I"⟩ : MethodName) jdk_31_method_17_code 2 (some .int) ws ({ frames := 1, cells := 0, slots := 0, locals := 14 } : Room) #[(.int (1 : Int32)), (.int (2 : Int32))] h0 (own_Q18_1_2 Z  h0 n0) := by
  refine Con.start #[.val (.int (1 : Int32)), .val (.int (2 : Int32))] (plainFor_of_name own_pn8) (fun m => by first | (refine own_ef ?_; exact rfl) | (simp [entryFrame, mkF, argsToLocals, Value.category]; done) | rfl) ?_
  intro p e s m below meth c s₁ P X0 hx hby hml hret hlk hown hnm hZ e0 hf
  have hml : c.maxLocals = 2 := hml
  have N0 := Fr.nil n0
  refine g_iloadN (pc' := 1) X0 hx hby (v := (1 : Int32)) own_d18_0 rfl rfl ?_
  refine g_iloadN (pc' := 2) X0 hx hby (v := (2 : Int32)) own_d18_1 rfl rfl ?_
  refine g_aconst_null (pc' := 3) X0 hx hby own_d18_2 rfl ?_
  refine g_callS (argsL := [(.int (1 : Int32)), (.int (2 : Int32)), .null]) (pc' := 6) X0 hx hby (by rw [hml]; rfl) hZ hown e0 (own_rm19_1_2 l Z a0 hw []   h0 n0 Z0) (hw _ (List.mem_of_getElem? (i := 127) rfl)) (hw _ (List.mem_of_getElem? (i := 128) rfl)) (hw _ (List.mem_of_getElem? (i := 129) rfl)) (hw _ (List.mem_of_getElem? (i := 130) rfl)) (by decide) own_pd5 rfl rfl (W := 0) rfl (by decide) (by decide) (by decide) (by decide) own_d18_3 rfl ?_
  intro T1 v1 L1 X1 qq1
  obtain ⟨rfl, n1, e1⟩ := qq1
  have N1 := Fr.app N0 n1
  show Gf p e below P T1 m 6 #[.val (.int (1 : Int32)), .val (.int (2 : Int32))] [(.int (1 : Int32))]
  exact g_retV X1 hx hby hf hlk hret own_d18_6 rfl rfl (Or.inl ⟨rfl, Or.inl rfl, _, rfl⟩) (by decide) (by decide) e1 ⟨rfl, N1, rfl⟩
def own_Q20D (Z : State) (a : Addr) (t : Addr) (kt : ClassId) (x : Addr) (y : Addr) (h0 : Heap) (n0 : Nat) (v : Option Value) (h : Heap) (L : List Loc) : Prop := v = some (.ref y) ∧ Fr n0 L ∧ h = h0
set_option maxRecDepth 65536 in
set_option maxHeartbeats 40000000 in
theorem own_rm20D (l : Launch) (Z : State) (a0 : Array Value) (hw : ∀ d ∈ tables_1, d.before a0 Z = true) (ws : List Jvm.Cond) (a : Addr) (t : Addr) (kt : ClassId) (x : Addr) (y : Addr) (h0 : Heap) (n0 : Nat) (Z0 : n0 ≤ h0.size) (c0 : Fld Z h0 a "java/util/ArrayList" "elementData" "[Ljava/lang/Object;" (.ref t)) (c1 : Arv Z h0 t kt (.object "java/lang/Object") (2 : Int32) [(.ref x), (.ref y)] .null) :
    Con l Z (⟨"java/util/ArrayList", "elementData", "(I)Ljava/lang/Object;"⟩ : MethodName) jdk_38_method_18_code 2 (some (.object "java/lang/Object")) ws ({ frames := 0, cells := 0, slots := 0, locals := 0 } : Room) #[(.ref a), (.int (1 : Int32))] h0 (own_Q20D Z a t kt x y h0 n0) := by
  refine Con.start #[.val (.ref a), .val (.int (1 : Int32))] (plainFor_of_name own_pn5) (fun m => by first | (refine own_ef ?_; exact rfl) | (simp [entryFrame, mkF, argsToLocals, Value.category]; done) | rfl) ?_
  intro p e s m below meth c s₁ P X0 hx hby hml hret hlk hown hnm hZ e0 hf
  have hml : c.maxLocals = 2 := hml
  have N0 := Fr.nil n0
  refine g_aloadN (pc' := 1) X0 hx hby (v := (.ref a)) own_d20_0 rfl rfl rfl ?_
  refine g_getF (pc' := 4) X0 hx hby hZ hown (host := "") (Or.inl (hw _ (List.mem_of_getElem? (i := 63) rfl))) Via.refl e0 c0 rfl own_d20_1 rfl ?_
  intro T1 X1 e1
  refine g_iloadN (pc' := 5) X1 hx hby (v := (1 : Int32)) own_d20_4 rfl rfl ?_
  refine g_ldR (pc' := 6) X1 hx hby hZ (v := (.ref y)) e1 c1 ⟨by decide, by decide⟩ rfl rfl own_d20_5 rfl ?_
  exact g_retV X1 hx hby hf hlk hret own_d20_6 rfl rfl (Or.inr (Or.inr (Or.inr (Or.inr ⟨rfl, rfl, rfl⟩)))) (by decide) (by decide) e1 ⟨rfl, N0, rfl⟩
def own_Q17D (Z : State) (a : Addr) (t : Addr) (kt : ClassId) (x : Addr) (y : Addr) (h0 : Heap) (n0 : Nat) (v : Option Value) (h : Heap) (L : List Loc) : Prop := v = some (.ref y) ∧ Fr n0 L ∧ h = h0
set_option maxRecDepth 65536 in
set_option maxHeartbeats 40000000 in
theorem own_rm17D (l : Launch) (Z : State) (a0 : Array Value) (hw : ∀ d ∈ tables_1, d.before a0 Z = true) (ws : List Jvm.Cond) (a : Addr) (t : Addr) (kt : ClassId) (x : Addr) (y : Addr) (h0 : Heap) (n0 : Nat) (Z0 : n0 ≤ h0.size) (c0 : Fld Z h0 a "java/util/ArrayList" "elementData" "[Ljava/lang/Object;" (.ref t)) (c1 : Arv Z h0 t kt (.object "java/lang/Object") (2 : Int32) [(.ref x), (.ref y)] .null) (c2 : Exa Z h0 a "java/util/ArrayList") (c3 : Fld Z h0 a "java/util/ArrayList" "size" "I" (.int (2 : Int32))) :
    Con l Z (⟨"java/util/ArrayList", "get", "(I)Ljava/lang/Object;"⟩ : MethodName) jdk_38_method_20_code 2 (some (.object "java/lang/Object")) ws ({ frames := 2, cells := 0, slots := 0, locals := 27 } : Room) #[(.ref a), (.int (1 : Int32))] h0 (own_Q17D Z a t kt x y h0 n0) := by
  refine Con.start #[.val (.ref a), .val (.int (1 : Int32))] (plainFor_of_name own_pn5) (fun m => by first | (refine own_ef ?_; exact rfl) | (simp [entryFrame, mkF, argsToLocals, Value.category]; done) | rfl) ?_
  intro p e s m below meth c s₁ P X0 hx hby hml hret hlk hown hnm hZ e0 hf
  have hml : c.maxLocals = 2 := hml
  have N0 := Fr.nil n0
  refine g_iloadN (pc' := 1) X0 hx hby (v := (1 : Int32)) own_d17_0 rfl rfl ?_
  refine g_aloadN (pc' := 2) X0 hx hby (v := (.ref a)) own_d17_1 rfl rfl rfl ?_
  refine g_getF (pc' := 5) X0 hx hby hZ hown (host := "") (Or.inl (hw _ (List.mem_of_getElem? (i := 76) rfl))) Via.refl e0 c3 rfl own_d17_2 rfl ?_
  intro T1 X1 e1
  refine g_callS (argsL := [(.int (1 : Int32)), (.int (2 : Int32))]) (pc' := 8) X1 hx hby (by rw [hml]; rfl) hZ hown e1 (own_rm18_1_2 l Z a0 hw []   h0 n0 Z0) (hw _ (List.mem_of_getElem? (i := 123) rfl)) (hw _ (List.mem_of_getElem? (i := 124) rfl)) (hw _ (List.mem_of_getElem? (i := 125) rfl)) (hw _ (List.mem_of_getElem? (i := 126) rfl)) (by decide) own_pd1 rfl rfl (W := 0) rfl (by decide) (by decide) (by decide) (by decide) own_d17_5 rfl ?_
  intro T2 v2 L2 X2 qq2
  obtain ⟨rfl, n2, e2⟩ := qq2
  have N2 := Fr.app N0 n2
  show Gf p e below P T2 m 8 #[.val (.ref a), .val (.int (1 : Int32))] [(.int (1 : Int32))]
  refine g_pop (pc' := 9) X2 hx hby own_d17_8 rfl rfl rfl ?_
  refine g_aloadN (pc' := 10) X2 hx hby (v := (.ref a)) own_d17_9 rfl rfl rfl ?_
  refine g_iloadN (pc' := 11) X2 hx hby (v := (1 : Int32)) own_d17_10 rfl rfl ?_
  refine g_virt (argsL := [(.int (1 : Int32))]) (pc' := 14) X2 hx hby (by rw [hml]; rfl) hZ hown e2 (own_rm20D l Z a0 hw [] a t kt x y h0 n0 Z0 c0 c1) (hw _ (List.mem_of_getElem? (i := 131) rfl)) (hw _ (List.mem_of_getElem? (i := 132) rfl)) (hw _ (List.mem_of_getElem? (i := 134) rfl)) (hw _ (List.mem_of_getElem? (i := 133) rfl)) (hw _ (List.mem_of_getElem? (i := 43) rfl)) (hw _ (List.mem_of_getElem? (i := 135) rfl)) (by decide) c2 own_pd6 rfl rfl (W := 0) rfl (by decide) (by decide) (by decide) (by decide) own_d17_11 rfl ?_
  intro T3 v3 L3 X3 qq3
  obtain ⟨rfl, n3, e3⟩ := qq3
  have N3 := Fr.app N2 n3
  show Gf p e below P T3 m 14 #[.val (.ref a), .val (.int (1 : Int32))] [(.ref y)]
  exact g_retV X3 hx hby hf hlk hret own_d17_14 rfl rfl (Or.inr (Or.inr (Or.inr (Or.inr ⟨rfl, rfl, rfl⟩)))) (by decide) (by decide) e3 ⟨rfl, N3, rfl⟩
theorem own_d21_0 : decode prog_19_method_6_code 0 = .ok (.aload_n 0, 1) := by decide +kernel
theorem own_d21_1 : decode prog_19_method_6_code 1 = .ok (.getfield 7, 3) := by decide +kernel
theorem own_d21_4 : decode prog_19_method_6_code 4 = .ok (.dreturn, 1) := by decide +kernel
def own_Q21 (Z : State) (a : Addr) (w : UInt64) (h0 : Heap) (n0 : Nat) (v : Option Value) (h : Heap) (L : List Loc) : Prop := v = some (.double w) ∧ Fr n0 L ∧ h = h0
set_option maxRecDepth 65536 in
set_option maxHeartbeats 40000000 in
theorem own_rm21 (l : Launch) (Z : State) (a0 : Array Value) (hw : ∀ d ∈ tables_1, d.before a0 Z = true) (ws : List Jvm.Cond) (a : Addr) (w : UInt64) (h0 : Heap) (n0 : Nat) (Z0 : n0 ≤ h0.size) (c0 : Fld Z h0 a "com/example/rowcast/rowcast/Histogram$CountedEndpoint" "value" "D" (.double w)) :
    Con l Z (⟨"com/example/rowcast/rowcast/Histogram$CountedEndpoint", "value", "()D"⟩ : MethodName) prog_19_method_6_code 1 (some .double) ws ({ frames := 0, cells := 0, slots := 0, locals := 0 } : Room) #[(.ref a)] h0 (own_Q21 Z a w h0 n0) := by
  refine Con.start #[.val (.ref a)] (plainFor_of_name own_pn1) (fun m => by first | (refine own_ef ?_; exact rfl) | (simp [entryFrame, mkF, argsToLocals, Value.category]; done) | rfl) ?_
  intro p e s m below meth c s₁ P X0 hx hby hml hret hlk hown hnm hZ e0 hf
  have hml : c.maxLocals = 1 := hml
  have N0 := Fr.nil n0
  refine g_aloadN (pc' := 1) X0 hx hby (v := (.ref a)) own_d21_0 rfl rfl rfl ?_
  refine g_getF (pc' := 4) X0 hx hby hZ hown (host := "") (Or.inl (hw _ (List.mem_of_getElem? (i := 14) rfl))) Via.refl e0 c0 rfl own_d21_1 rfl ?_
  intro T1 X1 e1
  exact g_retV X1 hx hby hf hlk hret own_d21_4 rfl rfl (Or.inr (Or.inr (Or.inl ⟨rfl, rfl, _, rfl⟩))) (by decide) (by decide) e1 ⟨rfl, N0, rfl⟩
theorem own_d14_0 : decode prog_32_method_2_code 0 = .ok (.new 20, 3) := by decide +kernel
theorem own_d14_3 : decode prog_32_method_2_code 3 = .ok (.dup, 1) := by decide +kernel
theorem own_d14_4 : decode prog_32_method_2_code 4 = .ok (.aload_n 0, 1) := by decide +kernel
theorem own_d14_5 : decode prog_32_method_2_code 5 = .ok (.invokeinterface 22 1, 5) := by decide +kernel
theorem own_d14_10 : decode prog_32_method_2_code 10 = .ok (.aload_n 1, 1) := by decide +kernel
theorem own_d14_11 : decode prog_32_method_2_code 11 = .ok (.invokeinterface 22 1, 5) := by decide +kernel
theorem own_d14_16 : decode prog_32_method_2_code 16 = .ok (.iadd, 1) := by decide +kernel
theorem own_d14_17 : decode prog_32_method_2_code 17 = .ok (.invokespecial 28, 3) := by decide +kernel
theorem own_d14_20 : decode prog_32_method_2_code 20 = .ok (.astore_n 2, 1) := by decide +kernel
theorem own_d14_21 : decode prog_32_method_2_code 21 = .ok (.iconst 0, 1) := by decide +kernel
theorem own_d14_22 : decode prog_32_method_2_code 22 = .ok (.istore_n 3, 1) := by decide +kernel
theorem own_d14_23 : decode prog_32_method_2_code 23 = .ok (.iconst 0, 1) := by decide +kernel
theorem own_d14_24 : decode prog_32_method_2_code 24 = .ok (.istore 4, 2) := by decide +kernel
theorem own_d14_26 : decode prog_32_method_2_code 26 = .ok (.iload_n 3, 1) := by decide +kernel
theorem own_d14_27 : decode prog_32_method_2_code 27 = .ok (.aload_n 0, 1) := by decide +kernel
theorem own_d14_28 : decode prog_32_method_2_code 28 = .ok (.invokeinterface 22 1, 5) := by decide +kernel
theorem own_d14_33 : decode prog_32_method_2_code 33 = .ok (.if_icmp .lt 14, 3) := by decide +kernel
theorem own_d14_36 : decode prog_32_method_2_code 36 = .ok (.iload 4, 2) := by decide +kernel
theorem own_d14_38 : decode prog_32_method_2_code 38 = .ok (.aload_n 1, 1) := by decide +kernel
theorem own_d14_39 : decode prog_32_method_2_code 39 = .ok (.invokeinterface 22 1, 5) := by decide +kernel
theorem own_d14_44 : decode prog_32_method_2_code 44 = .ok (.if_icmp .ge 188, 3) := by decide +kernel
theorem own_d14_47 : decode prog_32_method_2_code 47 = .ok (.iload_n 3, 1) := by decide +kernel
theorem own_d14_48 : decode prog_32_method_2_code 48 = .ok (.aload_n 0, 1) := by decide +kernel
theorem own_d14_49 : decode prog_32_method_2_code 49 = .ok (.invokeinterface 22 1, 5) := by decide +kernel
theorem own_d14_54 : decode prog_32_method_2_code 54 = .ok (.if_icmp .ge 16, 3) := by decide +kernel
theorem own_d14_57 : decode prog_32_method_2_code 57 = .ok (.aload_n 0, 1) := by decide +kernel
theorem own_d14_58 : decode prog_32_method_2_code 58 = .ok (.iload_n 3, 1) := by decide +kernel
theorem own_d14_59 : decode prog_32_method_2_code 59 = .ok (.invokeinterface 31 2, 5) := by decide +kernel
theorem own_d14_64 : decode prog_32_method_2_code 64 = .ok (.checkcast 35, 3) := by decide +kernel
theorem own_d14_67 : decode prog_32_method_2_code 67 = .ok (.goto 4, 3) := by decide +kernel
theorem own_d14_70 : decode prog_32_method_2_code 70 = .ok (.aconst_null, 1) := by decide +kernel
theorem own_d14_71 : decode prog_32_method_2_code 71 = .ok (.astore 5, 2) := by decide +kernel
theorem own_d14_73 : decode prog_32_method_2_code 73 = .ok (.iload 4, 2) := by decide +kernel
theorem own_d14_75 : decode prog_32_method_2_code 75 = .ok (.aload_n 1, 1) := by decide +kernel
theorem own_d14_76 : decode prog_32_method_2_code 76 = .ok (.invokeinterface 22 1, 5) := by decide +kernel
theorem own_d14_81 : decode prog_32_method_2_code 81 = .ok (.if_icmp .ge 17, 3) := by decide +kernel
theorem own_d14_84 : decode prog_32_method_2_code 84 = .ok (.aload_n 1, 1) := by decide +kernel
theorem own_d14_85 : decode prog_32_method_2_code 85 = .ok (.iload 4, 2) := by decide +kernel
theorem own_d14_87 : decode prog_32_method_2_code 87 = .ok (.invokeinterface 31 2, 5) := by decide +kernel
theorem own_d14_92 : decode prog_32_method_2_code 92 = .ok (.checkcast 35, 3) := by decide +kernel
theorem own_d14_95 : decode prog_32_method_2_code 95 = .ok (.goto 4, 3) := by decide +kernel
theorem own_d14_99 : decode prog_32_method_2_code 99 = .ok (.astore 6, 2) := by decide +kernel
theorem own_d14_101 : decode prog_32_method_2_code 101 = .ok (.aload 6, 2) := by decide +kernel
theorem own_d14_103 : decode prog_32_method_2_code 103 = .ok (.ifnull 22, 3) := by decide +kernel
theorem own_d14_106 : decode prog_32_method_2_code 106 = .ok (.aload 5, 2) := by decide +kernel
theorem own_d14_108 : decode prog_32_method_2_code 108 = .ok (.ifnull 45, 3) := by decide +kernel
theorem own_d14_111 : decode prog_32_method_2_code 111 = .ok (.aload 5, 2) := by decide +kernel
theorem own_d14_113 : decode prog_32_method_2_code 113 = .ok (.invokevirtual 37, 3) := by decide +kernel
theorem own_d14_116 : decode prog_32_method_2_code 116 = .ok (.aload 6, 2) := by decide +kernel
theorem own_d14_118 : decode prog_32_method_2_code 118 = .ok (.invokevirtual 37, 3) := by decide +kernel
theorem own_d14_121 : decode prog_32_method_2_code 121 = .ok (.dcmp .g, 1) := by decide +kernel
theorem own_d14_122 : decode prog_32_method_2_code 122 = .ok (.ifCond .ge 31, 3) := by decide +kernel
theorem own_d14_125 : decode prog_32_method_2_code 125 = .ok (.aload_n 2, 1) := by decide +kernel
theorem own_d14_126 : decode prog_32_method_2_code 126 = .ok (.new 8, 3) := by decide +kernel
theorem own_d14_129 : decode prog_32_method_2_code 129 = .ok (.dup, 1) := by decide +kernel
theorem own_d14_130 : decode prog_32_method_2_code 130 = .ok (.aload 5, 2) := by decide +kernel
theorem own_d14_132 : decode prog_32_method_2_code 132 = .ok (.invokevirtual 37, 3) := by decide +kernel
theorem own_d14_135 : decode prog_32_method_2_code 135 = .ok (.aload 5, 2) := by decide +kernel
theorem own_d14_137 : decode prog_32_method_2_code 137 = .ok (.aconst_null, 1) := by decide +kernel
theorem own_d14_138 : decode prog_32_method_2_code 138 = .ok (.invokespecial 40, 3) := by decide +kernel
theorem own_d14_141 : decode prog_32_method_2_code 141 = .ok (.invokeinterface 43 2, 5) := by decide +kernel
theorem own_d14_146 : decode prog_32_method_2_code 146 = .ok (.pop, 1) := by decide +kernel
theorem own_d14_147 : decode prog_32_method_2_code 147 = .ok (.iinc 3 1, 3) := by decide +kernel
theorem own_d14_150 : decode prog_32_method_2_code 150 = .ok (.goto 79, 3) := by decide +kernel
theorem own_d14_153 : decode prog_32_method_2_code 153 = .ok (.aload 5, 2) := by decide +kernel
theorem own_d14_155 : decode prog_32_method_2_code 155 = .ok (.ifnull 17, 3) := by decide +kernel
theorem own_d14_172 : decode prog_32_method_2_code 172 = .ok (.aload_n 2, 1) := by decide +kernel
theorem own_d14_173 : decode prog_32_method_2_code 173 = .ok (.new 8, 3) := by decide +kernel
theorem own_d14_176 : decode prog_32_method_2_code 176 = .ok (.dup, 1) := by decide +kernel
theorem own_d14_177 : decode prog_32_method_2_code 177 = .ok (.aload 6, 2) := by decide +kernel
theorem own_d14_179 : decode prog_32_method_2_code 179 = .ok (.invokevirtual 37, 3) := by decide +kernel
theorem own_d14_182 : decode prog_32_method_2_code 182 = .ok (.aconst_null, 1) := by decide +kernel
theorem own_d14_183 : decode prog_32_method_2_code 183 = .ok (.aload 6, 2) := by decide +kernel
theorem own_d14_185 : decode prog_32_method_2_code 185 = .ok (.invokespecial 40, 3) := by decide +kernel
theorem own_d14_188 : decode prog_32_method_2_code 188 = .ok (.invokeinterface 43 2, 5) := by decide +kernel
theorem own_d14_193 : decode prog_32_method_2_code 193 = .ok (.pop, 1) := by decide +kernel
theorem own_d14_194 : decode prog_32_method_2_code 194 = .ok (.iinc 4 1, 3) := by decide +kernel
theorem own_d14_197 : decode prog_32_method_2_code 197 = .ok (.goto 32, 3) := by decide +kernel
theorem own_d14_229 : decode prog_32_method_2_code 229 = .ok (.goto (-203), 3) := by decide +kernel
theorem own_d14_232 : decode prog_32_method_2_code 232 = .ok (.aload_n 2, 1) := by decide +kernel
theorem own_d14_233 : decode prog_32_method_2_code 233 = .ok (.areturn, 1) := by decide +kernel
def own_Q14lt (Z : State) (la : Addr) (ra : Addr) (ta : Addr) (ka : ClassId) (ea : Addr) (va : UInt64) (tb : Addr) (kb : ClassId) (eb : Addr) (vb : UInt64) (h0 : Heap) (n0 : Nat) (v : Option Value) (h : Heap) (L : List Loc) : Prop := ∃ (r : Addr), ∃ (t : Addr), ∃ (kt : ClassId), ∃ (j1 : Addr), ∃ (j2 : Addr), v = some (.ref r) ∧ Fr n0 L ∧ Keep h0 h [] ∧ h0.size ≤ r ∧ Exa Z h r "java/util/ArrayList" ∧ Fld Z h r "java/util/ArrayList" "size" "I" (.int (2 : Int32)) ∧ Fld Z h r "java/util/ArrayList" "elementData" "[Ljava/lang/Object;" (.ref t) ∧ Arv Z h t kt (.object "java/lang/Object") (2 : Int32) [(.ref j1), (.ref j2)] .null ∧ Exa Z h j1 "com/example/rowcast/rowcast/JoinValue" ∧ Fld Z h j1 "com/example/rowcast/rowcast/JoinValue" "left" "Lcom/example/rowcast/rowcast/Histogram$CountedEndpoint;" (.ref ea) ∧ Fld Z h j1 "com/example/rowcast/rowcast/JoinValue" "right" "Lcom/example/rowcast/rowcast/Histogram$CountedEndpoint;" .null ∧ Exa Z h j2 "com/example/rowcast/rowcast/JoinValue" ∧ Fld Z h j2 "com/example/rowcast/rowcast/JoinValue" "left" "Lcom/example/rowcast/rowcast/Histogram$CountedEndpoint;" .null ∧ Fld Z h j2 "com/example/rowcast/rowcast/JoinValue" "right" "Lcom/example/rowcast/rowcast/Histogram$CountedEndpoint;" (.ref eb)
set_option maxRecDepth 65536 in
set_option maxHeartbeats 40000000 in
theorem own_rm14lt (l : Launch) (Z : State) (a0 : Array Value) (hw : ∀ d ∈ tables_1, d.before a0 Z = true) (ws : List Jvm.Cond) (la : Addr) (ra : Addr) (ta : Addr) (ka : ClassId) (ea : Addr) (va : UInt64) (tb : Addr) (kb : ClassId) (eb : Addr) (vb : UInt64) (h0 : Heap) (n0 : Nat) (Z0 : n0 ≤ h0.size) (c0 : Exa Z h0 la "java/util/ArrayList") (c1 : Fld Z h0 la "java/util/ArrayList" "size" "I" (.int (1 : Int32))) (c2 : Fld Z h0 la "java/util/ArrayList" "elementData" "[Ljava/lang/Object;" (.ref ta)) (c3 : Arv Z h0 ta ka (.object "java/lang/Object") (10 : Int32) [(.ref ea), .null, .null, .null, .null, .null, .null, .null, .null, .null] .null) (c4 : Exa Z h0 ea "com/example/rowcast/rowcast/Histogram$CountedEndpoint") (c5 : Fld Z h0 ea "com/example/rowcast/rowcast/Histogram$CountedEndpoint" "value" "D" (.double va)) (c6 : Exa Z h0 ra "java/util/ArrayList") (c7 : Fld Z h0 ra "java/util/ArrayList" "size" "I" (.int (1 : Int32))) (c8 : Fld Z h0 ra "java/util/ArrayList" "elementData" "[Ljava/lang/Object;" (.ref tb)) (c9 : Arv Z h0 tb kb (.object "java/lang/Object") (10 : Int32) [(.ref eb), .null, .null, .null, .null, .null, .null, .null, .null, .null] .null) (c10 : Exa Z h0 eb "com/example/rowcast/rowcast/Histogram$CountedEndpoint") (c11 : Fld Z h0 eb "com/example/rowcast/rowcast/Histogram$CountedEndpoint" "value" "D" (.double vb)) (hlt : cmpValue (FP.dcmp va vb) .g < (0 : Int32)) :
    Con l Z (⟨"com/example/rowcast/rowcast/JoinValue", "joinHistogram", "(Ljava/util/List;Ljava/util/List;)Ljava/util/List;"⟩ : MethodName) prog_32_method_2_code 7 (some (.object "java/util/List")) ws ({ frames := 4, cells := 4, slots := 11, locals := 50 } : Room) #[(.ref la), (.ref ra)] h0 (own_Q14lt Z la ra ta ka ea va tb kb eb vb h0 n0) := by
  refine Con.start #[.val (.ref la), .val (.ref ra), .unset, .unset, .unset, .unset, .unset] (plainFor_of_name own_pn2) (fun m => by first | (refine own_ef ?_; exact rfl) | (simp [entryFrame, mkF, argsToLocals, Value.category]; done) | rfl) ?_
  intro p e s m below meth c s₁ P X0 hx hby hml hret hlk hown hnm hZ e0 hf
  have hml : c.maxLocals = 7 := hml
  have N0 := Fr.nil n0
  have K0 : Keep h0 h0 [] := Keep.refl _ _
  refine g_new (pc' := 3) X0 hx hby hZ hown (hw _ (List.mem_of_getElem? (i := 103) rfl)) (hw _ (List.mem_of_getElem? (i := 42) rfl)) (hw _ (List.mem_of_getElem? (i := 43) rfl)) e0 own_d14_0 rfl (by decide) (by decide) ?_
  intro T1 h1 jl X1 e1 E1 A1 D1 q1
  have ne2 : ea ≠ jl := by rw [q1]; exact Nat.ne_of_lt c4.lt
  have ne3 : eb ≠ jl := by rw [q1]; exact Nat.ne_of_lt c10.lt
  have ne4 : la ≠ jl := by rw [q1]; exact Nat.ne_of_lt c0.lt
  have ne5 : ra ≠ jl := by rw [q1]; exact Nat.ne_of_lt c6.lt
  have ne6 : ta ≠ jl := by rw [q1]; exact Nat.ne_of_lt c3.lt
  have ne7 : tb ≠ jl := by rw [q1]; exact Nat.ne_of_lt c9.lt
  have ge1 : n0 ≤ jl := by rw [q1]; exact Z0
  have kp1 : h0.size ≤ jl := by rw [q1]; exact K0.1
  have f8 := c0.ext E1
  have f9 := c1.ext E1
  have f10 := c2.ext E1
  have f11 := c3.ext E1
  have f12 := c4.ext E1
  have f13 := c5.ext E1
  have f14 := c6.ext E1
  have f15 := c7.ext E1
  have f16 := c8.ext E1
  have f17 := c9.ext E1
  have f18 := c10.ext E1
  have f19 := c11.ext E1
  have f20 : Fld Z h1 jl "java/util/AbstractList" "modCount" "I" (.int (0 : Int32)) := D1 (Or.inl (hw _ (List.mem_of_getElem? (i := 61) rfl))) (ty := .int) own_fd3
  have f21 : Fld Z h1 jl "java/util/ArrayList" "elementData" "[Ljava/lang/Object;" .null := D1 (Or.inl (hw _ (List.mem_of_getElem? (i := 64) rfl))) (ty := (.array (.object "java/lang/Object"))) own_fd4
  have f22 : Fld Z h1 jl "java/util/ArrayList" "size" "I" (.int (0 : Int32)) := D1 (Or.inl (hw _ (List.mem_of_getElem? (i := 77) rfl))) (ty := .int) own_fd3
  have z1 := Nat.le_trans Z0 E1.1
  have K1 := K0.ext E1
  refine g_dup (pc' := 4) X1 hx hby own_d14_3 rfl rfl rfl ?_
  refine g_aloadN (pc' := 5) X1 hx hby (v := (.ref la)) own_d14_4 rfl rfl rfl ?_
  refine g_face (argsL := []) (pc' := 10) X1 hx hby (by rw [hml]; rfl) hZ hown e1 (own_rm15 l Z a0 hw [] la (1 : Int32) h1 n0 z1 f9) (hw _ (List.mem_of_getElem? (i := 104) rfl)) (hw _ (List.mem_of_getElem? (i := 105) rfl)) (hw _ (List.mem_of_getElem? (i := 106) rfl)) rfl (hw _ (List.mem_of_getElem? (i := 107) rfl)) (hw _ (List.mem_of_getElem? (i := 108) rfl)) (hw _ (List.mem_of_getElem? (i := 109) rfl)) (hw _ (List.mem_of_getElem? (i := 110) rfl)) (hw _ (List.mem_of_getElem? (i := 72) rfl)) (hw _ (List.mem_of_getElem? (i := 43) rfl)) (hw _ (List.mem_of_getElem? (i := 111) rfl)) (by decide) f8 own_pd7 rfl rfl (W := 2) rfl (by decide) (by decide) (by decide) (by decide) own_d14_5 rfl ?_
  intro T23 v23 L23 X23 qq23
  obtain ⟨rfl, n23, e23⟩ := qq23
  have N23 := Fr.app N0 n23
  show Gf p e below P T23 m 10 #[.val (.ref la), .val (.ref ra), .unset, .unset, .unset, .unset, .unset] [(.int (1 : Int32)), (.ref jl), (.ref jl)]
  refine g_aloadN (pc' := 11) X23 hx hby (v := (.ref ra)) own_d14_10 rfl rfl rfl ?_
  refine g_face (argsL := []) (pc' := 16) X23 hx hby (by rw [hml]; rfl) hZ hown e23 (own_rm15 l Z a0 hw [] ra (1 : Int32) h1 n0 z1 f15) (hw _ (List.mem_of_getElem? (i := 104) rfl)) (hw _ (List.mem_of_getElem? (i := 105) rfl)) (hw _ (List.mem_of_getElem? (i := 106) rfl)) rfl (hw _ (List.mem_of_getElem? (i := 107) rfl)) (hw _ (List.mem_of_getElem? (i := 108) rfl)) (hw _ (List.mem_of_getElem? (i := 109) rfl)) (hw _ (List.mem_of_getElem? (i := 110) rfl)) (hw _ (List.mem_of_getElem? (i := 72) rfl)) (hw _ (List.mem_of_getElem? (i := 43) rfl)) (hw _ (List.mem_of_getElem? (i := 111) rfl)) (by decide) f14 own_pd7 rfl rfl (W := 3) rfl (by decide) (by decide) (by decide) (by decide) own_d14_11 rfl ?_
  intro T24 v24 L24 X24 qq24
  obtain ⟨rfl, n24, e24⟩ := qq24
  have N24 := Fr.app N23 n24
  show Gf p e below P T24 m 16 #[.val (.ref la), .val (.ref ra), .unset, .unset, .unset, .unset, .unset] [(.int (1 : Int32)), (.int (1 : Int32)), (.ref jl), (.ref jl)]
  refine g_iadd (pc' := 17) (v := (2 : Int32)) X24 hx hby own_d14_16 rfl rfl rfl ?_
  refine g_init (argsL := [(.int (2 : Int32))]) (pc' := 20) X24 hx hby (by rw [hml]; rfl) hZ hown rfl e24 (own_rm16_2 l Z a0 hw [] jl  h1 n0 z1 A1 f20 f21 f22 ge1) (hw _ (List.mem_of_getElem? (i := 112) rfl)) (hw _ (List.mem_of_getElem? (i := 113) rfl)) (hw _ (List.mem_of_getElem? (i := 43) rfl)) (hw _ (List.mem_of_getElem? (i := 114) rfl)) (by decide) own_pd8 rfl rfl (W := 1) rfl (by decide) (by decide) (by decide) (by decide) own_d14_17 rfl ?_
  intro T25 v25 L25 X25 qq25
  obtain ⟨h25, e25⟩ : ∃ h, T25.heap = h := ⟨_, rfl⟩
  rw [e25] at qq25
  obtain ⟨rt, kr, rfl, n25, k25, p25_0, p25_1, p25_2, p25_3, p25_4, p25_5, p25_6, p25_7⟩ := qq25
  have f26 := f8.keep k25
  have f27 := f9.keep k25 (ninS ne4 nin0)
  have f28 := f10.keep k25 (ninS ne4 nin0)
  have f29 := f11.keep k25 (ninS ne6 nin0)
  have f30 := f12.keep k25
  have f31 := f13.keep k25 (ninS ne2 nin0)
  have f32 := f14.keep k25
  have f33 := f15.keep k25 (ninS ne5 nin0)
  have f34 := f16.keep k25 (ninS ne5 nin0)
  have f35 := f17.keep k25 (ninS ne7 nin0)
  have f36 := f18.keep k25
  have f37 := f19.keep k25 (ninS ne3 nin0)
  have f38 := A1.keep k25
  have ge42 : n0 ≤ rt := Nat.le_trans z1 p25_4
  have ne43 : ea ≠ rt := Nat.ne_of_lt (Nat.lt_of_lt_of_le f12.lt p25_4)
  have ne44 : eb ≠ rt := Nat.ne_of_lt (Nat.lt_of_lt_of_le f18.lt p25_4)
  have ne45 : jl ≠ rt := Nat.ne_of_lt (Nat.lt_of_lt_of_le A1.lt p25_4)
  have ne46 : la ≠ rt := Nat.ne_of_lt (Nat.lt_of_lt_of_le f8.lt p25_4)
  have ne47 : ra ≠ rt := Nat.ne_of_lt (Nat.lt_of_lt_of_le f14.lt p25_4)
  have ne48 : ta ≠ rt := Nat.ne_of_lt (Nat.lt_of_lt_of_le f11.lt p25_4)
  have ne49 : tb ≠ rt := Nat.ne_of_lt (Nat.lt_of_lt_of_le f17.lt p25_4)
  have kp50 : h0.size ≤ rt := Nat.le_trans K1.1 p25_4
  have z25 := Nat.le_trans z1 k25.1
  have K25 := K1.trans k25 (allS (Or.inr kp1) all0)
  have N25 := Fr.app N24 n25
  show Gf p e below P T25 m 20 #[.val (.ref la), .val (.ref ra), .unset, .unset, .unset, .unset, .unset] [(.ref jl)]
  refine g_astoreN (pc' := 21) (Ls' := #[.val (.ref la), .val (.ref ra), .val (.ref jl), .unset, .unset, .unset, .unset]) X25 hx hby own_d14_20 rfl rfl rfl rfl ?_
  refine g_iconst (pc' := 22) (v := (0 : Int32)) X25 hx hby own_d14_21 rfl rfl ?_
  refine g_istoreN (pc' := 23) (Ls' := #[.val (.ref la), .val (.ref ra), .val (.ref jl), .val (.int (0 : Int32)), .unset, .unset, .unset]) X25 hx hby own_d14_22 rfl rfl rfl ?_
  refine g_iconst (pc' := 24) (v := (0 : Int32)) X25 hx hby own_d14_23 rfl rfl ?_
  refine g_istore (pc' := 26) (Ls' := #[.val (.ref la), .val (.ref ra), .val (.ref jl), .val (.int (0 : Int32)), .val (.int (0 : Int32)), .unset, .unset]) X25 hx hby own_d14_24 rfl rfl rfl ?_
  refine g_iloadN (pc' := 27) X25 hx hby (v := (0 : Int32)) own_d14_26 rfl rfl ?_
  refine g_aloadN (pc' := 28) X25 hx hby (v := (.ref la)) own_d14_27 rfl rfl rfl ?_
  refine g_face (argsL := []) (pc' := 33) X25 hx hby (by rw [hml]; rfl) hZ hown e25 (own_rm15 l Z a0 hw [] la (1 : Int32) h25 n0 z25 f27) (hw _ (List.mem_of_getElem? (i := 104) rfl)) (hw _ (List.mem_of_getElem? (i := 105) rfl)) (hw _ (List.mem_of_getElem? (i := 106) rfl)) rfl (hw _ (List.mem_of_getElem? (i := 107) rfl)) (hw _ (List.mem_of_getElem? (i := 108) rfl)) (hw _ (List.mem_of_getElem? (i := 109) rfl)) (hw _ (List.mem_of_getElem? (i := 110) rfl)) (hw _ (List.mem_of_getElem? (i := 72) rfl)) (hw _ (List.mem_of_getElem? (i := 43) rfl)) (hw _ (List.mem_of_getElem? (i := 111) rfl)) (by decide) f26 own_pd7 rfl rfl (W := 1) rfl (by decide) (by decide) (by decide) (by decide) own_d14_28 rfl ?_
  intro T51 v51 L51 X51 qq51
  obtain ⟨rfl, n51, e51⟩ := qq51
  have N51 := Fr.app N25 n51
  show Gf p e below P T51 m 33 #[.val (.ref la), .val (.ref ra), .val (.ref jl), .val (.int (0 : Int32)), .val (.int (0 : Int32)), .unset, .unset] [(.int (1 : Int32)), (.int (0 : Int32))]
  refine g_icY (pc' := 47) X51 hx hby own_d14_33 rfl (tlt (by decide : (0 : Int32) < (1 : Int32))).1 (by decide) (by decide) ?_
  refine g_iloadN (pc' := 48) X51 hx hby (v := (0 : Int32)) own_d14_47 rfl rfl ?_
  refine g_aloadN (pc' := 49) X51 hx hby (v := (.ref la)) own_d14_48 rfl rfl rfl ?_
  refine g_face (argsL := []) (pc' := 54) X51 hx hby (by rw [hml]; rfl) hZ hown e51 (own_rm15 l Z a0 hw [] la (1 : Int32) h25 n0 z25 f27) (hw _ (List.mem_of_getElem? (i := 104) rfl)) (hw _ (List.mem_of_getElem? (i := 105) rfl)) (hw _ (List.mem_of_getElem? (i := 106) rfl)) rfl (hw _ (List.mem_of_getElem? (i := 107) rfl)) (hw _ (List.mem_of_getElem? (i := 108) rfl)) (hw _ (List.mem_of_getElem? (i := 109) rfl)) (hw _ (List.mem_of_getElem? (i := 110) rfl)) (hw _ (List.mem_of_getElem? (i := 72) rfl)) (hw _ (List.mem_of_getElem? (i := 43) rfl)) (hw _ (List.mem_of_getElem? (i := 111) rfl)) (by decide) f26 own_pd7 rfl rfl (W := 1) rfl (by decide) (by decide) (by decide) (by decide) own_d14_49 rfl ?_
  intro T52 v52 L52 X52 qq52
  obtain ⟨rfl, n52, e52⟩ := qq52
  have N52 := Fr.app N51 n52
  show Gf p e below P T52 m 54 #[.val (.ref la), .val (.ref ra), .val (.ref jl), .val (.int (0 : Int32)), .val (.int (0 : Int32)), .unset, .unset] [(.int (1 : Int32)), (.int (0 : Int32))]
  refine g_icN (pc' := 57) X52 hx hby own_d14_54 rfl (tlt (by decide : (0 : Int32) < (1 : Int32))).2.1 rfl ?_
  refine g_aloadN (pc' := 58) X52 hx hby (v := (.ref la)) own_d14_57 rfl rfl rfl ?_
  refine g_iloadN (pc' := 59) X52 hx hby (v := (0 : Int32)) own_d14_58 rfl rfl ?_
  refine g_face (argsL := [(.int (0 : Int32))]) (pc' := 64) X52 hx hby (by rw [hml]; rfl) hZ hown e52 (own_rm17A l Z a0 hw [] la ta ka ea h25 n0 z25 f28 f29 f26 f27) (hw _ (List.mem_of_getElem? (i := 115) rfl)) (hw _ (List.mem_of_getElem? (i := 116) rfl)) (hw _ (List.mem_of_getElem? (i := 117) rfl)) rfl (hw _ (List.mem_of_getElem? (i := 118) rfl)) (hw _ (List.mem_of_getElem? (i := 119) rfl)) (hw _ (List.mem_of_getElem? (i := 120) rfl)) (hw _ (List.mem_of_getElem? (i := 121) rfl)) (hw _ (List.mem_of_getElem? (i := 72) rfl)) (hw _ (List.mem_of_getElem? (i := 43) rfl)) (hw _ (List.mem_of_getElem? (i := 122) rfl)) (by decide) f26 own_pd6 rfl rfl (W := 0) rfl (by decide) (by decide) (by decide) (by decide) own_d14_59 rfl ?_
  intro T53 v53 L53 X53 qq53
  obtain ⟨rfl, n53, e53⟩ := qq53
  have N53 := Fr.app N52 n53
  show Gf p e below P T53 m 64 #[.val (.ref la), .val (.ref ra), .val (.ref jl), .val (.int (0 : Int32)), .val (.int (0 : Int32)), .unset, .unset] [(.ref ea)]
  refine g_cast (pc' := 67) X53 hx hby hZ hown (hw _ (List.mem_of_getElem? (i := 136) rfl)) e53 (Ins.of_exa f30 (hw _ (List.mem_of_getElem? (i := 137) rfl))) rfl own_d14_64 rfl ?_
  intro T54 X54 e54
  refine g_goto (pc' := 71) X54 hx hby own_d14_67 (by decide) (by decide) ?_
  refine g_astore (pc' := 73) (Ls' := #[.val (.ref la), .val (.ref ra), .val (.ref jl), .val (.int (0 : Int32)), .val (.int (0 : Int32)), .val (.ref ea), .unset]) X54 hx hby own_d14_71 rfl rfl rfl rfl ?_
  refine g_iload (pc' := 75) X54 hx hby (v := (0 : Int32)) own_d14_73 rfl rfl ?_
  refine g_aloadN (pc' := 76) X54 hx hby (v := (.ref ra)) own_d14_75 rfl rfl rfl ?_
  refine g_face (argsL := []) (pc' := 81) X54 hx hby (by rw [hml]; rfl) hZ hown e54 (own_rm15 l Z a0 hw [] ra (1 : Int32) h25 n0 z25 f33) (hw _ (List.mem_of_getElem? (i := 104) rfl)) (hw _ (List.mem_of_getElem? (i := 105) rfl)) (hw _ (List.mem_of_getElem? (i := 106) rfl)) rfl (hw _ (List.mem_of_getElem? (i := 107) rfl)) (hw _ (List.mem_of_getElem? (i := 108) rfl)) (hw _ (List.mem_of_getElem? (i := 109) rfl)) (hw _ (List.mem_of_getElem? (i := 110) rfl)) (hw _ (List.mem_of_getElem? (i := 72) rfl)) (hw _ (List.mem_of_getElem? (i := 43) rfl)) (hw _ (List.mem_of_getElem? (i := 111) rfl)) (by decide) f32 own_pd7 rfl rfl (W := 1) rfl (by decide) (by decide) (by decide) (by decide) own_d14_76 rfl ?_
  intro T55 v55 L55 X55 qq55
  obtain ⟨rfl, n55, e55⟩ := qq55
  have N55 := Fr.app N53 n55
  show Gf p e below P T55 m 81 #[.val (.ref la), .val (.ref ra), .val (.ref jl), .val (.int (0 : Int32)), .val (.int (0 : Int32)), .val (.ref ea), .unset] [(.int (1 : Int32)), (.int (0 : Int32))]
  refine g_icN (pc' := 84) X55 hx hby own_d14_81 rfl (tlt (by decide : (0 : Int32) < (1 : Int32))).2.1 rfl ?_
  refine g_aloadN (pc' := 85) X55 hx hby (v := (.ref ra)) own_d14_84 rfl rfl rfl ?_
  refine g_iload (pc' := 87) X55 hx hby (v := (0 : Int32)) own_d14_85 rfl rfl ?_
  refine g_face (argsL := [(.int (0 : Int32))]) (pc' := 92) X55 hx hby (by rw [hml]; rfl) hZ hown e55 (own_rm17A l Z a0 hw [] ra tb kb eb h25 n0 z25 f34 f35 f32 f33) (hw _ (List.mem_of_getElem? (i := 115) rfl)) (hw _ (List.mem_of_getElem? (i := 116) rfl)) (hw _ (List.mem_of_getElem? (i := 117) rfl)) rfl (hw _ (List.mem_of_getElem? (i := 118) rfl)) (hw _ (List.mem_of_getElem? (i := 119) rfl)) (hw _ (List.mem_of_getElem? (i := 120) rfl)) (hw _ (List.mem_of_getElem? (i := 121) rfl)) (hw _ (List.mem_of_getElem? (i := 72) rfl)) (hw _ (List.mem_of_getElem? (i := 43) rfl)) (hw _ (List.mem_of_getElem? (i := 122) rfl)) (by decide) f32 own_pd6 rfl rfl (W := 0) rfl (by decide) (by decide) (by decide) (by decide) own_d14_87 rfl ?_
  intro T56 v56 L56 X56 qq56
  obtain ⟨rfl, n56, e56⟩ := qq56
  have N56 := Fr.app N55 n56
  show Gf p e below P T56 m 92 #[.val (.ref la), .val (.ref ra), .val (.ref jl), .val (.int (0 : Int32)), .val (.int (0 : Int32)), .val (.ref ea), .unset] [(.ref eb)]
  refine g_cast (pc' := 95) X56 hx hby hZ hown (hw _ (List.mem_of_getElem? (i := 136) rfl)) e56 (Ins.of_exa f36 (hw _ (List.mem_of_getElem? (i := 137) rfl))) rfl own_d14_92 rfl ?_
  intro T57 X57 e57
  refine g_goto (pc' := 99) X57 hx hby own_d14_95 (by decide) (by decide) ?_
  refine g_astore (pc' := 101) (Ls' := #[.val (.ref la), .val (.ref ra), .val (.ref jl), .val (.int (0 : Int32)), .val (.int (0 : Int32)), .val (.ref ea), .val (.ref eb)]) X57 hx hby own_d14_99 rfl rfl rfl rfl ?_
  refine g_aload (pc' := 103) X57 hx hby (v := (.ref eb)) own_d14_101 rfl rfl rfl ?_
  refine g_nullN (pc' := 106) X57 hx hby own_d14_103 rfl rfl ?_
  refine g_aload (pc' := 108) X57 hx hby (v := (.ref ea)) own_d14_106 rfl rfl rfl ?_
  refine g_nullN (pc' := 111) X57 hx hby own_d14_108 rfl rfl ?_
  refine g_aload (pc' := 113) X57 hx hby (v := (.ref ea)) own_d14_111 rfl rfl rfl ?_
  refine g_virt (argsL := []) (pc' := 116) X57 hx hby (by rw [hml]; rfl) hZ hown e57 (own_rm21 l Z a0 hw [] ea va h25 n0 z25 f31) (hw _ (List.mem_of_getElem? (i := 138) rfl)) (hw _ (List.mem_of_getElem? (i := 139) rfl)) (hw _ (List.mem_of_getElem? (i := 141) rfl)) (hw _ (List.mem_of_getElem? (i := 140) rfl)) (hw _ (List.mem_of_getElem? (i := 2) rfl)) (hw _ (List.mem_of_getElem? (i := 142) rfl)) (by decide) f30 own_pd9 rfl rfl (W := 0) rfl (by decide) (by decide) (by decide) (by decide) own_d14_113 rfl ?_
  intro T58 v58 L58 X58 qq58
  obtain ⟨rfl, n58, e58⟩ := qq58
  have N58 := Fr.app N56 n58
  show Gf p e below P T58 m 116 #[.val (.ref la), .val (.ref ra), .val (.ref jl), .val (.int (0 : Int32)), .val (.int (0 : Int32)), .val (.ref ea), .val (.ref eb)] [(.double va)]
  refine g_aload (pc' := 118) X58 hx hby (v := (.ref eb)) own_d14_116 rfl rfl rfl ?_
  refine g_virt (argsL := []) (pc' := 121) X58 hx hby (by rw [hml]; rfl) hZ hown e58 (own_rm21 l Z a0 hw [] eb vb h25 n0 z25 f37) (hw _ (List.mem_of_getElem? (i := 138) rfl)) (hw _ (List.mem_of_getElem? (i := 139) rfl)) (hw _ (List.mem_of_getElem? (i := 141) rfl)) (hw _ (List.mem_of_getElem? (i := 140) rfl)) (hw _ (List.mem_of_getElem? (i := 2) rfl)) (hw _ (List.mem_of_getElem? (i := 142) rfl)) (by decide) f36 own_pd9 rfl rfl (W := 2) rfl (by decide) (by decide) (by decide) (by decide) own_d14_118 rfl ?_
  intro T59 v59 L59 X59 qq59
  obtain ⟨rfl, n59, e59⟩ := qq59
  have N59 := Fr.app N58 n59
  show Gf p e below P T59 m 121 #[.val (.ref la), .val (.ref ra), .val (.ref jl), .val (.int (0 : Int32)), .val (.int (0 : Int32)), .val (.ref ea), .val (.ref eb)] [(.double vb), (.double va)]
  refine g_dcmp (pc' := 122) (v := (cmpValue (FP.dcmp va vb) .g)) X59 hx hby own_d14_121 rfl rfl rfl ?_
  refine g_ifN (pc' := 125) X59 hx hby own_d14_122 rfl (tlt (hlt : (cmpValue (FP.dcmp va vb) .g) < (0 : Int32))).2.1 rfl ?_
  refine g_aloadN (pc' := 126) X59 hx hby (v := (.ref jl)) own_d14_125 rfl rfl rfl ?_
  refine g_new (pc' := 129) X59 hx hby hZ hown (hw _ (List.mem_of_getElem? (i := 143) rfl)) (hw _ (List.mem_of_getElem? (i := 24) rfl)) (hw _ (List.mem_of_getElem? (i := 25) rfl)) e59 own_d14_126 rfl (by decide) (by decide) ?_
  intro T60 h60 jv X60 e60 E60 A60 D60 q60
  have ne61 : ea ≠ jv := by rw [q60]; exact Nat.ne_of_lt f30.lt
  have ne62 : eb ≠ jv := by rw [q60]; exact Nat.ne_of_lt f36.lt
  have ne63 : jl ≠ jv := by rw [q60]; exact Nat.ne_of_lt p25_0.lt
  have ne64 : la ≠ jv := by rw [q60]; exact Nat.ne_of_lt f26.lt
  have ne65 : ra ≠ jv := by rw [q60]; exact Nat.ne_of_lt f32.lt
  have ne66 : rt ≠ jv := by rw [q60]; exact Nat.ne_of_lt p25_5.lt
  have ne67 : ta ≠ jv := by rw [q60]; exact Nat.ne_of_lt f29.lt
  have ne68 : tb ≠ jv := by rw [q60]; exact Nat.ne_of_lt f35.lt
  have ge60 : n0 ≤ jv := by rw [q60]; exact z25
  have kp60 : h0.size ≤ jv := by rw [q60]; exact K25.1
  have f69 := f26.ext E60
  have f70 := f27.ext E60
  have f71 := f28.ext E60
  have f72 := f29.ext E60
  have f73 := f30.ext E60
  have f74 := f31.ext E60
  have f75 := f32.ext E60
  have f76 := f33.ext E60
  have f77 := f34.ext E60
  have f78 := f35.ext E60
  have f79 := f36.ext E60
  have f80 := f37.ext E60
  have f81 := p25_0.ext E60
  have f82 := p25_1.ext E60
  have f83 := p25_2.ext E60
  have f84 := p25_3.ext E60
  have f85 := p25_5.ext E60
  have f86 := p25_6.ext E60
  have f87 : Fld Z h60 jv "com/example/rowcast/rowcast/JoinValue" "value" "D" (.double (0 : UInt64)) := D60 (Or.inr (hw _ (List.mem_of_getElem? (i := 31) rfl))) (ty := .double) own_fd0
  have f88 : Fld Z h60 jv "com/example/rowcast/rowcast/JoinValue" "left" "Lcom/example/rowcast/rowcast/Histogram$CountedEndpoint;" .null := D60 (Or.inr (hw _ (List.mem_of_getElem? (i := 33) rfl))) (ty := (.object "com/example/rowcast/rowcast/Histogram$CountedEndpoint")) own_fd2
  have f89 : Fld Z h60 jv "com/example/rowcast/rowcast/JoinValue" "right" "Lcom/example/rowcast/rowcast/Histogram$CountedEndpoint;" .null := D60 (Or.inr (hw _ (List.mem_of_getElem? (i := 35) rfl))) (ty := (.object "com/example/rowcast/rowcast/Histogram$CountedEndpoint")) own_fd2
  have z60 := Nat.le_trans z25 E60.1
  have K60 := K25.ext E60
  refine g_dup (pc' := 130) X60 hx hby own_d14_129 rfl rfl rfl ?_
  refine g_aload (pc' := 132) X60 hx hby (v := (.ref ea)) own_d14_130 rfl rfl rfl ?_
  refine g_virt (argsL := []) (pc' := 135) X60 hx hby (by rw [hml]; rfl) hZ hown e60 (own_rm21 l Z a0 hw [] ea va h60 n0 z60 f74) (hw _ (List.mem_of_getElem? (i := 138) rfl)) (hw _ (List.mem_of_getElem? (i := 139) rfl)) (hw _ (List.mem_of_getElem? (i := 141) rfl)) (hw _ (List.mem_of_getElem? (i := 140) rfl)) (hw _ (List.mem_of_getElem? (i := 2) rfl)) (hw _ (List.mem_of_getElem? (i := 142) rfl)) (by decide) f73 own_pd9 rfl rfl (W := 3) rfl (by decide) (by decide) (by decide) (by decide) own_d14_132 rfl ?_
  intro T90 v90 L90 X90 qq90
  obtain ⟨rfl, n90, e90⟩ := qq90
  have N90 := Fr.app N59 n90
  show Gf p e below P T90 m 135 #[.val (.ref la), .val (.ref ra), .val (.ref jl), .val (.int (0 : Int32)), .val (.int (0 : Int32)), .val (.ref ea), .val (.ref eb)] [(.double va), (.ref jv), (.ref jv), (.ref jl)]
  refine g_aload (pc' := 137) X90 hx hby (v := (.ref ea)) own_d14_135 rfl rfl rfl ?_
  refine g_aconst_null (pc' := 138) X90 hx hby own_d14_137 rfl ?_
  refine g_init (argsL := [(.double va), (.ref ea), .null]) (pc' := 141) X90 hx hby (by rw [hml]; rfl) hZ hown rfl e90 (own_rm4ln l Z a0 hw [] jv va ea  h60 n0 z60 A60 f87 f88 f89 ge60) (hw _ (List.mem_of_getElem? (i := 144) rfl)) (hw _ (List.mem_of_getElem? (i := 27) rfl)) (hw _ (List.mem_of_getElem? (i := 25) rfl)) (hw _ (List.mem_of_getElem? (i := 28) rfl)) (by decide) own_pd10 rfl rfl (W := 2) rfl (by decide) (by decide) (by decide) (by decide) own_d14_138 rfl ?_
  intro T91 v91 L91 X91 qq91
  obtain ⟨h91, e91⟩ : ∃ h, T91.heap = h := ⟨_, rfl⟩
  rw [e91] at qq91
  obtain ⟨rfl, n91, k91, p91_0, p91_1, p91_2⟩ := qq91
  have f92 := f69.keep k91
  have f93 := f70.keep k91 (ninS ne64 nin0)
  have f94 := f71.keep k91 (ninS ne64 nin0)
  have f95 := f72.keep k91 (ninS ne67 nin0)
  have f96 := f73.keep k91
  have f97 := f74.keep k91 (ninS ne61 nin0)
  have f98 := f75.keep k91
  have f99 := f76.keep k91 (ninS ne65 nin0)
  have f100 := f77.keep k91 (ninS ne65 nin0)
  have f101 := f78.keep k91 (ninS ne68 nin0)
  have f102 := f79.keep k91
  have f103 := f80.keep k91 (ninS ne62 nin0)
  have f104 := f81.keep k91
  have f105 := f82.keep k91 (ninS ne63 nin0)
  have f106 := f83.keep k91 (ninS ne63 nin0)
  have f107 := f84.keep k91 (ninS ne63 nin0)
  have f108 := f85.keep k91
  have f109 := f86.keep k91 (ninS ne66 nin0)
  have f110 := A60.keep k91
  have z91 := Nat.le_trans z60 k91.1
  have K91 := K60.trans k91 (allS (Or.inr kp60) all0)
  have N91 := Fr.app N90 n91
  show Gf p e below P T91 m 141 #[.val (.ref la), .val (.ref ra), .val (.ref jl), .val (.int (0 : Int32)), .val (.int (0 : Int32)), .val (.ref ea), .val (.ref eb)] [(.ref jv), (.ref jl)]
  refine g_face (argsL := [(.ref jv)]) (pc' := 146) X91 hx hby (by rw [hml]; rfl) hZ hown e91 (own_rm9_0 l Z a0 hw [] jl jv rt kr (0 : Int32) h91 n0 z91 f104 f105 f106 f107 ge1 f109 ge42 f108 p25_7 (Ne.symm ne45) p91_0) (hw _ (List.mem_of_getElem? (i := 145) rfl)) (hw _ (List.mem_of_getElem? (i := 66) rfl)) (hw _ (List.mem_of_getElem? (i := 67) rfl)) rfl (hw _ (List.mem_of_getElem? (i := 68) rfl)) (hw _ (List.mem_of_getElem? (i := 69) rfl)) (hw _ (List.mem_of_getElem? (i := 70) rfl)) (hw _ (List.mem_of_getElem? (i := 71) rfl)) (hw _ (List.mem_of_getElem? (i := 72) rfl)) (hw _ (List.mem_of_getElem? (i := 43) rfl)) (hw _ (List.mem_of_getElem? (i := 73) rfl)) (by decide) f104 own_pd11 rfl rfl (W := 0) rfl (by decide) (by decide) (by decide) (by decide) own_d14_141 rfl ?_
  intro T114 v114 L114 X114 qq114
  obtain ⟨h114, e114⟩ : ∃ h, T114.heap = h := ⟨_, rfl⟩
  rw [e114] at qq114
  obtain ⟨rfl, n114, k114, p114_0, p114_1, p114_2, p114_3, p114_4⟩ := qq114
  have f115 := f92.keep k114
  have f116 := f93.keep k114 (ninS ne4 (ninS ne46 nin0))
  have f117 := f94.keep k114 (ninS ne4 (ninS ne46 nin0))
  have f118 := f95.keep k114 (ninS ne6 (ninS ne48 nin0))
  have f119 := f96.keep k114
  have f120 := f97.keep k114 (ninS ne2 (ninS ne43 nin0))
  have f121 := f98.keep k114
  have f122 := f99.keep k114 (ninS ne5 (ninS ne47 nin0))
  have f123 := f100.keep k114 (ninS ne5 (ninS ne47 nin0))
  have f124 := f101.keep k114 (ninS ne7 (ninS ne49 nin0))
  have f125 := f102.keep k114
  have f126 := f103.keep k114 (ninS ne3 (ninS ne44 nin0))
  have f127 := f104.keep k114
  have f131 := f108.keep k114
  have f133 := p91_0.keep k114
  have f134 := p91_1.keep k114 (ninS (Ne.symm ne63) (ninS (Ne.symm ne66) nin0))
  have f135 := p91_2.keep k114 (ninS (Ne.symm ne63) (ninS (Ne.symm ne66) nin0))
  have z114 := Nat.le_trans z91 k114.1
  have K114 := K91.trans k114 (allS (Or.inr kp1) (allS (Or.inr kp50) all0))
  have N114 := Fr.app N91 n114
  show Gf p e below P T114 m 146 #[.val (.ref la), .val (.ref ra), .val (.ref jl), .val (.int (0 : Int32)), .val (.int (0 : Int32)), .val (.ref ea), .val (.ref eb)] [(.int (1 : Int32))]
  refine g_pop (pc' := 147) X114 hx hby own_d14_146 rfl rfl rfl ?_
  refine g_iinc (pc' := 150) (Ls' := #[.val (.ref la), .val (.ref ra), .val (.ref jl), .val (.int (1 : Int32)), .val (.int (0 : Int32)), .val (.ref ea), .val (.ref eb)]) X114 hx hby own_d14_147 rfl rfl rfl ?_
  refine g_goto (pc' := 229) X114 hx hby own_d14_150 (by decide) (by decide) ?_
  refine g_goto (pc' := 26) X114 hx hby own_d14_229 (by decide) (by decide) ?_
  refine g_iloadN (pc' := 27) X114 hx hby (v := (1 : Int32)) own_d14_26 rfl rfl ?_
  refine g_aloadN (pc' := 28) X114 hx hby (v := (.ref la)) own_d14_27 rfl rfl rfl ?_
  refine g_face (argsL := []) (pc' := 33) X114 hx hby (by rw [hml]; rfl) hZ hown e114 (own_rm15 l Z a0 hw [] la (1 : Int32) h114 n0 z114 f116) (hw _ (List.mem_of_getElem? (i := 104) rfl)) (hw _ (List.mem_of_getElem? (i := 105) rfl)) (hw _ (List.mem_of_getElem? (i := 106) rfl)) rfl (hw _ (List.mem_of_getElem? (i := 107) rfl)) (hw _ (List.mem_of_getElem? (i := 108) rfl)) (hw _ (List.mem_of_getElem? (i := 109) rfl)) (hw _ (List.mem_of_getElem? (i := 110) rfl)) (hw _ (List.mem_of_getElem? (i := 72) rfl)) (hw _ (List.mem_of_getElem? (i := 43) rfl)) (hw _ (List.mem_of_getElem? (i := 111) rfl)) (by decide) f115 own_pd7 rfl rfl (W := 1) rfl (by decide) (by decide) (by decide) (by decide) own_d14_28 rfl ?_
  intro T136 v136 L136 X136 qq136
  obtain ⟨rfl, n136, e136⟩ := qq136
  have N136 := Fr.app N114 n136
  show Gf p e below P T136 m 33 #[.val (.ref la), .val (.ref ra), .val (.ref jl), .val (.int (1 : Int32)), .val (.int (0 : Int32)), .val (.ref ea), .val (.ref eb)] [(.int (1 : Int32)), (.int (1 : Int32))]
  refine g_icN (pc' := 36) X136 hx hby own_d14_33 rfl (flt (by decide : ¬ ((1 : Int32) < (1 : Int32)))).1 rfl ?_
  refine g_iload (pc' := 38) X136 hx hby (v := (0 : Int32)) own_d14_36 rfl rfl ?_
  refine g_aloadN (pc' := 39) X136 hx hby (v := (.ref ra)) own_d14_38 rfl rfl rfl ?_
  refine g_face (argsL := []) (pc' := 44) X136 hx hby (by rw [hml]; rfl) hZ hown e136 (own_rm15 l Z a0 hw [] ra (1 : Int32) h114 n0 z114 f122) (hw _ (List.mem_of_getElem? (i := 104) rfl)) (hw _ (List.mem_of_getElem? (i := 105) rfl)) (hw _ (List.mem_of_getElem? (i := 106) rfl)) rfl (hw _ (List.mem_of_getElem? (i := 107) rfl)) (hw _ (List.mem_of_getElem? (i := 108) rfl)) (hw _ (List.mem_of_getElem? (i := 109) rfl)) (hw _ (List.mem_of_getElem? (i := 110) rfl)) (hw _ (List.mem_of_getElem? (i := 72) rfl)) (hw _ (List.mem_of_getElem? (i := 43) rfl)) (hw _ (List.mem_of_getElem? (i := 111) rfl)) (by decide) f121 own_pd7 rfl rfl (W := 1) rfl (by decide) (by decide) (by decide) (by decide) own_d14_39 rfl ?_
  intro T137 v137 L137 X137 qq137
  obtain ⟨rfl, n137, e137⟩ := qq137
  have N137 := Fr.app N136 n137
  show Gf p e below P T137 m 44 #[.val (.ref la), .val (.ref ra), .val (.ref jl), .val (.int (1 : Int32)), .val (.int (0 : Int32)), .val (.ref ea), .val (.ref eb)] [(.int (1 : Int32)), (.int (0 : Int32))]
  refine g_icN (pc' := 47) X137 hx hby own_d14_44 rfl (tlt (by decide : (0 : Int32) < (1 : Int32))).2.1 rfl ?_
  refine g_iloadN (pc' := 48) X137 hx hby (v := (1 : Int32)) own_d14_47 rfl rfl ?_
  refine g_aloadN (pc' := 49) X137 hx hby (v := (.ref la)) own_d14_48 rfl rfl rfl ?_
  refine g_face (argsL := []) (pc' := 54) X137 hx hby (by rw [hml]; rfl) hZ hown e137 (own_rm15 l Z a0 hw [] la (1 : Int32) h114 n0 z114 f116) (hw _ (List.mem_of_getElem? (i := 104) rfl)) (hw _ (List.mem_of_getElem? (i := 105) rfl)) (hw _ (List.mem_of_getElem? (i := 106) rfl)) rfl (hw _ (List.mem_of_getElem? (i := 107) rfl)) (hw _ (List.mem_of_getElem? (i := 108) rfl)) (hw _ (List.mem_of_getElem? (i := 109) rfl)) (hw _ (List.mem_of_getElem? (i := 110) rfl)) (hw _ (List.mem_of_getElem? (i := 72) rfl)) (hw _ (List.mem_of_getElem? (i := 43) rfl)) (hw _ (List.mem_of_getElem? (i := 111) rfl)) (by decide) f115 own_pd7 rfl rfl (W := 1) rfl (by decide) (by decide) (by decide) (by decide) own_d14_49 rfl ?_
  intro T138 v138 L138 X138 qq138
  obtain ⟨rfl, n138, e138⟩ := qq138
  have N138 := Fr.app N137 n138
  show Gf p e below P T138 m 54 #[.val (.ref la), .val (.ref ra), .val (.ref jl), .val (.int (1 : Int32)), .val (.int (0 : Int32)), .val (.ref ea), .val (.ref eb)] [(.int (1 : Int32)), (.int (1 : Int32))]
  refine g_icY (pc' := 70) X138 hx hby own_d14_54 rfl (flt (by decide : ¬ ((1 : Int32) < (1 : Int32)))).2.1 (by decide) (by decide) ?_
  refine g_aconst_null (pc' := 71) X138 hx hby own_d14_70 rfl ?_
  refine g_astore (pc' := 73) (Ls' := #[.val (.ref la), .val (.ref ra), .val (.ref jl), .val (.int (1 : Int32)), .val (.int (0 : Int32)), .val .null, .val (.ref eb)]) X138 hx hby own_d14_71 rfl rfl rfl rfl ?_
  refine g_iload (pc' := 75) X138 hx hby (v := (0 : Int32)) own_d14_73 rfl rfl ?_
  refine g_aloadN (pc' := 76) X138 hx hby (v := (.ref ra)) own_d14_75 rfl rfl rfl ?_
  refine g_face (argsL := []) (pc' := 81) X138 hx hby (by rw [hml]; rfl) hZ hown e138 (own_rm15 l Z a0 hw [] ra (1 : Int32) h114 n0 z114 f122) (hw _ (List.mem_of_getElem? (i := 104) rfl)) (hw _ (List.mem_of_getElem? (i := 105) rfl)) (hw _ (List.mem_of_getElem? (i := 106) rfl)) rfl (hw _ (List.mem_of_getElem? (i := 107) rfl)) (hw _ (List.mem_of_getElem? (i := 108) rfl)) (hw _ (List.mem_of_getElem? (i := 109) rfl)) (hw _ (List.mem_of_getElem? (i := 110) rfl)) (hw _ (List.mem_of_getElem? (i := 72) rfl)) (hw _ (List.mem_of_getElem? (i := 43) rfl)) (hw _ (List.mem_of_getElem? (i := 111) rfl)) (by decide) f121 own_pd7 rfl rfl (W := 1) rfl (by decide) (by decide) (by decide) (by decide) own_d14_76 rfl ?_
  intro T139 v139 L139 X139 qq139
  obtain ⟨rfl, n139, e139⟩ := qq139
  have N139 := Fr.app N138 n139
  show Gf p e below P T139 m 81 #[.val (.ref la), .val (.ref ra), .val (.ref jl), .val (.int (1 : Int32)), .val (.int (0 : Int32)), .val .null, .val (.ref eb)] [(.int (1 : Int32)), (.int (0 : Int32))]
  refine g_icN (pc' := 84) X139 hx hby own_d14_81 rfl (tlt (by decide : (0 : Int32) < (1 : Int32))).2.1 rfl ?_
  refine g_aloadN (pc' := 85) X139 hx hby (v := (.ref ra)) own_d14_84 rfl rfl rfl ?_
  refine g_iload (pc' := 87) X139 hx hby (v := (0 : Int32)) own_d14_85 rfl rfl ?_
  refine g_face (argsL := [(.int (0 : Int32))]) (pc' := 92) X139 hx hby (by rw [hml]; rfl) hZ hown e139 (own_rm17A l Z a0 hw [] ra tb kb eb h114 n0 z114 f123 f124 f121 f122) (hw _ (List.mem_of_getElem? (i := 115) rfl)) (hw _ (List.mem_of_getElem? (i := 116) rfl)) (hw _ (List.mem_of_getElem? (i := 117) rfl)) rfl (hw _ (List.mem_of_getElem? (i := 118) rfl)) (hw _ (List.mem_of_getElem? (i := 119) rfl)) (hw _ (List.mem_of_getElem? (i := 120) rfl)) (hw _ (List.mem_of_getElem? (i := 121) rfl)) (hw _ (List.mem_of_getElem? (i := 72) rfl)) (hw _ (List.mem_of_getElem? (i := 43) rfl)) (hw _ (List.mem_of_getElem? (i := 122) rfl)) (by decide) f121 own_pd6 rfl rfl (W := 0) rfl (by decide) (by decide) (by decide) (by decide) own_d14_87 rfl ?_
  intro T140 v140 L140 X140 qq140
  obtain ⟨rfl, n140, e140⟩ := qq140
  have N140 := Fr.app N139 n140
  show Gf p e below P T140 m 92 #[.val (.ref la), .val (.ref ra), .val (.ref jl), .val (.int (1 : Int32)), .val (.int (0 : Int32)), .val .null, .val (.ref eb)] [(.ref eb)]
  refine g_cast (pc' := 95) X140 hx hby hZ hown (hw _ (List.mem_of_getElem? (i := 136) rfl)) e140 (Ins.of_exa f125 (hw _ (List.mem_of_getElem? (i := 137) rfl))) rfl own_d14_92 rfl ?_
  intro T141 X141 e141
  refine g_goto (pc' := 99) X141 hx hby own_d14_95 (by decide) (by decide) ?_
  refine g_astore (pc' := 101) (Ls' := #[.val (.ref la), .val (.ref ra), .val (.ref jl), .val (.int (1 : Int32)), .val (.int (0 : Int32)), .val .null, .val (.ref eb)]) X141 hx hby own_d14_99 rfl rfl rfl rfl ?_
  refine g_aload (pc' := 103) X141 hx hby (v := (.ref eb)) own_d14_101 rfl rfl rfl ?_
  refine g_nullN (pc' := 106) X141 hx hby own_d14_103 rfl rfl ?_
  refine g_aload (pc' := 108) X141 hx hby (v := .null) own_d14_106 rfl rfl rfl ?_
  refine g_nullY (pc' := 153) X141 hx hby own_d14_108 rfl (by decide) (by decide) ?_
  refine g_aload (pc' := 155) X141 hx hby (v := .null) own_d14_153 rfl rfl rfl ?_
  refine g_nullY (pc' := 172) X141 hx hby own_d14_155 rfl (by decide) (by decide) ?_
  refine g_aloadN (pc' := 173) X141 hx hby (v := (.ref jl)) own_d14_172 rfl rfl rfl ?_
  refine g_new (pc' := 176) X141 hx hby hZ hown (hw _ (List.mem_of_getElem? (i := 143) rfl)) (hw _ (List.mem_of_getElem? (i := 24) rfl)) (hw _ (List.mem_of_getElem? (i := 25) rfl)) e141 own_d14_173 rfl (by decide) (by decide) ?_
  intro T142 h142 jw X142 e142 E142 A142 D142 q142
  have ne143 : ea ≠ jw := by rw [q142]; exact Nat.ne_of_lt f119.lt
  have ne144 : eb ≠ jw := by rw [q142]; exact Nat.ne_of_lt f125.lt
  have ne145 : jl ≠ jw := by rw [q142]; exact Nat.ne_of_lt p114_0.lt
  have ne146 : jv ≠ jw := by rw [q142]; exact Nat.ne_of_lt f133.lt
  have ne147 : la ≠ jw := by rw [q142]; exact Nat.ne_of_lt f115.lt
  have ne148 : ra ≠ jw := by rw [q142]; exact Nat.ne_of_lt f121.lt
  have ne149 : rt ≠ jw := by rw [q142]; exact Nat.ne_of_lt f131.lt
  have ne150 : ta ≠ jw := by rw [q142]; exact Nat.ne_of_lt f118.lt
  have ne151 : tb ≠ jw := by rw [q142]; exact Nat.ne_of_lt f124.lt
  have ge142 : n0 ≤ jw := by rw [q142]; exact z114
  have kp142 : h0.size ≤ jw := by rw [q142]; exact K114.1
  have f152 := f115.ext E142
  have f153 := f116.ext E142
  have f154 := f117.ext E142
  have f155 := f118.ext E142
  have f156 := f119.ext E142
  have f157 := f120.ext E142
  have f158 := f121.ext E142
  have f159 := f122.ext E142
  have f160 := f123.ext E142
  have f161 := f124.ext E142
  have f162 := f125.ext E142
  have f163 := f126.ext E142
  have f164 := p114_0.ext E142
  have f165 := f131.ext E142
  have f166 := f133.ext E142
  have f167 := f134.ext E142
  have f168 := f135.ext E142
  have f169 := p114_1.ext E142
  have f170 := p114_2.ext E142
  have f171 := p114_3.ext E142
  have f172 := p114_4.ext E142
  have f173 : Fld Z h142 jw "com/example/rowcast/rowcast/JoinValue" "value" "D" (.double (0 : UInt64)) := D142 (Or.inr (hw _ (List.mem_of_getElem? (i := 31) rfl))) (ty := .double) own_fd0
  have f174 : Fld Z h142 jw "com/example/rowcast/rowcast/JoinValue" "left" "Lcom/example/rowcast/rowcast/Histogram$CountedEndpoint;" .null := D142 (Or.inr (hw _ (List.mem_of_getElem? (i := 33) rfl))) (ty := (.object "com/example/rowcast/rowcast/Histogram$CountedEndpoint")) own_fd2
  have f175 : Fld Z h142 jw "com/example/rowcast/rowcast/JoinValue" "right" "Lcom/example/rowcast/rowcast/Histogram$CountedEndpoint;" .null := D142 (Or.inr (hw _ (List.mem_of_getElem? (i := 35) rfl))) (ty := (.object "com/example/rowcast/rowcast/Histogram$CountedEndpoint")) own_fd2
  have z142 := Nat.le_trans z114 E142.1
  have K142 := K114.ext E142
  refine g_dup (pc' := 177) X142 hx hby own_d14_176 rfl rfl rfl ?_
  refine g_aload (pc' := 179) X142 hx hby (v := (.ref eb)) own_d14_177 rfl rfl rfl ?_
  refine g_virt (argsL := []) (pc' := 182) X142 hx hby (by rw [hml]; rfl) hZ hown e142 (own_rm21 l Z a0 hw [] eb vb h142 n0 z142 f163) (hw _ (List.mem_of_getElem? (i := 138) rfl)) (hw _ (List.mem_of_getElem? (i := 139) rfl)) (hw _ (List.mem_of_getElem? (i := 141) rfl)) (hw _ (List.mem_of_getElem? (i := 140) rfl)) (hw _ (List.mem_of_getElem? (i := 2) rfl)) (hw _ (List.mem_of_getElem? (i := 142) rfl)) (by decide) f162 own_pd9 rfl rfl (W := 3) rfl (by decide) (by decide) (by decide) (by decide) own_d14_179 rfl ?_
  intro T176 v176 L176 X176 qq176
  obtain ⟨rfl, n176, e176⟩ := qq176
  have N176 := Fr.app N140 n176
  show Gf p e below P T176 m 182 #[.val (.ref la), .val (.ref ra), .val (.ref jl), .val (.int (1 : Int32)), .val (.int (0 : Int32)), .val .null, .val (.ref eb)] [(.double vb), (.ref jw), (.ref jw), (.ref jl)]
  refine g_aconst_null (pc' := 183) X176 hx hby own_d14_182 rfl ?_
  refine g_aload (pc' := 185) X176 hx hby (v := (.ref eb)) own_d14_183 rfl rfl rfl ?_
  refine g_init (argsL := [(.double vb), .null, (.ref eb)]) (pc' := 188) X176 hx hby (by rw [hml]; rfl) hZ hown rfl e176 (own_rm4nr l Z a0 hw [] jw vb eb  h142 n0 z142 A142 f173 f174 f175 ge142) (hw _ (List.mem_of_getElem? (i := 144) rfl)) (hw _ (List.mem_of_getElem? (i := 27) rfl)) (hw _ (List.mem_of_getElem? (i := 25) rfl)) (hw _ (List.mem_of_getElem? (i := 28) rfl)) (by decide) own_pd10 rfl rfl (W := 2) rfl (by decide) (by decide) (by decide) (by decide) own_d14_185 rfl ?_
  intro T177 v177 L177 X177 qq177
  obtain ⟨h177, e177⟩ : ∃ h, T177.heap = h := ⟨_, rfl⟩
  rw [e177] at qq177
  obtain ⟨rfl, n177, k177, p177_0, p177_1, p177_2⟩ := qq177
  have f178 := f152.keep k177
  have f179 := f153.keep k177 (ninS ne147 nin0)
  have f180 := f154.keep k177 (ninS ne147 nin0)
  have f181 := f155.keep k177 (ninS ne150 nin0)
  have f182 := f156.keep k177
  have f183 := f157.keep k177 (ninS ne143 nin0)
  have f184 := f158.keep k177
  have f185 := f159.keep k177 (ninS ne148 nin0)
  have f186 := f160.keep k177 (ninS ne148 nin0)
  have f187 := f161.keep k177 (ninS ne151 nin0)
  have f188 := f162.keep k177
  have f189 := f163.keep k177 (ninS ne144 nin0)
  have f190 := f164.keep k177
  have f191 := f165.keep k177
  have f192 := f166.keep k177
  have f193 := f167.keep k177 (ninS ne146 nin0)
  have f194 := f168.keep k177 (ninS ne146 nin0)
  have f195 := f169.keep k177 (ninS ne145 nin0)
  have f196 := f170.keep k177 (ninS ne145 nin0)
  have f197 := f171.keep k177 (ninS ne145 nin0)
  have f198 := f172.keep k177 (ninS ne149 nin0)
  have f199 := A142.keep k177
  have z177 := Nat.le_trans z142 k177.1
  have K177 := K142.trans k177 (allS (Or.inr kp142) all0)
  have N177 := Fr.app N176 n177
  show Gf p e below P T177 m 188 #[.val (.ref la), .val (.ref ra), .val (.ref jl), .val (.int (1 : Int32)), .val (.int (0 : Int32)), .val .null, .val (.ref eb)] [(.ref jw), (.ref jl)]
  refine g_face (argsL := [(.ref jw)]) (pc' := 193) X177 hx hby (by rw [hml]; rfl) hZ hown e177 (own_rm9_1 l Z a0 hw [] jl jw rt kr jv ((0 : Int32) + (1 : Int32)) h177 n0 z177 f190 f195 f196 f197 ge1 f198 ge42 f191 p25_7 (Ne.symm ne45) p177_0) (hw _ (List.mem_of_getElem? (i := 145) rfl)) (hw _ (List.mem_of_getElem? (i := 66) rfl)) (hw _ (List.mem_of_getElem? (i := 67) rfl)) rfl (hw _ (List.mem_of_getElem? (i := 68) rfl)) (hw _ (List.mem_of_getElem? (i := 69) rfl)) (hw _ (List.mem_of_getElem? (i := 70) rfl)) (hw _ (List.mem_of_getElem? (i := 71) rfl)) (hw _ (List.mem_of_getElem? (i := 72) rfl)) (hw _ (List.mem_of_getElem? (i := 43) rfl)) (hw _ (List.mem_of_getElem? (i := 73) rfl)) (by decide) f190 own_pd11 rfl rfl (W := 0) rfl (by decide) (by decide) (by decide) (by decide) own_d14_188 rfl ?_
  intro T203 v203 L203 X203 qq203
  obtain ⟨h203, e203⟩ : ∃ h, T203.heap = h := ⟨_, rfl⟩
  rw [e203] at qq203
  obtain ⟨rfl, n203, k203, p203_0, p203_1, p203_2, p203_3, p203_4⟩ := qq203
  have f204 := f178.keep k203
  have f205 := f179.keep k203 (ninS ne4 (ninS ne46 nin0))
  have f206 := f180.keep k203 (ninS ne4 (ninS ne46 nin0))
  have f207 := f181.keep k203 (ninS ne6 (ninS ne48 nin0))
  have f208 := f182.keep k203
  have f209 := f183.keep k203 (ninS ne2 (ninS ne43 nin0))
  have f210 := f184.keep k203
  have f211 := f185.keep k203 (ninS ne5 (ninS ne47 nin0))
  have f212 := f186.keep k203 (ninS ne5 (ninS ne47 nin0))
  have f213 := f187.keep k203 (ninS ne7 (ninS ne49 nin0))
  have f214 := f188.keep k203
  have f215 := f189.keep k203 (ninS ne3 (ninS ne44 nin0))
  have f216 := f190.keep k203
  have f217 := f191.keep k203
  have f218 := f192.keep k203
  have f219 := f193.keep k203 (ninS (Ne.symm ne63) (ninS (Ne.symm ne66) nin0))
  have f220 := f194.keep k203 (ninS (Ne.symm ne63) (ninS (Ne.symm ne66) nin0))
  have f225 := p177_0.keep k203
  have f226 := p177_1.keep k203 (ninS (Ne.symm ne145) (ninS (Ne.symm ne149) nin0))
  have f227 := p177_2.keep k203 (ninS (Ne.symm ne145) (ninS (Ne.symm ne149) nin0))
  have z203 := Nat.le_trans z177 k203.1
  have K203 := K177.trans k203 (allS (Or.inr kp1) (allS (Or.inr kp50) all0))
  have N203 := Fr.app N177 n203
  show Gf p e below P T203 m 193 #[.val (.ref la), .val (.ref ra), .val (.ref jl), .val (.int (1 : Int32)), .val (.int (0 : Int32)), .val .null, .val (.ref eb)] [(.int (1 : Int32))]
  refine g_pop (pc' := 194) X203 hx hby own_d14_193 rfl rfl rfl ?_
  refine g_iinc (pc' := 197) (Ls' := #[.val (.ref la), .val (.ref ra), .val (.ref jl), .val (.int (1 : Int32)), .val (.int (1 : Int32)), .val .null, .val (.ref eb)]) X203 hx hby own_d14_194 rfl rfl rfl ?_
  refine g_goto (pc' := 229) X203 hx hby own_d14_197 (by decide) (by decide) ?_
  refine g_goto (pc' := 26) X203 hx hby own_d14_229 (by decide) (by decide) ?_
  refine g_iloadN (pc' := 27) X203 hx hby (v := (1 : Int32)) own_d14_26 rfl rfl ?_
  refine g_aloadN (pc' := 28) X203 hx hby (v := (.ref la)) own_d14_27 rfl rfl rfl ?_
  refine g_face (argsL := []) (pc' := 33) X203 hx hby (by rw [hml]; rfl) hZ hown e203 (own_rm15 l Z a0 hw [] la (1 : Int32) h203 n0 z203 f205) (hw _ (List.mem_of_getElem? (i := 104) rfl)) (hw _ (List.mem_of_getElem? (i := 105) rfl)) (hw _ (List.mem_of_getElem? (i := 106) rfl)) rfl (hw _ (List.mem_of_getElem? (i := 107) rfl)) (hw _ (List.mem_of_getElem? (i := 108) rfl)) (hw _ (List.mem_of_getElem? (i := 109) rfl)) (hw _ (List.mem_of_getElem? (i := 110) rfl)) (hw _ (List.mem_of_getElem? (i := 72) rfl)) (hw _ (List.mem_of_getElem? (i := 43) rfl)) (hw _ (List.mem_of_getElem? (i := 111) rfl)) (by decide) f204 own_pd7 rfl rfl (W := 1) rfl (by decide) (by decide) (by decide) (by decide) own_d14_28 rfl ?_
  intro T228 v228 L228 X228 qq228
  obtain ⟨rfl, n228, e228⟩ := qq228
  have N228 := Fr.app N203 n228
  show Gf p e below P T228 m 33 #[.val (.ref la), .val (.ref ra), .val (.ref jl), .val (.int (1 : Int32)), .val (.int (1 : Int32)), .val .null, .val (.ref eb)] [(.int (1 : Int32)), (.int (1 : Int32))]
  refine g_icN (pc' := 36) X228 hx hby own_d14_33 rfl (flt (by decide : ¬ ((1 : Int32) < (1 : Int32)))).1 rfl ?_
  refine g_iload (pc' := 38) X228 hx hby (v := (1 : Int32)) own_d14_36 rfl rfl ?_
  refine g_aloadN (pc' := 39) X228 hx hby (v := (.ref ra)) own_d14_38 rfl rfl rfl ?_
  refine g_face (argsL := []) (pc' := 44) X228 hx hby (by rw [hml]; rfl) hZ hown e228 (own_rm15 l Z a0 hw [] ra (1 : Int32) h203 n0 z203 f211) (hw _ (List.mem_of_getElem? (i := 104) rfl)) (hw _ (List.mem_of_getElem? (i := 105) rfl)) (hw _ (List.mem_of_getElem? (i := 106) rfl)) rfl (hw _ (List.mem_of_getElem? (i := 107) rfl)) (hw _ (List.mem_of_getElem? (i := 108) rfl)) (hw _ (List.mem_of_getElem? (i := 109) rfl)) (hw _ (List.mem_of_getElem? (i := 110) rfl)) (hw _ (List.mem_of_getElem? (i := 72) rfl)) (hw _ (List.mem_of_getElem? (i := 43) rfl)) (hw _ (List.mem_of_getElem? (i := 111) rfl)) (by decide) f210 own_pd7 rfl rfl (W := 1) rfl (by decide) (by decide) (by decide) (by decide) own_d14_39 rfl ?_
  intro T229 v229 L229 X229 qq229
  obtain ⟨rfl, n229, e229⟩ := qq229
  have N229 := Fr.app N228 n229
  show Gf p e below P T229 m 44 #[.val (.ref la), .val (.ref ra), .val (.ref jl), .val (.int (1 : Int32)), .val (.int (1 : Int32)), .val .null, .val (.ref eb)] [(.int (1 : Int32)), (.int (1 : Int32))]
  refine g_icY (pc' := 232) X229 hx hby own_d14_44 rfl (flt (by decide : ¬ ((1 : Int32) < (1 : Int32)))).2.1 (by decide) (by decide) ?_
  refine g_aloadN (pc' := 233) X229 hx hby (v := (.ref jl)) own_d14_232 rfl rfl rfl ?_
  exact g_retV X229 hx hby hf hlk hret own_d14_233 rfl rfl (Or.inr (Or.inr (Or.inr (Or.inr ⟨rfl, rfl, rfl⟩)))) (by decide) (by decide) e229 ⟨jl, rt, kr, jv, jw, rfl, N229, K203, kp1, p203_0, p203_3, p203_2, p203_4, f218, f219, f220, f225, f226, f227⟩
theorem own_d14_98 : decode prog_32_method_2_code 98 = .ok (.aconst_null, 1) := by decide +kernel
theorem own_d14_158 : decode prog_32_method_2_code 158 = .ok (.aload 6, 2) := by decide +kernel
theorem own_d14_160 : decode prog_32_method_2_code 160 = .ok (.invokevirtual 37, 3) := by decide +kernel
theorem own_d14_163 : decode prog_32_method_2_code 163 = .ok (.aload 5, 2) := by decide +kernel
theorem own_d14_165 : decode prog_32_method_2_code 165 = .ok (.invokevirtual 37, 3) := by decide +kernel
theorem own_d14_168 : decode prog_32_method_2_code 168 = .ok (.dcmp .g, 1) := by decide +kernel
theorem own_d14_169 : decode prog_32_method_2_code 169 = .ok (.ifCond .ge 31, 3) := by decide +kernel
def own_Q14gt (Z : State) (la : Addr) (ra : Addr) (ta : Addr) (ka : ClassId) (ea : Addr) (va : UInt64) (tb : Addr) (kb : ClassId) (eb : Addr) (vb : UInt64) (h0 : Heap) (n0 : Nat) (v : Option Value) (h : Heap) (L : List Loc) : Prop := ∃ (r : Addr), ∃ (t : Addr), ∃ (kt : ClassId), ∃ (j1 : Addr), ∃ (j2 : Addr), v = some (.ref r) ∧ Fr n0 L ∧ Keep h0 h [] ∧ h0.size ≤ r ∧ Exa Z h r "java/util/ArrayList" ∧ Fld Z h r "java/util/ArrayList" "size" "I" (.int (2 : Int32)) ∧ Fld Z h r "java/util/ArrayList" "elementData" "[Ljava/lang/Object;" (.ref t) ∧ Arv Z h t kt (.object "java/lang/Object") (2 : Int32) [(.ref j1), (.ref j2)] .null ∧ Exa Z h j1 "com/example/rowcast/rowcast/JoinValue" ∧ Fld Z h j1 "com/example/rowcast/rowcast/JoinValue" "left" "Lcom/example/rowcast/rowcast/Histogram$CountedEndpoint;" .null ∧ Fld Z h j1 "com/example/rowcast/rowcast/JoinValue" "right" "Lcom/example/rowcast/rowcast/Histogram$CountedEndpoint;" (.ref eb) ∧ Exa Z h j2 "com/example/rowcast/rowcast/JoinValue" ∧ Fld Z h j2 "com/example/rowcast/rowcast/JoinValue" "left" "Lcom/example/rowcast/rowcast/Histogram$CountedEndpoint;" (.ref ea) ∧ Fld Z h j2 "com/example/rowcast/rowcast/JoinValue" "right" "Lcom/example/rowcast/rowcast/Histogram$CountedEndpoint;" .null
set_option maxRecDepth 65536 in
set_option maxHeartbeats 40000000 in
theorem own_rm14gt (l : Launch) (Z : State) (a0 : Array Value) (hw : ∀ d ∈ tables_1, d.before a0 Z = true) (ws : List Jvm.Cond) (la : Addr) (ra : Addr) (ta : Addr) (ka : ClassId) (ea : Addr) (va : UInt64) (tb : Addr) (kb : ClassId) (eb : Addr) (vb : UInt64) (h0 : Heap) (n0 : Nat) (Z0 : n0 ≤ h0.size) (c0 : Exa Z h0 la "java/util/ArrayList") (c1 : Fld Z h0 la "java/util/ArrayList" "size" "I" (.int (1 : Int32))) (c2 : Fld Z h0 la "java/util/ArrayList" "elementData" "[Ljava/lang/Object;" (.ref ta)) (c3 : Arv Z h0 ta ka (.object "java/lang/Object") (10 : Int32) [(.ref ea), .null, .null, .null, .null, .null, .null, .null, .null, .null] .null) (c4 : Exa Z h0 ea "com/example/rowcast/rowcast/Histogram$CountedEndpoint") (c5 : Fld Z h0 ea "com/example/rowcast/rowcast/Histogram$CountedEndpoint" "value" "D" (.double va)) (c6 : Exa Z h0 ra "java/util/ArrayList") (c7 : Fld Z h0 ra "java/util/ArrayList" "size" "I" (.int (1 : Int32))) (c8 : Fld Z h0 ra "java/util/ArrayList" "elementData" "[Ljava/lang/Object;" (.ref tb)) (c9 : Arv Z h0 tb kb (.object "java/lang/Object") (10 : Int32) [(.ref eb), .null, .null, .null, .null, .null, .null, .null, .null, .null] .null) (c10 : Exa Z h0 eb "com/example/rowcast/rowcast/Histogram$CountedEndpoint") (c11 : Fld Z h0 eb "com/example/rowcast/rowcast/Histogram$CountedEndpoint" "value" "D" (.double vb)) (hlt : ¬ (cmpValue (FP.dcmp va vb) .g < (0 : Int32))) (hgt : cmpValue (FP.dcmp vb va) .g < (0 : Int32)) :
    Con l Z (⟨"com/example/rowcast/rowcast/JoinValue", "joinHistogram", "(Ljava/util/List;Ljava/util/List;)Ljava/util/List;"⟩ : MethodName) prog_32_method_2_code 7 (some (.object "java/util/List")) ws ({ frames := 4, cells := 4, slots := 11, locals := 50 } : Room) #[(.ref la), (.ref ra)] h0 (own_Q14gt Z la ra ta ka ea va tb kb eb vb h0 n0) := by
  refine Con.start #[.val (.ref la), .val (.ref ra), .unset, .unset, .unset, .unset, .unset] (plainFor_of_name own_pn2) (fun m => by first | (refine own_ef ?_; exact rfl) | (simp [entryFrame, mkF, argsToLocals, Value.category]; done) | rfl) ?_
  intro p e s m below meth c s₁ P X0 hx hby hml hret hlk hown hnm hZ e0 hf
  have hml : c.maxLocals = 7 := hml
  have N0 := Fr.nil n0
  have K0 : Keep h0 h0 [] := Keep.refl _ _
  refine g_new (pc' := 3) X0 hx hby hZ hown (hw _ (List.mem_of_getElem? (i := 103) rfl)) (hw _ (List.mem_of_getElem? (i := 42) rfl)) (hw _ (List.mem_of_getElem? (i := 43) rfl)) e0 own_d14_0 rfl (by decide) (by decide) ?_
  intro T1 h1 jl X1 e1 E1 A1 D1 q1
  have ne2 : ea ≠ jl := by rw [q1]; exact Nat.ne_of_lt c4.lt
  have ne3 : eb ≠ jl := by rw [q1]; exact Nat.ne_of_lt c10.lt
  have ne4 : la ≠ jl := by rw [q1]; exact Nat.ne_of_lt c0.lt
  have ne5 : ra ≠ jl := by rw [q1]; exact Nat.ne_of_lt c6.lt
  have ne6 : ta ≠ jl := by rw [q1]; exact Nat.ne_of_lt c3.lt
  have ne7 : tb ≠ jl := by rw [q1]; exact Nat.ne_of_lt c9.lt
  have ge1 : n0 ≤ jl := by rw [q1]; exact Z0
  have kp1 : h0.size ≤ jl := by rw [q1]; exact K0.1
  have f8 := c0.ext E1
  have f9 := c1.ext E1
  have f10 := c2.ext E1
  have f11 := c3.ext E1
  have f12 := c4.ext E1
  have f13 := c5.ext E1
  have f14 := c6.ext E1
  have f15 := c7.ext E1
  have f16 := c8.ext E1
  have f17 := c9.ext E1
  have f18 := c10.ext E1
  have f19 := c11.ext E1
  have f20 : Fld Z h1 jl "java/util/AbstractList" "modCount" "I" (.int (0 : Int32)) := D1 (Or.inl (hw _ (List.mem_of_getElem? (i := 61) rfl))) (ty := .int) own_fd3
  have f21 : Fld Z h1 jl "java/util/ArrayList" "elementData" "[Ljava/lang/Object;" .null := D1 (Or.inl (hw _ (List.mem_of_getElem? (i := 64) rfl))) (ty := (.array (.object "java/lang/Object"))) own_fd4
  have f22 : Fld Z h1 jl "java/util/ArrayList" "size" "I" (.int (0 : Int32)) := D1 (Or.inl (hw _ (List.mem_of_getElem? (i := 77) rfl))) (ty := .int) own_fd3
  have z1 := Nat.le_trans Z0 E1.1
  have K1 := K0.ext E1
  refine g_dup (pc' := 4) X1 hx hby own_d14_3 rfl rfl rfl ?_
  refine g_aloadN (pc' := 5) X1 hx hby (v := (.ref la)) own_d14_4 rfl rfl rfl ?_
  refine g_face (argsL := []) (pc' := 10) X1 hx hby (by rw [hml]; rfl) hZ hown e1 (own_rm15 l Z a0 hw [] la (1 : Int32) h1 n0 z1 f9) (hw _ (List.mem_of_getElem? (i := 104) rfl)) (hw _ (List.mem_of_getElem? (i := 105) rfl)) (hw _ (List.mem_of_getElem? (i := 106) rfl)) rfl (hw _ (List.mem_of_getElem? (i := 107) rfl)) (hw _ (List.mem_of_getElem? (i := 108) rfl)) (hw _ (List.mem_of_getElem? (i := 109) rfl)) (hw _ (List.mem_of_getElem? (i := 110) rfl)) (hw _ (List.mem_of_getElem? (i := 72) rfl)) (hw _ (List.mem_of_getElem? (i := 43) rfl)) (hw _ (List.mem_of_getElem? (i := 111) rfl)) (by decide) f8 own_pd7 rfl rfl (W := 2) rfl (by decide) (by decide) (by decide) (by decide) own_d14_5 rfl ?_
  intro T23 v23 L23 X23 qq23
  obtain ⟨rfl, n23, e23⟩ := qq23
  have N23 := Fr.app N0 n23
  show Gf p e below P T23 m 10 #[.val (.ref la), .val (.ref ra), .unset, .unset, .unset, .unset, .unset] [(.int (1 : Int32)), (.ref jl), (.ref jl)]
  refine g_aloadN (pc' := 11) X23 hx hby (v := (.ref ra)) own_d14_10 rfl rfl rfl ?_
  refine g_face (argsL := []) (pc' := 16) X23 hx hby (by rw [hml]; rfl) hZ hown e23 (own_rm15 l Z a0 hw [] ra (1 : Int32) h1 n0 z1 f15) (hw _ (List.mem_of_getElem? (i := 104) rfl)) (hw _ (List.mem_of_getElem? (i := 105) rfl)) (hw _ (List.mem_of_getElem? (i := 106) rfl)) rfl (hw _ (List.mem_of_getElem? (i := 107) rfl)) (hw _ (List.mem_of_getElem? (i := 108) rfl)) (hw _ (List.mem_of_getElem? (i := 109) rfl)) (hw _ (List.mem_of_getElem? (i := 110) rfl)) (hw _ (List.mem_of_getElem? (i := 72) rfl)) (hw _ (List.mem_of_getElem? (i := 43) rfl)) (hw _ (List.mem_of_getElem? (i := 111) rfl)) (by decide) f14 own_pd7 rfl rfl (W := 3) rfl (by decide) (by decide) (by decide) (by decide) own_d14_11 rfl ?_
  intro T24 v24 L24 X24 qq24
  obtain ⟨rfl, n24, e24⟩ := qq24
  have N24 := Fr.app N23 n24
  show Gf p e below P T24 m 16 #[.val (.ref la), .val (.ref ra), .unset, .unset, .unset, .unset, .unset] [(.int (1 : Int32)), (.int (1 : Int32)), (.ref jl), (.ref jl)]
  refine g_iadd (pc' := 17) (v := (2 : Int32)) X24 hx hby own_d14_16 rfl rfl rfl ?_
  refine g_init (argsL := [(.int (2 : Int32))]) (pc' := 20) X24 hx hby (by rw [hml]; rfl) hZ hown rfl e24 (own_rm16_2 l Z a0 hw [] jl  h1 n0 z1 A1 f20 f21 f22 ge1) (hw _ (List.mem_of_getElem? (i := 112) rfl)) (hw _ (List.mem_of_getElem? (i := 113) rfl)) (hw _ (List.mem_of_getElem? (i := 43) rfl)) (hw _ (List.mem_of_getElem? (i := 114) rfl)) (by decide) own_pd8 rfl rfl (W := 1) rfl (by decide) (by decide) (by decide) (by decide) own_d14_17 rfl ?_
  intro T25 v25 L25 X25 qq25
  obtain ⟨h25, e25⟩ : ∃ h, T25.heap = h := ⟨_, rfl⟩
  rw [e25] at qq25
  obtain ⟨rt, kr, rfl, n25, k25, p25_0, p25_1, p25_2, p25_3, p25_4, p25_5, p25_6, p25_7⟩ := qq25
  have f26 := f8.keep k25
  have f27 := f9.keep k25 (ninS ne4 nin0)
  have f28 := f10.keep k25 (ninS ne4 nin0)
  have f29 := f11.keep k25 (ninS ne6 nin0)
  have f30 := f12.keep k25
  have f31 := f13.keep k25 (ninS ne2 nin0)
  have f32 := f14.keep k25
  have f33 := f15.keep k25 (ninS ne5 nin0)
  have f34 := f16.keep k25 (ninS ne5 nin0)
  have f35 := f17.keep k25 (ninS ne7 nin0)
  have f36 := f18.keep k25
  have f37 := f19.keep k25 (ninS ne3 nin0)
  have f38 := A1.keep k25
  have ge42 : n0 ≤ rt := Nat.le_trans z1 p25_4
  have ne43 : ea ≠ rt := Nat.ne_of_lt (Nat.lt_of_lt_of_le f12.lt p25_4)
  have ne44 : eb ≠ rt := Nat.ne_of_lt (Nat.lt_of_lt_of_le f18.lt p25_4)
  have ne45 : jl ≠ rt := Nat.ne_of_lt (Nat.lt_of_lt_of_le A1.lt p25_4)
  have ne46 : la ≠ rt := Nat.ne_of_lt (Nat.lt_of_lt_of_le f8.lt p25_4)
  have ne47 : ra ≠ rt := Nat.ne_of_lt (Nat.lt_of_lt_of_le f14.lt p25_4)
  have ne48 : ta ≠ rt := Nat.ne_of_lt (Nat.lt_of_lt_of_le f11.lt p25_4)
  have ne49 : tb ≠ rt := Nat.ne_of_lt (Nat.lt_of_lt_of_le f17.lt p25_4)
  have kp50 : h0.size ≤ rt := Nat.le_trans K1.1 p25_4
  have z25 := Nat.le_trans z1 k25.1
  have K25 := K1.trans k25 (allS (Or.inr kp1) all0)
  have N25 := Fr.app N24 n25
  show Gf p e below P T25 m 20 #[.val (.ref la), .val (.ref ra), .unset, .unset, .unset, .unset, .unset] [(.ref jl)]
  refine g_astoreN (pc' := 21) (Ls' := #[.val (.ref la), .val (.ref ra), .val (.ref jl), .unset, .unset, .unset, .unset]) X25 hx hby own_d14_20 rfl rfl rfl rfl ?_
  refine g_iconst (pc' := 22) (v := (0 : Int32)) X25 hx hby own_d14_21 rfl rfl ?_
  refine g_istoreN (pc' := 23) (Ls' := #[.val (.ref la), .val (.ref ra), .val (.ref jl), .val (.int (0 : Int32)), .unset, .unset, .unset]) X25 hx hby own_d14_22 rfl rfl rfl ?_
  refine g_iconst (pc' := 24) (v := (0 : Int32)) X25 hx hby own_d14_23 rfl rfl ?_
  refine g_istore (pc' := 26) (Ls' := #[.val (.ref la), .val (.ref ra), .val (.ref jl), .val (.int (0 : Int32)), .val (.int (0 : Int32)), .unset, .unset]) X25 hx hby own_d14_24 rfl rfl rfl ?_
  refine g_iloadN (pc' := 27) X25 hx hby (v := (0 : Int32)) own_d14_26 rfl rfl ?_
  refine g_aloadN (pc' := 28) X25 hx hby (v := (.ref la)) own_d14_27 rfl rfl rfl ?_
  refine g_face (argsL := []) (pc' := 33) X25 hx hby (by rw [hml]; rfl) hZ hown e25 (own_rm15 l Z a0 hw [] la (1 : Int32) h25 n0 z25 f27) (hw _ (List.mem_of_getElem? (i := 104) rfl)) (hw _ (List.mem_of_getElem? (i := 105) rfl)) (hw _ (List.mem_of_getElem? (i := 106) rfl)) rfl (hw _ (List.mem_of_getElem? (i := 107) rfl)) (hw _ (List.mem_of_getElem? (i := 108) rfl)) (hw _ (List.mem_of_getElem? (i := 109) rfl)) (hw _ (List.mem_of_getElem? (i := 110) rfl)) (hw _ (List.mem_of_getElem? (i := 72) rfl)) (hw _ (List.mem_of_getElem? (i := 43) rfl)) (hw _ (List.mem_of_getElem? (i := 111) rfl)) (by decide) f26 own_pd7 rfl rfl (W := 1) rfl (by decide) (by decide) (by decide) (by decide) own_d14_28 rfl ?_
  intro T51 v51 L51 X51 qq51
  obtain ⟨rfl, n51, e51⟩ := qq51
  have N51 := Fr.app N25 n51
  show Gf p e below P T51 m 33 #[.val (.ref la), .val (.ref ra), .val (.ref jl), .val (.int (0 : Int32)), .val (.int (0 : Int32)), .unset, .unset] [(.int (1 : Int32)), (.int (0 : Int32))]
  refine g_icY (pc' := 47) X51 hx hby own_d14_33 rfl (tlt (by decide : (0 : Int32) < (1 : Int32))).1 (by decide) (by decide) ?_
  refine g_iloadN (pc' := 48) X51 hx hby (v := (0 : Int32)) own_d14_47 rfl rfl ?_
  refine g_aloadN (pc' := 49) X51 hx hby (v := (.ref la)) own_d14_48 rfl rfl rfl ?_
  refine g_face (argsL := []) (pc' := 54) X51 hx hby (by rw [hml]; rfl) hZ hown e51 (own_rm15 l Z a0 hw [] la (1 : Int32) h25 n0 z25 f27) (hw _ (List.mem_of_getElem? (i := 104) rfl)) (hw _ (List.mem_of_getElem? (i := 105) rfl)) (hw _ (List.mem_of_getElem? (i := 106) rfl)) rfl (hw _ (List.mem_of_getElem? (i := 107) rfl)) (hw _ (List.mem_of_getElem? (i := 108) rfl)) (hw _ (List.mem_of_getElem? (i := 109) rfl)) (hw _ (List.mem_of_getElem? (i := 110) rfl)) (hw _ (List.mem_of_getElem? (i := 72) rfl)) (hw _ (List.mem_of_getElem? (i := 43) rfl)) (hw _ (List.mem_of_getElem? (i := 111) rfl)) (by decide) f26 own_pd7 rfl rfl (W := 1) rfl (by decide) (by decide) (by decide) (by decide) own_d14_49 rfl ?_
  intro T52 v52 L52 X52 qq52
  obtain ⟨rfl, n52, e52⟩ := qq52
  have N52 := Fr.app N51 n52
  show Gf p e below P T52 m 54 #[.val (.ref la), .val (.ref ra), .val (.ref jl), .val (.int (0 : Int32)), .val (.int (0 : Int32)), .unset, .unset] [(.int (1 : Int32)), (.int (0 : Int32))]
  refine g_icN (pc' := 57) X52 hx hby own_d14_54 rfl (tlt (by decide : (0 : Int32) < (1 : Int32))).2.1 rfl ?_
  refine g_aloadN (pc' := 58) X52 hx hby (v := (.ref la)) own_d14_57 rfl rfl rfl ?_
  refine g_iloadN (pc' := 59) X52 hx hby (v := (0 : Int32)) own_d14_58 rfl rfl ?_
  refine g_face (argsL := [(.int (0 : Int32))]) (pc' := 64) X52 hx hby (by rw [hml]; rfl) hZ hown e52 (own_rm17A l Z a0 hw [] la ta ka ea h25 n0 z25 f28 f29 f26 f27) (hw _ (List.mem_of_getElem? (i := 115) rfl)) (hw _ (List.mem_of_getElem? (i := 116) rfl)) (hw _ (List.mem_of_getElem? (i := 117) rfl)) rfl (hw _ (List.mem_of_getElem? (i := 118) rfl)) (hw _ (List.mem_of_getElem? (i := 119) rfl)) (hw _ (List.mem_of_getElem? (i := 120) rfl)) (hw _ (List.mem_of_getElem? (i := 121) rfl)) (hw _ (List.mem_of_getElem? (i := 72) rfl)) (hw _ (List.mem_of_getElem? (i := 43) rfl)) (hw _ (List.mem_of_getElem? (i := 122) rfl)) (by decide) f26 own_pd6 rfl rfl (W := 0) rfl (by decide) (by decide) (by decide) (by decide) own_d14_59 rfl ?_
  intro T53 v53 L53 X53 qq53
  obtain ⟨rfl, n53, e53⟩ := qq53
  have N53 := Fr.app N52 n53
  show Gf p e below P T53 m 64 #[.val (.ref la), .val (.ref ra), .val (.ref jl), .val (.int (0 : Int32)), .val (.int (0 : Int32)), .unset, .unset] [(.ref ea)]
  refine g_cast (pc' := 67) X53 hx hby hZ hown (hw _ (List.mem_of_getElem? (i := 136) rfl)) e53 (Ins.of_exa f30 (hw _ (List.mem_of_getElem? (i := 137) rfl))) rfl own_d14_64 rfl ?_
  intro T54 X54 e54
  refine g_goto (pc' := 71) X54 hx hby own_d14_67 (by decide) (by decide) ?_
  refine g_astore (pc' := 73) (Ls' := #[.val (.ref la), .val (.ref ra), .val (.ref jl), .val (.int (0 : Int32)), .val (.int (0 : Int32)), .val (.ref ea), .unset]) X54 hx hby own_d14_71 rfl rfl rfl rfl ?_
  refine g_iload (pc' := 75) X54 hx hby (v := (0 : Int32)) own_d14_73 rfl rfl ?_
  refine g_aloadN (pc' := 76) X54 hx hby (v := (.ref ra)) own_d14_75 rfl rfl rfl ?_
  refine g_face (argsL := []) (pc' := 81) X54 hx hby (by rw [hml]; rfl) hZ hown e54 (own_rm15 l Z a0 hw [] ra (1 : Int32) h25 n0 z25 f33) (hw _ (List.mem_of_getElem? (i := 104) rfl)) (hw _ (List.mem_of_getElem? (i := 105) rfl)) (hw _ (List.mem_of_getElem? (i := 106) rfl)) rfl (hw _ (List.mem_of_getElem? (i := 107) rfl)) (hw _ (List.mem_of_getElem? (i := 108) rfl)) (hw _ (List.mem_of_getElem? (i := 109) rfl)) (hw _ (List.mem_of_getElem? (i := 110) rfl)) (hw _ (List.mem_of_getElem? (i := 72) rfl)) (hw _ (List.mem_of_getElem? (i := 43) rfl)) (hw _ (List.mem_of_getElem? (i := 111) rfl)) (by decide) f32 own_pd7 rfl rfl (W := 1) rfl (by decide) (by decide) (by decide) (by decide) own_d14_76 rfl ?_
  intro T55 v55 L55 X55 qq55
  obtain ⟨rfl, n55, e55⟩ := qq55
  have N55 := Fr.app N53 n55
  show Gf p e below P T55 m 81 #[.val (.ref la), .val (.ref ra), .val (.ref jl), .val (.int (0 : Int32)), .val (.int (0 : Int32)), .val (.ref ea), .unset] [(.int (1 : Int32)), (.int (0 : Int32))]
  refine g_icN (pc' := 84) X55 hx hby own_d14_81 rfl (tlt (by decide : (0 : Int32) < (1 : Int32))).2.1 rfl ?_
  refine g_aloadN (pc' := 85) X55 hx hby (v := (.ref ra)) own_d14_84 rfl rfl rfl ?_
  refine g_iload (pc' := 87) X55 hx hby (v := (0 : Int32)) own_d14_85 rfl rfl ?_
  refine g_face (argsL := [(.int (0 : Int32))]) (pc' := 92) X55 hx hby (by rw [hml]; rfl) hZ hown e55 (own_rm17A l Z a0 hw [] ra tb kb eb h25 n0 z25 f34 f35 f32 f33) (hw _ (List.mem_of_getElem? (i := 115) rfl)) (hw _ (List.mem_of_getElem? (i := 116) rfl)) (hw _ (List.mem_of_getElem? (i := 117) rfl)) rfl (hw _ (List.mem_of_getElem? (i := 118) rfl)) (hw _ (List.mem_of_getElem? (i := 119) rfl)) (hw _ (List.mem_of_getElem? (i := 120) rfl)) (hw _ (List.mem_of_getElem? (i := 121) rfl)) (hw _ (List.mem_of_getElem? (i := 72) rfl)) (hw _ (List.mem_of_getElem? (i := 43) rfl)) (hw _ (List.mem_of_getElem? (i := 122) rfl)) (by decide) f32 own_pd6 rfl rfl (W := 0) rfl (by decide) (by decide) (by decide) (by decide) own_d14_87 rfl ?_
  intro T56 v56 L56 X56 qq56
  obtain ⟨rfl, n56, e56⟩ := qq56
  have N56 := Fr.app N55 n56
  show Gf p e below P T56 m 92 #[.val (.ref la), .val (.ref ra), .val (.ref jl), .val (.int (0 : Int32)), .val (.int (0 : Int32)), .val (.ref ea), .unset] [(.ref eb)]
  refine g_cast (pc' := 95) X56 hx hby hZ hown (hw _ (List.mem_of_getElem? (i := 136) rfl)) e56 (Ins.of_exa f36 (hw _ (List.mem_of_getElem? (i := 137) rfl))) rfl own_d14_92 rfl ?_
  intro T57 X57 e57
  refine g_goto (pc' := 99) X57 hx hby own_d14_95 (by decide) (by decide) ?_
  refine g_astore (pc' := 101) (Ls' := #[.val (.ref la), .val (.ref ra), .val (.ref jl), .val (.int (0 : Int32)), .val (.int (0 : Int32)), .val (.ref ea), .val (.ref eb)]) X57 hx hby own_d14_99 rfl rfl rfl rfl ?_
  refine g_aload (pc' := 103) X57 hx hby (v := (.ref eb)) own_d14_101 rfl rfl rfl ?_
  refine g_nullN (pc' := 106) X57 hx hby own_d14_103 rfl rfl ?_
  refine g_aload (pc' := 108) X57 hx hby (v := (.ref ea)) own_d14_106 rfl rfl rfl ?_
  refine g_nullN (pc' := 111) X57 hx hby own_d14_108 rfl rfl ?_
  refine g_aload (pc' := 113) X57 hx hby (v := (.ref ea)) own_d14_111 rfl rfl rfl ?_
  refine g_virt (argsL := []) (pc' := 116) X57 hx hby (by rw [hml]; rfl) hZ hown e57 (own_rm21 l Z a0 hw [] ea va h25 n0 z25 f31) (hw _ (List.mem_of_getElem? (i := 138) rfl)) (hw _ (List.mem_of_getElem? (i := 139) rfl)) (hw _ (List.mem_of_getElem? (i := 141) rfl)) (hw _ (List.mem_of_getElem? (i := 140) rfl)) (hw _ (List.mem_of_getElem? (i := 2) rfl)) (hw _ (List.mem_of_getElem? (i := 142) rfl)) (by decide) f30 own_pd9 rfl rfl (W := 0) rfl (by decide) (by decide) (by decide) (by decide) own_d14_113 rfl ?_
  intro T58 v58 L58 X58 qq58
  obtain ⟨rfl, n58, e58⟩ := qq58
  have N58 := Fr.app N56 n58
  show Gf p e below P T58 m 116 #[.val (.ref la), .val (.ref ra), .val (.ref jl), .val (.int (0 : Int32)), .val (.int (0 : Int32)), .val (.ref ea), .val (.ref eb)] [(.double va)]
  refine g_aload (pc' := 118) X58 hx hby (v := (.ref eb)) own_d14_116 rfl rfl rfl ?_
  refine g_virt (argsL := []) (pc' := 121) X58 hx hby (by rw [hml]; rfl) hZ hown e58 (own_rm21 l Z a0 hw [] eb vb h25 n0 z25 f37) (hw _ (List.mem_of_getElem? (i := 138) rfl)) (hw _ (List.mem_of_getElem? (i := 139) rfl)) (hw _ (List.mem_of_getElem? (i := 141) rfl)) (hw _ (List.mem_of_getElem? (i := 140) rfl)) (hw _ (List.mem_of_getElem? (i := 2) rfl)) (hw _ (List.mem_of_getElem? (i := 142) rfl)) (by decide) f36 own_pd9 rfl rfl (W := 2) rfl (by decide) (by decide) (by decide) (by decide) own_d14_118 rfl ?_
  intro T59 v59 L59 X59 qq59
  obtain ⟨rfl, n59, e59⟩ := qq59
  have N59 := Fr.app N58 n59
  show Gf p e below P T59 m 121 #[.val (.ref la), .val (.ref ra), .val (.ref jl), .val (.int (0 : Int32)), .val (.int (0 : Int32)), .val (.ref ea), .val (.ref eb)] [(.double vb), (.double va)]
  refine g_dcmp (pc' := 122) (v := (cmpValue (FP.dcmp va vb) .g)) X59 hx hby own_d14_121 rfl rfl rfl ?_
  refine g_ifY (pc' := 153) X59 hx hby own_d14_122 rfl (flt (hlt : ¬ ((cmpValue (FP.dcmp va vb) .g) < (0 : Int32)))).2.1 (by decide) (by decide) ?_
  refine g_aload (pc' := 155) X59 hx hby (v := (.ref ea)) own_d14_153 rfl rfl rfl ?_
  refine g_nullN (pc' := 158) X59 hx hby own_d14_155 rfl rfl ?_
  refine g_aload (pc' := 160) X59 hx hby (v := (.ref eb)) own_d14_158 rfl rfl rfl ?_
  refine g_virt (argsL := []) (pc' := 163) X59 hx hby (by rw [hml]; rfl) hZ hown e59 (own_rm21 l Z a0 hw [] eb vb h25 n0 z25 f37) (hw _ (List.mem_of_getElem? (i := 138) rfl)) (hw _ (List.mem_of_getElem? (i := 139) rfl)) (hw _ (List.mem_of_getElem? (i := 141) rfl)) (hw _ (List.mem_of_getElem? (i := 140) rfl)) (hw _ (List.mem_of_getElem? (i := 2) rfl)) (hw _ (List.mem_of_getElem? (i := 142) rfl)) (by decide) f36 own_pd9 rfl rfl (W := 0) rfl (by decide) (by decide) (by decide) (by decide) own_d14_160 rfl ?_
  intro T60 v60 L60 X60 qq60
  obtain ⟨rfl, n60, e60⟩ := qq60
  have N60 := Fr.app N59 n60
  show Gf p e below P T60 m 163 #[.val (.ref la), .val (.ref ra), .val (.ref jl), .val (.int (0 : Int32)), .val (.int (0 : Int32)), .val (.ref ea), .val (.ref eb)] [(.double vb)]
  refine g_aload (pc' := 165) X60 hx hby (v := (.ref ea)) own_d14_163 rfl rfl rfl ?_
  refine g_virt (argsL := []) (pc' := 168) X60 hx hby (by rw [hml]; rfl) hZ hown e60 (own_rm21 l Z a0 hw [] ea va h25 n0 z25 f31) (hw _ (List.mem_of_getElem? (i := 138) rfl)) (hw _ (List.mem_of_getElem? (i := 139) rfl)) (hw _ (List.mem_of_getElem? (i := 141) rfl)) (hw _ (List.mem_of_getElem? (i := 140) rfl)) (hw _ (List.mem_of_getElem? (i := 2) rfl)) (hw _ (List.mem_of_getElem? (i := 142) rfl)) (by decide) f30 own_pd9 rfl rfl (W := 2) rfl (by decide) (by decide) (by decide) (by decide) own_d14_165 rfl ?_
  intro T61 v61 L61 X61 qq61
  obtain ⟨rfl, n61, e61⟩ := qq61
  have N61 := Fr.app N60 n61
  show Gf p e below P T61 m 168 #[.val (.ref la), .val (.ref ra), .val (.ref jl), .val (.int (0 : Int32)), .val (.int (0 : Int32)), .val (.ref ea), .val (.ref eb)] [(.double va), (.double vb)]
  refine g_dcmp (pc' := 169) (v := (cmpValue (FP.dcmp vb va) .g)) X61 hx hby own_d14_168 rfl rfl rfl ?_
  refine g_ifN (pc' := 172) X61 hx hby own_d14_169 rfl (tlt (hgt : (cmpValue (FP.dcmp vb va) .g) < (0 : Int32))).2.1 rfl ?_
  refine g_aloadN (pc' := 173) X61 hx hby (v := (.ref jl)) own_d14_172 rfl rfl rfl ?_
  refine g_new (pc' := 176) X61 hx hby hZ hown (hw _ (List.mem_of_getElem? (i := 143) rfl)) (hw _ (List.mem_of_getElem? (i := 24) rfl)) (hw _ (List.mem_of_getElem? (i := 25) rfl)) e61 own_d14_173 rfl (by decide) (by decide) ?_
  intro T62 h62 jw X62 e62 E62 A62 D62 q62
  have ne63 : ea ≠ jw := by rw [q62]; exact Nat.ne_of_lt f30.lt
  have ne64 : eb ≠ jw := by rw [q62]; exact Nat.ne_of_lt f36.lt
  have ne65 : jl ≠ jw := by rw [q62]; exact Nat.ne_of_lt p25_0.lt
  have ne66 : la ≠ jw := by rw [q62]; exact Nat.ne_of_lt f26.lt
  have ne67 : ra ≠ jw := by rw [q62]; exact Nat.ne_of_lt f32.lt
  have ne68 : rt ≠ jw := by rw [q62]; exact Nat.ne_of_lt p25_5.lt
  have ne69 : ta ≠ jw := by rw [q62]; exact Nat.ne_of_lt f29.lt
  have ne70 : tb ≠ jw := by rw [q62]; exact Nat.ne_of_lt f35.lt
  have ge62 : n0 ≤ jw := by rw [q62]; exact z25
  have kp62 : h0.size ≤ jw := by rw [q62]; exact K25.1
  have f71 := f26.ext E62
  have f72 := f27.ext E62
  have f73 := f28.ext E62
  have f74 := f29.ext E62
  have f75 := f30.ext E62
  have f76 := f31.ext E62
  have f77 := f32.ext E62
  have f78 := f33.ext E62
  have f79 := f34.ext E62
  have f80 := f35.ext E62
  have f81 := f36.ext E62
  have f82 := f37.ext E62
  have f83 := p25_0.ext E62
  have f84 := p25_1.ext E62
  have f85 := p25_2.ext E62
  have f86 := p25_3.ext E62
  have f87 := p25_5.ext E62
  have f88 := p25_6.ext E62
  have f89 : Fld Z h62 jw "com/example/rowcast/rowcast/JoinValue" "value" "D" (.double (0 : UInt64)) := D62 (Or.inr (hw _ (List.mem_of_getElem? (i := 31) rfl))) (ty := .double) own_fd0
  have f90 : Fld Z h62 jw "com/example/rowcast/rowcast/JoinValue" "left" "Lcom/example/rowcast/rowcast/Histogram$CountedEndpoint;" .null := D62 (Or.inr (hw _ (List.mem_of_getElem? (i := 33) rfl))) (ty := (.object "com/example/rowcast/rowcast/Histogram$CountedEndpoint")) own_fd2
  have f91 : Fld Z h62 jw "com/example/rowcast/rowcast/JoinValue" "right" "Lcom/example/rowcast/rowcast/Histogram$CountedEndpoint;" .null := D62 (Or.inr (hw _ (List.mem_of_getElem? (i := 35) rfl))) (ty := (.object "com/example/rowcast/rowcast/Histogram$CountedEndpoint")) own_fd2
  have z62 := Nat.le_trans z25 E62.1
  have K62 := K25.ext E62
  refine g_dup (pc' := 177) X62 hx hby own_d14_176 rfl rfl rfl ?_
  refine g_aload (pc' := 179) X62 hx hby (v := (.ref eb)) own_d14_177 rfl rfl rfl ?_
  refine g_virt (argsL := []) (pc' := 182) X62 hx hby (by rw [hml]; rfl) hZ hown e62 (own_rm21 l Z a0 hw [] eb vb h62 n0 z62 f82) (hw _ (List.mem_of_getElem? (i := 138) rfl)) (hw _ (List.mem_of_getElem? (i := 139) rfl)) (hw _ (List.mem_of_getElem? (i := 141) rfl)) (hw _ (List.mem_of_getElem? (i := 140) rfl)) (hw _ (List.mem_of_getElem? (i := 2) rfl)) (hw _ (List.mem_of_getElem? (i := 142) rfl)) (by decide) f81 own_pd9 rfl rfl (W := 3) rfl (by decide) (by decide) (by decide) (by decide) own_d14_179 rfl ?_
  intro T92 v92 L92 X92 qq92
  obtain ⟨rfl, n92, e92⟩ := qq92
  have N92 := Fr.app N61 n92
  show Gf p e below P T92 m 182 #[.val (.ref la), .val (.ref ra), .val (.ref jl), .val (.int (0 : Int32)), .val (.int (0 : Int32)), .val (.ref ea), .val (.ref eb)] [(.double vb), (.ref jw), (.ref jw), (.ref jl)]
  refine g_aconst_null (pc' := 183) X92 hx hby own_d14_182 rfl ?_
  refine g_aload (pc' := 185) X92 hx hby (v := (.ref eb)) own_d14_183 rfl rfl rfl ?_
  refine g_init (argsL := [(.double vb), .null, (.ref eb)]) (pc' := 188) X92 hx hby (by rw [hml]; rfl) hZ hown rfl e92 (own_rm4nr l Z a0 hw [] jw vb eb  h62 n0 z62 A62 f89 f90 f91 ge62) (hw _ (List.mem_of_getElem? (i := 144) rfl)) (hw _ (List.mem_of_getElem? (i := 27) rfl)) (hw _ (List.mem_of_getElem? (i := 25) rfl)) (hw _ (List.mem_of_getElem? (i := 28) rfl)) (by decide) own_pd10 rfl rfl (W := 2) rfl (by decide) (by decide) (by decide) (by decide) own_d14_185 rfl ?_
  intro T93 v93 L93 X93 qq93
  obtain ⟨h93, e93⟩ : ∃ h, T93.heap = h := ⟨_, rfl⟩
  rw [e93] at qq93
  obtain ⟨rfl, n93, k93, p93_0, p93_1, p93_2⟩ := qq93
  have f94 := f71.keep k93
  have f95 := f72.keep k93 (ninS ne66 nin0)
  have f96 := f73.keep k93 (ninS ne66 nin0)
  have f97 := f74.keep k93 (ninS ne69 nin0)
  have f98 := f75.keep k93
  have f99 := f76.keep k93 (ninS ne63 nin0)
  have f100 := f77.keep k93
  have f101 := f78.keep k93 (ninS ne67 nin0)
  have f102 := f79.keep k93 (ninS ne67 nin0)
  have f103 := f80.keep k93 (ninS ne70 nin0)
  have f104 := f81.keep k93
  have f105 := f82.keep k93 (ninS ne64 nin0)
  have f106 := f83.keep k93
  have f107 := f84.keep k93 (ninS ne65 nin0)
  have f108 := f85.keep k93 (ninS ne65 nin0)
  have f109 := f86.keep k93 (ninS ne65 nin0)
  have f110 := f87.keep k93
  have f111 := f88.keep k93 (ninS ne68 nin0)
  have f112 := A62.keep k93
  have z93 := Nat.le_trans z62 k93.1
  have K93 := K62.trans k93 (allS (Or.inr kp62) all0)
  have N93 := Fr.app N92 n93
  show Gf p e below P T93 m 188 #[.val (.ref la), .val (.ref ra), .val (.ref jl), .val (.int (0 : Int32)), .val (.int (0 : Int32)), .val (.ref ea), .val (.ref eb)] [(.ref jw), (.ref jl)]
  refine g_face (argsL := [(.ref jw)]) (pc' := 193) X93 hx hby (by rw [hml]; rfl) hZ hown e93 (own_rm9_0 l Z a0 hw [] jl jw rt kr (0 : Int32) h93 n0 z93 f106 f107 f108 f109 ge1 f111 ge42 f110 p25_7 (Ne.symm ne45) p93_0) (hw _ (List.mem_of_getElem? (i := 145) rfl)) (hw _ (List.mem_of_getElem? (i := 66) rfl)) (hw _ (List.mem_of_getElem? (i := 67) rfl)) rfl (hw _ (List.mem_of_getElem? (i := 68) rfl)) (hw _ (List.mem_of_getElem? (i := 69) rfl)) (hw _ (List.mem_of_getElem? (i := 70) rfl)) (hw _ (List.mem_of_getElem? (i := 71) rfl)) (hw _ (List.mem_of_getElem? (i := 72) rfl)) (hw _ (List.mem_of_getElem? (i := 43) rfl)) (hw _ (List.mem_of_getElem? (i := 73) rfl)) (by decide) f106 own_pd11 rfl rfl (W := 0) rfl (by decide) (by decide) (by decide) (by decide) own_d14_188 rfl ?_
  intro T116 v116 L116 X116 qq116
  obtain ⟨h116, e116⟩ : ∃ h, T116.heap = h := ⟨_, rfl⟩
  rw [e116] at qq116
  obtain ⟨rfl, n116, k116, p116_0, p116_1, p116_2, p116_3, p116_4⟩ := qq116
  have f117 := f94.keep k116
  have f118 := f95.keep k116 (ninS ne4 (ninS ne46 nin0))
  have f119 := f96.keep k116 (ninS ne4 (ninS ne46 nin0))
  have f120 := f97.keep k116 (ninS ne6 (ninS ne48 nin0))
  have f121 := f98.keep k116
  have f122 := f99.keep k116 (ninS ne2 (ninS ne43 nin0))
  have f123 := f100.keep k116
  have f124 := f101.keep k116 (ninS ne5 (ninS ne47 nin0))
  have f125 := f102.keep k116 (ninS ne5 (ninS ne47 nin0))
  have f126 := f103.keep k116 (ninS ne7 (ninS ne49 nin0))
  have f127 := f104.keep k116
  have f128 := f105.keep k116 (ninS ne3 (ninS ne44 nin0))
  have f129 := f106.keep k116
  have f133 := f110.keep k116
  have f135 := p93_0.keep k116
  have f136 := p93_1.keep k116 (ninS (Ne.symm ne65) (ninS (Ne.symm ne68) nin0))
  have f137 := p93_2.keep k116 (ninS (Ne.symm ne65) (ninS (Ne.symm ne68) nin0))
  have z116 := Nat.le_trans z93 k116.1
  have K116 := K93.trans k116 (allS (Or.inr kp1) (allS (Or.inr kp50) all0))
  have N116 := Fr.app N93 n116
  show Gf p e below P T116 m 193 #[.val (.ref la), .val (.ref ra), .val (.ref jl), .val (.int (0 : Int32)), .val (.int (0 : Int32)), .val (.ref ea), .val (.ref eb)] [(.int (1 : Int32))]
  refine g_pop (pc' := 194) X116 hx hby own_d14_193 rfl rfl rfl ?_
  refine g_iinc (pc' := 197) (Ls' := #[.val (.ref la), .val (.ref ra), .val (.ref jl), .val (.int (0 : Int32)), .val (.int (1 : Int32)), .val (.ref ea), .val (.ref eb)]) X116 hx hby own_d14_194 rfl rfl rfl ?_
  refine g_goto (pc' := 229) X116 hx hby own_d14_197 (by decide) (by decide) ?_
  refine g_goto (pc' := 26) X116 hx hby own_d14_229 (by decide) (by decide) ?_
  refine g_iloadN (pc' := 27) X116 hx hby (v := (0 : Int32)) own_d14_26 rfl rfl ?_
  refine g_aloadN (pc' := 28) X116 hx hby (v := (.ref la)) own_d14_27 rfl rfl rfl ?_
  refine g_face (argsL := []) (pc' := 33) X116 hx hby (by rw [hml]; rfl) hZ hown e116 (own_rm15 l Z a0 hw [] la (1 : Int32) h116 n0 z116 f118) (hw _ (List.mem_of_getElem? (i := 104) rfl)) (hw _ (List.mem_of_getElem? (i := 105) rfl)) (hw _ (List.mem_of_getElem? (i := 106) rfl)) rfl (hw _ (List.mem_of_getElem? (i := 107) rfl)) (hw _ (List.mem_of_getElem? (i := 108) rfl)) (hw _ (List.mem_of_getElem? (i := 109) rfl)) (hw _ (List.mem_of_getElem? (i := 110) rfl)) (hw _ (List.mem_of_getElem? (i := 72) rfl)) (hw _ (List.mem_of_getElem? (i := 43) rfl)) (hw _ (List.mem_of_getElem? (i := 111) rfl)) (by decide) f117 own_pd7 rfl rfl (W := 1) rfl (by decide) (by decide) (by decide) (by decide) own_d14_28 rfl ?_
  intro T138 v138 L138 X138 qq138
  obtain ⟨rfl, n138, e138⟩ := qq138
  have N138 := Fr.app N116 n138
  show Gf p e below P T138 m 33 #[.val (.ref la), .val (.ref ra), .val (.ref jl), .val (.int (0 : Int32)), .val (.int (1 : Int32)), .val (.ref ea), .val (.ref eb)] [(.int (1 : Int32)), (.int (0 : Int32))]
  refine g_icY (pc' := 47) X138 hx hby own_d14_33 rfl (tlt (by decide : (0 : Int32) < (1 : Int32))).1 (by decide) (by decide) ?_
  refine g_iloadN (pc' := 48) X138 hx hby (v := (0 : Int32)) own_d14_47 rfl rfl ?_
  refine g_aloadN (pc' := 49) X138 hx hby (v := (.ref la)) own_d14_48 rfl rfl rfl ?_
  refine g_face (argsL := []) (pc' := 54) X138 hx hby (by rw [hml]; rfl) hZ hown e138 (own_rm15 l Z a0 hw [] la (1 : Int32) h116 n0 z116 f118) (hw _ (List.mem_of_getElem? (i := 104) rfl)) (hw _ (List.mem_of_getElem? (i := 105) rfl)) (hw _ (List.mem_of_getElem? (i := 106) rfl)) rfl (hw _ (List.mem_of_getElem? (i := 107) rfl)) (hw _ (List.mem_of_getElem? (i := 108) rfl)) (hw _ (List.mem_of_getElem? (i := 109) rfl)) (hw _ (List.mem_of_getElem? (i := 110) rfl)) (hw _ (List.mem_of_getElem? (i := 72) rfl)) (hw _ (List.mem_of_getElem? (i := 43) rfl)) (hw _ (List.mem_of_getElem? (i := 111) rfl)) (by decide) f117 own_pd7 rfl rfl (W := 1) rfl (by decide) (by decide) (by decide) (by decide) own_d14_49 rfl ?_
  intro T139 v139 L139 X139 qq139
  obtain ⟨rfl, n139, e139⟩ := qq139
  have N139 := Fr.app N138 n139
  show Gf p e below P T139 m 54 #[.val (.ref la), .val (.ref ra), .val (.ref jl), .val (.int (0 : Int32)), .val (.int (1 : Int32)), .val (.ref ea), .val (.ref eb)] [(.int (1 : Int32)), (.int (0 : Int32))]
  refine g_icN (pc' := 57) X139 hx hby own_d14_54 rfl (tlt (by decide : (0 : Int32) < (1 : Int32))).2.1 rfl ?_
  refine g_aloadN (pc' := 58) X139 hx hby (v := (.ref la)) own_d14_57 rfl rfl rfl ?_
  refine g_iloadN (pc' := 59) X139 hx hby (v := (0 : Int32)) own_d14_58 rfl rfl ?_
  refine g_face (argsL := [(.int (0 : Int32))]) (pc' := 64) X139 hx hby (by rw [hml]; rfl) hZ hown e139 (own_rm17A l Z a0 hw [] la ta ka ea h116 n0 z116 f119 f120 f117 f118) (hw _ (List.mem_of_getElem? (i := 115) rfl)) (hw _ (List.mem_of_getElem? (i := 116) rfl)) (hw _ (List.mem_of_getElem? (i := 117) rfl)) rfl (hw _ (List.mem_of_getElem? (i := 118) rfl)) (hw _ (List.mem_of_getElem? (i := 119) rfl)) (hw _ (List.mem_of_getElem? (i := 120) rfl)) (hw _ (List.mem_of_getElem? (i := 121) rfl)) (hw _ (List.mem_of_getElem? (i := 72) rfl)) (hw _ (List.mem_of_getElem? (i := 43) rfl)) (hw _ (List.mem_of_getElem? (i := 122) rfl)) (by decide) f117 own_pd6 rfl rfl (W := 0) rfl (by decide) (by decide) (by decide) (by decide) own_d14_59 rfl ?_
  intro T140 v140 L140 X140 qq140
  obtain ⟨rfl, n140, e140⟩ := qq140
  have N140 := Fr.app N139 n140
  show Gf p e below P T140 m 64 #[.val (.ref la), .val (.ref ra), .val (.ref jl), .val (.int (0 : Int32)), .val (.int (1 : Int32)), .val (.ref ea), .val (.ref eb)] [(.ref ea)]
  refine g_cast (pc' := 67) X140 hx hby hZ hown (hw _ (List.mem_of_getElem? (i := 136) rfl)) e140 (Ins.of_exa f121 (hw _ (List.mem_of_getElem? (i := 137) rfl))) rfl own_d14_64 rfl ?_
  intro T141 X141 e141
  refine g_goto (pc' := 71) X141 hx hby own_d14_67 (by decide) (by decide) ?_
  refine g_astore (pc' := 73) (Ls' := #[.val (.ref la), .val (.ref ra), .val (.ref jl), .val (.int (0 : Int32)), .val (.int (1 : Int32)), .val (.ref ea), .val (.ref eb)]) X141 hx hby own_d14_71 rfl rfl rfl rfl ?_
  refine g_iload (pc' := 75) X141 hx hby (v := (1 : Int32)) own_d14_73 rfl rfl ?_
  refine g_aloadN (pc' := 76) X141 hx hby (v := (.ref ra)) own_d14_75 rfl rfl rfl ?_
  refine g_face (argsL := []) (pc' := 81) X141 hx hby (by rw [hml]; rfl) hZ hown e141 (own_rm15 l Z a0 hw [] ra (1 : Int32) h116 n0 z116 f124) (hw _ (List.mem_of_getElem? (i := 104) rfl)) (hw _ (List.mem_of_getElem? (i := 105) rfl)) (hw _ (List.mem_of_getElem? (i := 106) rfl)) rfl (hw _ (List.mem_of_getElem? (i := 107) rfl)) (hw _ (List.mem_of_getElem? (i := 108) rfl)) (hw _ (List.mem_of_getElem? (i := 109) rfl)) (hw _ (List.mem_of_getElem? (i := 110) rfl)) (hw _ (List.mem_of_getElem? (i := 72) rfl)) (hw _ (List.mem_of_getElem? (i := 43) rfl)) (hw _ (List.mem_of_getElem? (i := 111) rfl)) (by decide) f123 own_pd7 rfl rfl (W := 1) rfl (by decide) (by decide) (by decide) (by decide) own_d14_76 rfl ?_
  intro T142 v142 L142 X142 qq142
  obtain ⟨rfl, n142, e142⟩ := qq142
  have N142 := Fr.app N140 n142
  show Gf p e below P T142 m 81 #[.val (.ref la), .val (.ref ra), .val (.ref jl), .val (.int (0 : Int32)), .val (.int (1 : Int32)), .val (.ref ea), .val (.ref eb)] [(.int (1 : Int32)), (.int (1 : Int32))]
  refine g_icY (pc' := 98) X142 hx hby own_d14_81 rfl (flt (by decide : ¬ ((1 : Int32) < (1 : Int32)))).2.1 (by decide) (by decide) ?_
  refine g_aconst_null (pc' := 99) X142 hx hby own_d14_98 rfl ?_
  refine g_astore (pc' := 101) (Ls' := #[.val (.ref la), .val (.ref ra), .val (.ref jl), .val (.int (0 : Int32)), .val (.int (1 : Int32)), .val (.ref ea), .val .null]) X142 hx hby own_d14_99 rfl rfl rfl rfl ?_
  refine g_aload (pc' := 103) X142 hx hby (v := .null) own_d14_101 rfl rfl rfl ?_
  refine g_nullY (pc' := 125) X142 hx hby own_d14_103 rfl (by decide) (by decide) ?_
  refine g_aloadN (pc' := 126) X142 hx hby (v := (.ref jl)) own_d14_125 rfl rfl rfl ?_
  refine g_new (pc' := 129) X142 hx hby hZ hown (hw _ (List.mem_of_getElem? (i := 143) rfl)) (hw _ (List.mem_of_getElem? (i := 24) rfl)) (hw _ (List.mem_of_getElem? (i := 25) rfl)) e142 own_d14_126 rfl (by decide) (by decide) ?_
  intro T143 h143 jv X143 e143 E143 A143 D143 q143
  have ne144 : ea ≠ jv := by rw [q143]; exact Nat.ne_of_lt f121.lt
  have ne145 : eb ≠ jv := by rw [q143]; exact Nat.ne_of_lt f127.lt
  have ne146 : jl ≠ jv := by rw [q143]; exact Nat.ne_of_lt p116_0.lt
  have ne147 : jw ≠ jv := by rw [q143]; exact Nat.ne_of_lt f135.lt
  have ne148 : la ≠ jv := by rw [q143]; exact Nat.ne_of_lt f117.lt
  have ne149 : ra ≠ jv := by rw [q143]; exact Nat.ne_of_lt f123.lt
  have ne150 : rt ≠ jv := by rw [q143]; exact Nat.ne_of_lt f133.lt
  have ne151 : ta ≠ jv := by rw [q143]; exact Nat.ne_of_lt f120.lt
  have ne152 : tb ≠ jv := by rw [q143]; exact Nat.ne_of_lt f126.lt
  have ge143 : n0 ≤ jv := by rw [q143]; exact z116
  have kp143 : h0.size ≤ jv := by rw [q143]; exact K116.1
  have f153 := f117.ext E143
  have f154 := f118.ext E143
  have f155 := f119.ext E143
  have f156 := f120.ext E143
  have f157 := f121.ext E143
  have f158 := f122.ext E143
  have f159 := f123.ext E143
  have f160 := f124.ext E143
  have f161 := f125.ext E143
  have f162 := f126.ext E143
  have f163 := f127.ext E143
  have f164 := f128.ext E143
  have f165 := p116_0.ext E143
  have f166 := f133.ext E143
  have f167 := f135.ext E143
  have f168 := f136.ext E143
  have f169 := f137.ext E143
  have f170 := p116_1.ext E143
  have f171 := p116_2.ext E143
  have f172 := p116_3.ext E143
  have f173 := p116_4.ext E143
  have f174 : Fld Z h143 jv "com/example/rowcast/rowcast/JoinValue" "value" "D" (.double (0 : UInt64)) := D143 (Or.inr (hw _ (List.mem_of_getElem? (i := 31) rfl))) (ty := .double) own_fd0
  have f175 : Fld Z h143 jv "com/example/rowcast/rowcast/JoinValue" "left" "Lcom/example/rowcast/rowcast/Histogram$CountedEndpoint;" .null := D143 (Or.inr (hw _ (List.mem_of_getElem? (i := 33) rfl))) (ty := (.object "com/example/rowcast/rowcast/Histogram$CountedEndpoint")) own_fd2
  have f176 : Fld Z h143 jv "com/example/rowcast/rowcast/JoinValue" "right" "Lcom/example/rowcast/rowcast/Histogram$CountedEndpoint;" .null := D143 (Or.inr (hw _ (List.mem_of_getElem? (i := 35) rfl))) (ty := (.object "com/example/rowcast/rowcast/Histogram$CountedEndpoint")) own_fd2
  have z143 := Nat.le_trans z116 E143.1
  have K143 := K116.ext E143
  refine g_dup (pc' := 130) X143 hx hby own_d14_129 rfl rfl rfl ?_
  refine g_aload (pc' := 132) X143 hx hby (v := (.ref ea)) own_d14_130 rfl rfl rfl ?_
  refine g_virt (argsL := []) (pc' := 135) X143 hx hby (by rw [hml]; rfl) hZ hown e143 (own_rm21 l Z a0 hw [] ea va h143 n0 z143 f158) (hw _ (List.mem_of_getElem? (i := 138) rfl)) (hw _ (List.mem_of_getElem? (i := 139) rfl)) (hw _ (List.mem_of_getElem? (i := 141) rfl)) (hw _ (List.mem_of_getElem? (i := 140) rfl)) (hw _ (List.mem_of_getElem? (i := 2) rfl)) (hw _ (List.mem_of_getElem? (i := 142) rfl)) (by decide) f157 own_pd9 rfl rfl (W := 3) rfl (by decide) (by decide) (by decide) (by decide) own_d14_132 rfl ?_
  intro T177 v177 L177 X177 qq177
  obtain ⟨rfl, n177, e177⟩ := qq177
  have N177 := Fr.app N142 n177
  show Gf p e below P T177 m 135 #[.val (.ref la), .val (.ref ra), .val (.ref jl), .val (.int (0 : Int32)), .val (.int (1 : Int32)), .val (.ref ea), .val .null] [(.double va), (.ref jv), (.ref jv), (.ref jl)]
  refine g_aload (pc' := 137) X177 hx hby (v := (.ref ea)) own_d14_135 rfl rfl rfl ?_
  refine g_aconst_null (pc' := 138) X177 hx hby own_d14_137 rfl ?_
  refine g_init (argsL := [(.double va), (.ref ea), .null]) (pc' := 141) X177 hx hby (by rw [hml]; rfl) hZ hown rfl e177 (own_rm4ln l Z a0 hw [] jv va ea  h143 n0 z143 A143 f174 f175 f176 ge143) (hw _ (List.mem_of_getElem? (i := 144) rfl)) (hw _ (List.mem_of_getElem? (i := 27) rfl)) (hw _ (List.mem_of_getElem? (i := 25) rfl)) (hw _ (List.mem_of_getElem? (i := 28) rfl)) (by decide) own_pd10 rfl rfl (W := 2) rfl (by decide) (by decide) (by decide) (by decide) own_d14_138 rfl ?_
  intro T178 v178 L178 X178 qq178
  obtain ⟨h178, e178⟩ : ∃ h, T178.heap = h := ⟨_, rfl⟩
  rw [e178] at qq178
  obtain ⟨rfl, n178, k178, p178_0, p178_1, p178_2⟩ := qq178
  have f179 := f153.keep k178
  have f180 := f154.keep k178 (ninS ne148 nin0)
  have f181 := f155.keep k178 (ninS ne148 nin0)
  have f182 := f156.keep k178 (ninS ne151 nin0)
  have f183 := f157.keep k178
  have f184 := f158.keep k178 (ninS ne144 nin0)
  have f185 := f159.keep k178
  have f186 := f160.keep k178 (ninS ne149 nin0)
  have f187 := f161.keep k178 (ninS ne149 nin0)
  have f188 := f162.keep k178 (ninS ne152 nin0)
  have f189 := f163.keep k178
  have f190 := f164.keep k178 (ninS ne145 nin0)
  have f191 := f165.keep k178
  have f192 := f166.keep k178
  have f193 := f167.keep k178
  have f194 := f168.keep k178 (ninS ne147 nin0)
  have f195 := f169.keep k178 (ninS ne147 nin0)
  have f196 := f170.keep k178 (ninS ne146 nin0)
  have f197 := f171.keep k178 (ninS ne146 nin0)
  have f198 := f172.keep k178 (ninS ne146 nin0)
  have f199 := f173.keep k178 (ninS ne150 nin0)
  have f200 := A143.keep k178
  have z178 := Nat.le_trans z143 k178.1
  have K178 := K143.trans k178 (allS (Or.inr kp143) all0)
  have N178 := Fr.app N177 n178
  show Gf p e below P T178 m 141 #[.val (.ref la), .val (.ref ra), .val (.ref jl), .val (.int (0 : Int32)), .val (.int (1 : Int32)), .val (.ref ea), .val .null] [(.ref jv), (.ref jl)]
  refine g_face (argsL := [(.ref jv)]) (pc' := 146) X178 hx hby (by rw [hml]; rfl) hZ hown e178 (own_rm9_1 l Z a0 hw [] jl jv rt kr jw ((0 : Int32) + (1 : Int32)) h178 n0 z178 f191 f196 f197 f198 ge1 f199 ge42 f192 p25_7 (Ne.symm ne45) p178_0) (hw _ (List.mem_of_getElem? (i := 145) rfl)) (hw _ (List.mem_of_getElem? (i := 66) rfl)) (hw _ (List.mem_of_getElem? (i := 67) rfl)) rfl (hw _ (List.mem_of_getElem? (i := 68) rfl)) (hw _ (List.mem_of_getElem? (i := 69) rfl)) (hw _ (List.mem_of_getElem? (i := 70) rfl)) (hw _ (List.mem_of_getElem? (i := 71) rfl)) (hw _ (List.mem_of_getElem? (i := 72) rfl)) (hw _ (List.mem_of_getElem? (i := 43) rfl)) (hw _ (List.mem_of_getElem? (i := 73) rfl)) (by decide) f191 own_pd11 rfl rfl (W := 0) rfl (by decide) (by decide) (by decide) (by decide) own_d14_141 rfl ?_
  intro T204 v204 L204 X204 qq204
  obtain ⟨h204, e204⟩ : ∃ h, T204.heap = h := ⟨_, rfl⟩
  rw [e204] at qq204
  obtain ⟨rfl, n204, k204, p204_0, p204_1, p204_2, p204_3, p204_4⟩ := qq204
  have f205 := f179.keep k204
  have f206 := f180.keep k204 (ninS ne4 (ninS ne46 nin0))
  have f207 := f181.keep k204 (ninS ne4 (ninS ne46 nin0))
  have f208 := f182.keep k204 (ninS ne6 (ninS ne48 nin0))
  have f209 := f183.keep k204
  have f210 := f184.keep k204 (ninS ne2 (ninS ne43 nin0))
  have f211 := f185.keep k204
  have f212 := f186.keep k204 (ninS ne5 (ninS ne47 nin0))
  have f213 := f187.keep k204 (ninS ne5 (ninS ne47 nin0))
  have f214 := f188.keep k204 (ninS ne7 (ninS ne49 nin0))
  have f215 := f189.keep k204
  have f216 := f190.keep k204 (ninS ne3 (ninS ne44 nin0))
  have f217 := f191.keep k204
  have f218 := f192.keep k204
  have f219 := f193.keep k204
  have f220 := f194.keep k204 (ninS (Ne.symm ne65) (ninS (Ne.symm ne68) nin0))
  have f221 := f195.keep k204 (ninS (Ne.symm ne65) (ninS (Ne.symm ne68) nin0))
  have f226 := p178_0.keep k204
  have f227 := p178_1.keep k204 (ninS (Ne.symm ne146) (ninS (Ne.symm ne150) nin0))
  have f228 := p178_2.keep k204 (ninS (Ne.symm ne146) (ninS (Ne.symm ne150) nin0))
  have z204 := Nat.le_trans z178 k204.1
  have K204 := K178.trans k204 (allS (Or.inr kp1) (allS (Or.inr kp50) all0))
  have N204 := Fr.app N178 n204
  show Gf p e below P T204 m 146 #[.val (.ref la), .val (.ref ra), .val (.ref jl), .val (.int (0 : Int32)), .val (.int (1 : Int32)), .val (.ref ea), .val .null] [(.int (1 : Int32))]
  refine g_pop (pc' := 147) X204 hx hby own_d14_146 rfl rfl rfl ?_
  refine g_iinc (pc' := 150) (Ls' := #[.val (.ref la), .val (.ref ra), .val (.ref jl), .val (.int (1 : Int32)), .val (.int (1 : Int32)), .val (.ref ea), .val .null]) X204 hx hby own_d14_147 rfl rfl rfl ?_
  refine g_goto (pc' := 229) X204 hx hby own_d14_150 (by decide) (by decide) ?_
  refine g_goto (pc' := 26) X204 hx hby own_d14_229 (by decide) (by decide) ?_
  refine g_iloadN (pc' := 27) X204 hx hby (v := (1 : Int32)) own_d14_26 rfl rfl ?_
  refine g_aloadN (pc' := 28) X204 hx hby (v := (.ref la)) own_d14_27 rfl rfl rfl ?_
  refine g_face (argsL := []) (pc' := 33) X204 hx hby (by rw [hml]; rfl) hZ hown e204 (own_rm15 l Z a0 hw [] la (1 : Int32) h204 n0 z204 f206) (hw _ (List.mem_of_getElem? (i := 104) rfl)) (hw _ (List.mem_of_getElem? (i := 105) rfl)) (hw _ (List.mem_of_getElem? (i := 106) rfl)) rfl (hw _ (List.mem_of_getElem? (i := 107) rfl)) (hw _ (List.mem_of_getElem? (i := 108) rfl)) (hw _ (List.mem_of_getElem? (i := 109) rfl)) (hw _ (List.mem_of_getElem? (i := 110) rfl)) (hw _ (List.mem_of_getElem? (i := 72) rfl)) (hw _ (List.mem_of_getElem? (i := 43) rfl)) (hw _ (List.mem_of_getElem? (i := 111) rfl)) (by decide) f205 own_pd7 rfl rfl (W := 1) rfl (by decide) (by decide) (by decide) (by decide) own_d14_28 rfl ?_
  intro T229 v229 L229 X229 qq229
  obtain ⟨rfl, n229, e229⟩ := qq229
  have N229 := Fr.app N204 n229
  show Gf p e below P T229 m 33 #[.val (.ref la), .val (.ref ra), .val (.ref jl), .val (.int (1 : Int32)), .val (.int (1 : Int32)), .val (.ref ea), .val .null] [(.int (1 : Int32)), (.int (1 : Int32))]
  refine g_icN (pc' := 36) X229 hx hby own_d14_33 rfl (flt (by decide : ¬ ((1 : Int32) < (1 : Int32)))).1 rfl ?_
  refine g_iload (pc' := 38) X229 hx hby (v := (1 : Int32)) own_d14_36 rfl rfl ?_
  refine g_aloadN (pc' := 39) X229 hx hby (v := (.ref ra)) own_d14_38 rfl rfl rfl ?_
  refine g_face (argsL := []) (pc' := 44) X229 hx hby (by rw [hml]; rfl) hZ hown e229 (own_rm15 l Z a0 hw [] ra (1 : Int32) h204 n0 z204 f212) (hw _ (List.mem_of_getElem? (i := 104) rfl)) (hw _ (List.mem_of_getElem? (i := 105) rfl)) (hw _ (List.mem_of_getElem? (i := 106) rfl)) rfl (hw _ (List.mem_of_getElem? (i := 107) rfl)) (hw _ (List.mem_of_getElem? (i := 108) rfl)) (hw _ (List.mem_of_getElem? (i := 109) rfl)) (hw _ (List.mem_of_getElem? (i := 110) rfl)) (hw _ (List.mem_of_getElem? (i := 72) rfl)) (hw _ (List.mem_of_getElem? (i := 43) rfl)) (hw _ (List.mem_of_getElem? (i := 111) rfl)) (by decide) f211 own_pd7 rfl rfl (W := 1) rfl (by decide) (by decide) (by decide) (by decide) own_d14_39 rfl ?_
  intro T230 v230 L230 X230 qq230
  obtain ⟨rfl, n230, e230⟩ := qq230
  have N230 := Fr.app N229 n230
  show Gf p e below P T230 m 44 #[.val (.ref la), .val (.ref ra), .val (.ref jl), .val (.int (1 : Int32)), .val (.int (1 : Int32)), .val (.ref ea), .val .null] [(.int (1 : Int32)), (.int (1 : Int32))]
  refine g_icY (pc' := 232) X230 hx hby own_d14_44 rfl (flt (by decide : ¬ ((1 : Int32) < (1 : Int32)))).2.1 (by decide) (by decide) ?_
  refine g_aloadN (pc' := 233) X230 hx hby (v := (.ref jl)) own_d14_232 rfl rfl rfl ?_
  exact g_retV X230 hx hby hf hlk hret own_d14_233 rfl rfl (Or.inr (Or.inr (Or.inr (Or.inr ⟨rfl, rfl, rfl⟩)))) (by decide) (by decide) e230 ⟨jl, rt, kr, jw, jv, rfl, N230, K204, kp1, p204_0, p204_3, p204_2, p204_4, f219, f220, f221, f226, f227, f228⟩
theorem own_d14_200 : decode prog_32_method_2_code 200 = .ok (.aload_n 2, 1) := by decide +kernel
theorem own_d14_201 : decode prog_32_method_2_code 201 = .ok (.new 8, 3) := by decide +kernel
theorem own_d14_204 : decode prog_32_method_2_code 204 = .ok (.dup, 1) := by decide +kernel
theorem own_d14_205 : decode prog_32_method_2_code 205 = .ok (.aload 5, 2) := by decide +kernel
theorem own_d14_207 : decode prog_32_method_2_code 207 = .ok (.invokevirtual 37, 3) := by decide +kernel
theorem own_d14_210 : decode prog_32_method_2_code 210 = .ok (.aload 5, 2) := by decide +kernel
theorem own_d14_212 : decode prog_32_method_2_code 212 = .ok (.aload 6, 2) := by decide +kernel
theorem own_d14_214 : decode prog_32_method_2_code 214 = .ok (.invokespecial 40, 3) := by decide +kernel
theorem own_d14_217 : decode prog_32_method_2_code 217 = .ok (.invokeinterface 43 2, 5) := by decide +kernel
theorem own_d14_222 : decode prog_32_method_2_code 222 = .ok (.pop, 1) := by decide +kernel
theorem own_d14_223 : decode prog_32_method_2_code 223 = .ok (.iinc 3 1, 3) := by decide +kernel
theorem own_d14_226 : decode prog_32_method_2_code 226 = .ok (.iinc 4 1, 3) := by decide +kernel
def own_Q14eq (Z : State) (la : Addr) (ra : Addr) (ta : Addr) (ka : ClassId) (ea : Addr) (va : UInt64) (tb : Addr) (kb : ClassId) (eb : Addr) (vb : UInt64) (h0 : Heap) (n0 : Nat) (v : Option Value) (h : Heap) (L : List Loc) : Prop := ∃ (r : Addr), ∃ (t : Addr), ∃ (kt : ClassId), ∃ (j1 : Addr), v = some (.ref r) ∧ Fr n0 L ∧ Keep h0 h [] ∧ h0.size ≤ r ∧ Exa Z h r "java/util/ArrayList" ∧ Fld Z h r "java/util/ArrayList" "size" "I" (.int (1 : Int32)) ∧ Fld Z h r "java/util/ArrayList" "elementData" "[Ljava/lang/Object;" (.ref t) ∧ Arv Z h t kt (.object "java/lang/Object") (2 : Int32) [(.ref j1), .null] .null ∧ Exa Z h j1 "com/example/rowcast/rowcast/JoinValue" ∧ Fld Z h j1 "com/example/rowcast/rowcast/JoinValue" "left" "Lcom/example/rowcast/rowcast/Histogram$CountedEndpoint;" (.ref ea) ∧ Fld Z h j1 "com/example/rowcast/rowcast/JoinValue" "right" "Lcom/example/rowcast/rowcast/Histogram$CountedEndpoint;" (.ref eb)
set_option maxRecDepth 65536 in
set_option maxHeartbeats 40000000 in
theorem own_rm14eq (l : Launch) (Z : State) (a0 : Array Value) (hw : ∀ d ∈ tables_1, d.before a0 Z = true) (ws : List Jvm.Cond) (la : Addr) (ra : Addr) (ta : Addr) (ka : ClassId) (ea : Addr) (va : UInt64) (tb : Addr) (kb : ClassId) (eb : Addr) (vb : UInt64) (h0 : Heap) (n0 : Nat) (Z0 : n0 ≤ h0.size) (c0 : Exa Z h0 la "java/util/ArrayList") (c1 : Fld Z h0 la "java/util/ArrayList" "size" "I" (.int (1 : Int32))) (c2 : Fld Z h0 la "java/util/ArrayList" "elementData" "[Ljava/lang/Object;" (.ref ta)) (c3 : Arv Z h0 ta ka (.object "java/lang/Object") (10 : Int32) [(.ref ea), .null, .null, .null, .null, .null, .null, .null, .null, .null] .null) (c4 : Exa Z h0 ea "com/example/rowcast/rowcast/Histogram$CountedEndpoint") (c5 : Fld Z h0 ea "com/example/rowcast/rowcast/Histogram$CountedEndpoint" "value" "D" (.double va)) (c6 : Exa Z h0 ra "java/util/ArrayList") (c7 : Fld Z h0 ra "java/util/ArrayList" "size" "I" (.int (1 : Int32))) (c8 : Fld Z h0 ra "java/util/ArrayList" "elementData" "[Ljava/lang/Object;" (.ref tb)) (c9 : Arv Z h0 tb kb (.object "java/lang/Object") (10 : Int32) [(.ref eb), .null, .null, .null, .null, .null, .null, .null, .null, .null] .null) (c10 : Exa Z h0 eb "com/example/rowcast/rowcast/Histogram$CountedEndpoint") (c11 : Fld Z h0 eb "com/example/rowcast/rowcast/Histogram$CountedEndpoint" "value" "D" (.double vb)) (hlt : ¬ (cmpValue (FP.dcmp va vb) .g < (0 : Int32))) (hgt : ¬ (cmpValue (FP.dcmp vb va) .g < (0 : Int32))) :
    Con l Z (⟨"com/example/rowcast/rowcast/JoinValue", "joinHistogram", "(Ljava/util/List;Ljava/util/List;)Ljava/util/List;"⟩ : MethodName) prog_32_method_2_code 7 (some (.object "java/util/List")) ws ({ frames := 4, cells := 3, slots := 8, locals := 50 } : Room) #[(.ref la), (.ref ra)] h0 (own_Q14eq Z la ra ta ka ea va tb kb eb vb h0 n0) := by
  refine Con.start #[.val (.ref la), .val (.ref ra), .unset, .unset, .unset, .unset, .unset] (plainFor_of_name own_pn2) (fun m => by first | (refine own_ef ?_; exact rfl) | (simp [entryFrame, mkF, argsToLocals, Value.category]; done) | rfl) ?_
  intro p e s m below meth c s₁ P X0 hx hby hml hret hlk hown hnm hZ e0 hf
  have hml : c.maxLocals = 7 := hml
  have N0 := Fr.nil n0
  have K0 : Keep h0 h0 [] := Keep.refl _ _
  refine g_new (pc' := 3) X0 hx hby hZ hown (hw _ (List.mem_of_getElem? (i := 103) rfl)) (hw _ (List.mem_of_getElem? (i := 42) rfl)) (hw _ (List.mem_of_getElem? (i := 43) rfl)) e0 own_d14_0 rfl (by decide) (by decide) ?_
  intro T1 h1 jl X1 e1 E1 A1 D1 q1
  have ne2 : ea ≠ jl := by rw [q1]; exact Nat.ne_of_lt c4.lt
  have ne3 : eb ≠ jl := by rw [q1]; exact Nat.ne_of_lt c10.lt
  have ne4 : la ≠ jl := by rw [q1]; exact Nat.ne_of_lt c0.lt
  have ne5 : ra ≠ jl := by rw [q1]; exact Nat.ne_of_lt c6.lt
  have ne6 : ta ≠ jl := by rw [q1]; exact Nat.ne_of_lt c3.lt
  have ne7 : tb ≠ jl := by rw [q1]; exact Nat.ne_of_lt c9.lt
  have ge1 : n0 ≤ jl := by rw [q1]; exact Z0
  have kp1 : h0.size ≤ jl := by rw [q1]; exact K0.1
  have f8 := c0.ext E1
  have f9 := c1.ext E1
  have f10 := c2.ext E1
  have f11 := c3.ext E1
  have f12 := c4.ext E1
  have f13 := c5.ext E1
  have f14 := c6.ext E1
  have f15 := c7.ext E1
  have f16 := c8.ext E1
  have f17 := c9.ext E1
  have f18 := c10.ext E1
  have f19 := c11.ext E1
  have f20 : Fld Z h1 jl "java/util/AbstractList" "modCount" "I" (.int (0 : Int32)) := D1 (Or.inl (hw _ (List.mem_of_getElem? (i := 61) rfl))) (ty := .int) own_fd3
  have f21 : Fld Z h1 jl "java/util/ArrayList" "elementData" "[Ljava/lang/Object;" .null := D1 (Or.inl (hw _ (List.mem_of_getElem? (i := 64) rfl))) (ty := (.array (.object "java/lang/Object"))) own_fd4
  have f22 : Fld Z h1 jl "java/util/ArrayList" "size" "I" (.int (0 : Int32)) := D1 (Or.inl (hw _ (List.mem_of_getElem? (i := 77) rfl))) (ty := .int) own_fd3
  have z1 := Nat.le_trans Z0 E1.1
  have K1 := K0.ext E1
  refine g_dup (pc' := 4) X1 hx hby own_d14_3 rfl rfl rfl ?_
  refine g_aloadN (pc' := 5) X1 hx hby (v := (.ref la)) own_d14_4 rfl rfl rfl ?_
  refine g_face (argsL := []) (pc' := 10) X1 hx hby (by rw [hml]; rfl) hZ hown e1 (own_rm15 l Z a0 hw [] la (1 : Int32) h1 n0 z1 f9) (hw _ (List.mem_of_getElem? (i := 104) rfl)) (hw _ (List.mem_of_getElem? (i := 105) rfl)) (hw _ (List.mem_of_getElem? (i := 106) rfl)) rfl (hw _ (List.mem_of_getElem? (i := 107) rfl)) (hw _ (List.mem_of_getElem? (i := 108) rfl)) (hw _ (List.mem_of_getElem? (i := 109) rfl)) (hw _ (List.mem_of_getElem? (i := 110) rfl)) (hw _ (List.mem_of_getElem? (i := 72) rfl)) (hw _ (List.mem_of_getElem? (i := 43) rfl)) (hw _ (List.mem_of_getElem? (i := 111) rfl)) (by decide) f8 own_pd7 rfl rfl (W := 2) rfl (by decide) (by decide) (by decide) (by decide) own_d14_5 rfl ?_
  intro T23 v23 L23 X23 qq23
  obtain ⟨rfl, n23, e23⟩ := qq23
  have N23 := Fr.app N0 n23
  show Gf p e below P T23 m 10 #[.val (.ref la), .val (.ref ra), .unset, .unset, .unset, .unset, .unset] [(.int (1 : Int32)), (.ref jl), (.ref jl)]
  refine g_aloadN (pc' := 11) X23 hx hby (v := (.ref ra)) own_d14_10 rfl rfl rfl ?_
  refine g_face (argsL := []) (pc' := 16) X23 hx hby (by rw [hml]; rfl) hZ hown e23 (own_rm15 l Z a0 hw [] ra (1 : Int32) h1 n0 z1 f15) (hw _ (List.mem_of_getElem? (i := 104) rfl)) (hw _ (List.mem_of_getElem? (i := 105) rfl)) (hw _ (List.mem_of_getElem? (i := 106) rfl)) rfl (hw _ (List.mem_of_getElem? (i := 107) rfl)) (hw _ (List.mem_of_getElem? (i := 108) rfl)) (hw _ (List.mem_of_getElem? (i := 109) rfl)) (hw _ (List.mem_of_getElem? (i := 110) rfl)) (hw _ (List.mem_of_getElem? (i := 72) rfl)) (hw _ (List.mem_of_getElem? (i := 43) rfl)) (hw _ (List.mem_of_getElem? (i := 111) rfl)) (by decide) f14 own_pd7 rfl rfl (W := 3) rfl (by decide) (by decide) (by decide) (by decide) own_d14_11 rfl ?_
  intro T24 v24 L24 X24 qq24
  obtain ⟨rfl, n24, e24⟩ := qq24
  have N24 := Fr.app N23 n24
  show Gf p e below P T24 m 16 #[.val (.ref la), .val (.ref ra), .unset, .unset, .unset, .unset, .unset] [(.int (1 : Int32)), (.int (1 : Int32)), (.ref jl), (.ref jl)]
  refine g_iadd (pc' := 17) (v := (2 : Int32)) X24 hx hby own_d14_16 rfl rfl rfl ?_
  refine g_init (argsL := [(.int (2 : Int32))]) (pc' := 20) X24 hx hby (by rw [hml]; rfl) hZ hown rfl e24 (own_rm16_2 l Z a0 hw [] jl  h1 n0 z1 A1 f20 f21 f22 ge1) (hw _ (List.mem_of_getElem? (i := 112) rfl)) (hw _ (List.mem_of_getElem? (i := 113) rfl)) (hw _ (List.mem_of_getElem? (i := 43) rfl)) (hw _ (List.mem_of_getElem? (i := 114) rfl)) (by decide) own_pd8 rfl rfl (W := 1) rfl (by decide) (by decide) (by decide) (by decide) own_d14_17 rfl ?_
  intro T25 v25 L25 X25 qq25
  obtain ⟨h25, e25⟩ : ∃ h, T25.heap = h := ⟨_, rfl⟩
  rw [e25] at qq25
  obtain ⟨rt, kr, rfl, n25, k25, p25_0, p25_1, p25_2, p25_3, p25_4, p25_5, p25_6, p25_7⟩ := qq25
  have f26 := f8.keep k25
  have f27 := f9.keep k25 (ninS ne4 nin0)
  have f28 := f10.keep k25 (ninS ne4 nin0)
  have f29 := f11.keep k25 (ninS ne6 nin0)
  have f30 := f12.keep k25
  have f31 := f13.keep k25 (ninS ne2 nin0)
  have f32 := f14.keep k25
  have f33 := f15.keep k25 (ninS ne5 nin0)
  have f34 := f16.keep k25 (ninS ne5 nin0)
  have f35 := f17.keep k25 (ninS ne7 nin0)
  have f36 := f18.keep k25
  have f37 := f19.keep k25 (ninS ne3 nin0)
  have f38 := A1.keep k25
  have ge42 : n0 ≤ rt := Nat.le_trans z1 p25_4
  have ne43 : ea ≠ rt := Nat.ne_of_lt (Nat.lt_of_lt_of_le f12.lt p25_4)
  have ne44 : eb ≠ rt := Nat.ne_of_lt (Nat.lt_of_lt_of_le f18.lt p25_4)
  have ne45 : jl ≠ rt := Nat.ne_of_lt (Nat.lt_of_lt_of_le A1.lt p25_4)
  have ne46 : la ≠ rt := Nat.ne_of_lt (Nat.lt_of_lt_of_le f8.lt p25_4)
  have ne47 : ra ≠ rt := Nat.ne_of_lt (Nat.lt_of_lt_of_le f14.lt p25_4)
  have ne48 : ta ≠ rt := Nat.ne_of_lt (Nat.lt_of_lt_of_le f11.lt p25_4)
  have ne49 : tb ≠ rt := Nat.ne_of_lt (Nat.lt_of_lt_of_le f17.lt p25_4)
  have kp50 : h0.size ≤ rt := Nat.le_trans K1.1 p25_4
  have z25 := Nat.le_trans z1 k25.1
  have K25 := K1.trans k25 (allS (Or.inr kp1) all0)
  have N25 := Fr.app N24 n25
  show Gf p e below P T25 m 20 #[.val (.ref la), .val (.ref ra), .unset, .unset, .unset, .unset, .unset] [(.ref jl)]
  refine g_astoreN (pc' := 21) (Ls' := #[.val (.ref la), .val (.ref ra), .val (.ref jl), .unset, .unset, .unset, .unset]) X25 hx hby own_d14_20 rfl rfl rfl rfl ?_
  refine g_iconst (pc' := 22) (v := (0 : Int32)) X25 hx hby own_d14_21 rfl rfl ?_
  refine g_istoreN (pc' := 23) (Ls' := #[.val (.ref la), .val (.ref ra), .val (.ref jl), .val (.int (0 : Int32)), .unset, .unset, .unset]) X25 hx hby own_d14_22 rfl rfl rfl ?_
  refine g_iconst (pc' := 24) (v := (0 : Int32)) X25 hx hby own_d14_23 rfl rfl ?_
  refine g_istore (pc' := 26) (Ls' := #[.val (.ref la), .val (.ref ra), .val (.ref jl), .val (.int (0 : Int32)), .val (.int (0 : Int32)), .unset, .unset]) X25 hx hby own_d14_24 rfl rfl rfl ?_
  refine g_iloadN (pc' := 27) X25 hx hby (v := (0 : Int32)) own_d14_26 rfl rfl ?_
  refine g_aloadN (pc' := 28) X25 hx hby (v := (.ref la)) own_d14_27 rfl rfl rfl ?_
  refine g_face (argsL := []) (pc' := 33) X25 hx hby (by rw [hml]; rfl) hZ hown e25 (own_rm15 l Z a0 hw [] la (1 : Int32) h25 n0 z25 f27) (hw _ (List.mem_of_getElem? (i := 104) rfl)) (hw _ (List.mem_of_getElem? (i := 105) rfl)) (hw _ (List.mem_of_getElem? (i := 106) rfl)) rfl (hw _ (List.mem_of_getElem? (i := 107) rfl)) (hw _ (List.mem_of_getElem? (i := 108) rfl)) (hw _ (List.mem_of_getElem? (i := 109) rfl)) (hw _ (List.mem_of_getElem? (i := 110) rfl)) (hw _ (List.mem_of_getElem? (i := 72) rfl)) (hw _ (List.mem_of_getElem? (i := 43) rfl)) (hw _ (List.mem_of_getElem? (i := 111) rfl)) (by decide) f26 own_pd7 rfl rfl (W := 1) rfl (by decide) (by decide) (by decide) (by decide) own_d14_28 rfl ?_
  intro T51 v51 L51 X51 qq51
  obtain ⟨rfl, n51, e51⟩ := qq51
  have N51 := Fr.app N25 n51
  show Gf p e below P T51 m 33 #[.val (.ref la), .val (.ref ra), .val (.ref jl), .val (.int (0 : Int32)), .val (.int (0 : Int32)), .unset, .unset] [(.int (1 : Int32)), (.int (0 : Int32))]
  refine g_icY (pc' := 47) X51 hx hby own_d14_33 rfl (tlt (by decide : (0 : Int32) < (1 : Int32))).1 (by decide) (by decide) ?_
  refine g_iloadN (pc' := 48) X51 hx hby (v := (0 : Int32)) own_d14_47 rfl rfl ?_
  refine g_aloadN (pc' := 49) X51 hx hby (v := (.ref la)) own_d14_48 rfl rfl rfl ?_
  refine g_face (argsL := []) (pc' := 54) X51 hx hby (by rw [hml]; rfl) hZ hown e51 (own_rm15 l Z a0 hw [] la (1 : Int32) h25 n0 z25 f27) (hw _ (List.mem_of_getElem? (i := 104) rfl)) (hw _ (List.mem_of_getElem? (i := 105) rfl)) (hw _ (List.mem_of_getElem? (i := 106) rfl)) rfl (hw _ (List.mem_of_getElem? (i := 107) rfl)) (hw _ (List.mem_of_getElem? (i := 108) rfl)) (hw _ (List.mem_of_getElem? (i := 109) rfl)) (hw _ (List.mem_of_getElem? (i := 110) rfl)) (hw _ (List.mem_of_getElem? (i := 72) rfl)) (hw _ (List.mem_of_getElem? (i := 43) rfl)) (hw _ (List.mem_of_getElem? (i := 111) rfl)) (by decide) f26 own_pd7 rfl rfl (W := 1) rfl (by decide) (by decide) (by decide) (by decide) own_d14_49 rfl ?_
  intro T52 v52 L52 X52 qq52
  obtain ⟨rfl, n52, e52⟩ := qq52
  have N52 := Fr.app N51 n52
  show Gf p e below P T52 m 54 #[.val (.ref la), .val (.ref ra), .val (.ref jl), .val (.int (0 : Int32)), .val (.int (0 : Int32)), .unset, .unset] [(.int (1 : Int32)), (.int (0 : Int32))]
  refine g_icN (pc' := 57) X52 hx hby own_d14_54 rfl (tlt (by decide : (0 : Int32) < (1 : Int32))).2.1 rfl ?_
  refine g_aloadN (pc' := 58) X52 hx hby (v := (.ref la)) own_d14_57 rfl rfl rfl ?_
  refine g_iloadN (pc' := 59) X52 hx hby (v := (0 : Int32)) own_d14_58 rfl rfl ?_
  refine g_face (argsL := [(.int (0 : Int32))]) (pc' := 64) X52 hx hby (by rw [hml]; rfl) hZ hown e52 (own_rm17A l Z a0 hw [] la ta ka ea h25 n0 z25 f28 f29 f26 f27) (hw _ (List.mem_of_getElem? (i := 115) rfl)) (hw _ (List.mem_of_getElem? (i := 116) rfl)) (hw _ (List.mem_of_getElem? (i := 117) rfl)) rfl (hw _ (List.mem_of_getElem? (i := 118) rfl)) (hw _ (List.mem_of_getElem? (i := 119) rfl)) (hw _ (List.mem_of_getElem? (i := 120) rfl)) (hw _ (List.mem_of_getElem? (i := 121) rfl)) (hw _ (List.mem_of_getElem? (i := 72) rfl)) (hw _ (List.mem_of_getElem? (i := 43) rfl)) (hw _ (List.mem_of_getElem? (i := 122) rfl)) (by decide) f26 own_pd6 rfl rfl (W := 0) rfl (by decide) (by decide) (by decide) (by decide) own_d14_59 rfl ?_
  intro T53 v53 L53 X53 qq53
  obtain ⟨rfl, n53, e53⟩ := qq53
  have N53 := Fr.app N52 n53
  show Gf p e below P T53 m 64 #[.val (.ref la), .val (.ref ra), .val (.ref jl), .val (.int (0 : Int32)), .val (.int (0 : Int32)), .unset, .unset] [(.ref ea)]
  refine g_cast (pc' := 67) X53 hx hby hZ hown (hw _ (List.mem_of_getElem? (i := 136) rfl)) e53 (Ins.of_exa f30 (hw _ (List.mem_of_getElem? (i := 137) rfl))) rfl own_d14_64 rfl ?_
  intro T54 X54 e54
  refine g_goto (pc' := 71) X54 hx hby own_d14_67 (by decide) (by decide) ?_
  refine g_astore (pc' := 73) (Ls' := #[.val (.ref la), .val (.ref ra), .val (.ref jl), .val (.int (0 : Int32)), .val (.int (0 : Int32)), .val (.ref ea), .unset]) X54 hx hby own_d14_71 rfl rfl rfl rfl ?_
  refine g_iload (pc' := 75) X54 hx hby (v := (0 : Int32)) own_d14_73 rfl rfl ?_
  refine g_aloadN (pc' := 76) X54 hx hby (v := (.ref ra)) own_d14_75 rfl rfl rfl ?_
  refine g_face (argsL := []) (pc' := 81) X54 hx hby (by rw [hml]; rfl) hZ hown e54 (own_rm15 l Z a0 hw [] ra (1 : Int32) h25 n0 z25 f33) (hw _ (List.mem_of_getElem? (i := 104) rfl)) (hw _ (List.mem_of_getElem? (i := 105) rfl)) (hw _ (List.mem_of_getElem? (i := 106) rfl)) rfl (hw _ (List.mem_of_getElem? (i := 107) rfl)) (hw _ (List.mem_of_getElem? (i := 108) rfl)) (hw _ (List.mem_of_getElem? (i := 109) rfl)) (hw _ (List.mem_of_getElem? (i := 110) rfl)) (hw _ (List.mem_of_getElem? (i := 72) rfl)) (hw _ (List.mem_of_getElem? (i := 43) rfl)) (hw _ (List.mem_of_getElem? (i := 111) rfl)) (by decide) f32 own_pd7 rfl rfl (W := 1) rfl (by decide) (by decide) (by decide) (by decide) own_d14_76 rfl ?_
  intro T55 v55 L55 X55 qq55
  obtain ⟨rfl, n55, e55⟩ := qq55
  have N55 := Fr.app N53 n55
  show Gf p e below P T55 m 81 #[.val (.ref la), .val (.ref ra), .val (.ref jl), .val (.int (0 : Int32)), .val (.int (0 : Int32)), .val (.ref ea), .unset] [(.int (1 : Int32)), (.int (0 : Int32))]
  refine g_icN (pc' := 84) X55 hx hby own_d14_81 rfl (tlt (by decide : (0 : Int32) < (1 : Int32))).2.1 rfl ?_
  refine g_aloadN (pc' := 85) X55 hx hby (v := (.ref ra)) own_d14_84 rfl rfl rfl ?_
  refine g_iload (pc' := 87) X55 hx hby (v := (0 : Int32)) own_d14_85 rfl rfl ?_
  refine g_face (argsL := [(.int (0 : Int32))]) (pc' := 92) X55 hx hby (by rw [hml]; rfl) hZ hown e55 (own_rm17A l Z a0 hw [] ra tb kb eb h25 n0 z25 f34 f35 f32 f33) (hw _ (List.mem_of_getElem? (i := 115) rfl)) (hw _ (List.mem_of_getElem? (i := 116) rfl)) (hw _ (List.mem_of_getElem? (i := 117) rfl)) rfl (hw _ (List.mem_of_getElem? (i := 118) rfl)) (hw _ (List.mem_of_getElem? (i := 119) rfl)) (hw _ (List.mem_of_getElem? (i := 120) rfl)) (hw _ (List.mem_of_getElem? (i := 121) rfl)) (hw _ (List.mem_of_getElem? (i := 72) rfl)) (hw _ (List.mem_of_getElem? (i := 43) rfl)) (hw _ (List.mem_of_getElem? (i := 122) rfl)) (by decide) f32 own_pd6 rfl rfl (W := 0) rfl (by decide) (by decide) (by decide) (by decide) own_d14_87 rfl ?_
  intro T56 v56 L56 X56 qq56
  obtain ⟨rfl, n56, e56⟩ := qq56
  have N56 := Fr.app N55 n56
  show Gf p e below P T56 m 92 #[.val (.ref la), .val (.ref ra), .val (.ref jl), .val (.int (0 : Int32)), .val (.int (0 : Int32)), .val (.ref ea), .unset] [(.ref eb)]
  refine g_cast (pc' := 95) X56 hx hby hZ hown (hw _ (List.mem_of_getElem? (i := 136) rfl)) e56 (Ins.of_exa f36 (hw _ (List.mem_of_getElem? (i := 137) rfl))) rfl own_d14_92 rfl ?_
  intro T57 X57 e57
  refine g_goto (pc' := 99) X57 hx hby own_d14_95 (by decide) (by decide) ?_
  refine g_astore (pc' := 101) (Ls' := #[.val (.ref la), .val (.ref ra), .val (.ref jl), .val (.int (0 : Int32)), .val (.int (0 : Int32)), .val (.ref ea), .val (.ref eb)]) X57 hx hby own_d14_99 rfl rfl rfl rfl ?_
  refine g_aload (pc' := 103) X57 hx hby (v := (.ref eb)) own_d14_101 rfl rfl rfl ?_
  refine g_nullN (pc' := 106) X57 hx hby own_d14_103 rfl rfl ?_
  refine g_aload (pc' := 108) X57 hx hby (v := (.ref ea)) own_d14_106 rfl rfl rfl ?_
  refine g_nullN (pc' := 111) X57 hx hby own_d14_108 rfl rfl ?_
  refine g_aload (pc' := 113) X57 hx hby (v := (.ref ea)) own_d14_111 rfl rfl rfl ?_
  refine g_virt (argsL := []) (pc' := 116) X57 hx hby (by rw [hml]; rfl) hZ hown e57 (own_rm21 l Z a0 hw [] ea va h25 n0 z25 f31) (hw _ (List.mem_of_getElem? (i := 138) rfl)) (hw _ (List.mem_of_getElem? (i := 139) rfl)) (hw _ (List.mem_of_getElem? (i := 141) rfl)) (hw _ (List.mem_of_getElem? (i := 140) rfl)) (hw _ (List.mem_of_getElem? (i := 2) rfl)) (hw _ (List.mem_of_getElem? (i := 142) rfl)) (by decide) f30 own_pd9 rfl rfl (W := 0) rfl (by decide) (by decide) (by decide) (by decide) own_d14_113 rfl ?_
  intro T58 v58 L58 X58 qq58
  obtain ⟨rfl, n58, e58⟩ := qq58
  have N58 := Fr.app N56 n58
  show Gf p e below P T58 m 116 #[.val (.ref la), .val (.ref ra), .val (.ref jl), .val (.int (0 : Int32)), .val (.int (0 : Int32)), .val (.ref ea), .val (.ref eb)] [(.double va)]
  refine g_aload (pc' := 118) X58 hx hby (v := (.ref eb)) own_d14_116 rfl rfl rfl ?_
  refine g_virt (argsL := []) (pc' := 121) X58 hx hby (by rw [hml]; rfl) hZ hown e58 (own_rm21 l Z a0 hw [] eb vb h25 n0 z25 f37) (hw _ (List.mem_of_getElem? (i := 138) rfl)) (hw _ (List.mem_of_getElem? (i := 139) rfl)) (hw _ (List.mem_of_getElem? (i := 141) rfl)) (hw _ (List.mem_of_getElem? (i := 140) rfl)) (hw _ (List.mem_of_getElem? (i := 2) rfl)) (hw _ (List.mem_of_getElem? (i := 142) rfl)) (by decide) f36 own_pd9 rfl rfl (W := 2) rfl (by decide) (by decide) (by decide) (by decide) own_d14_118 rfl ?_
  intro T59 v59 L59 X59 qq59
  obtain ⟨rfl, n59, e59⟩ := qq59
  have N59 := Fr.app N58 n59
  show Gf p e below P T59 m 121 #[.val (.ref la), .val (.ref ra), .val (.ref jl), .val (.int (0 : Int32)), .val (.int (0 : Int32)), .val (.ref ea), .val (.ref eb)] [(.double vb), (.double va)]
  refine g_dcmp (pc' := 122) (v := (cmpValue (FP.dcmp va vb) .g)) X59 hx hby own_d14_121 rfl rfl rfl ?_
  refine g_ifY (pc' := 153) X59 hx hby own_d14_122 rfl (flt (hlt : ¬ ((cmpValue (FP.dcmp va vb) .g) < (0 : Int32)))).2.1 (by decide) (by decide) ?_
  refine g_aload (pc' := 155) X59 hx hby (v := (.ref ea)) own_d14_153 rfl rfl rfl ?_
  refine g_nullN (pc' := 158) X59 hx hby own_d14_155 rfl rfl ?_
  refine g_aload (pc' := 160) X59 hx hby (v := (.ref eb)) own_d14_158 rfl rfl rfl ?_
  refine g_virt (argsL := []) (pc' := 163) X59 hx hby (by rw [hml]; rfl) hZ hown e59 (own_rm21 l Z a0 hw [] eb vb h25 n0 z25 f37) (hw _ (List.mem_of_getElem? (i := 138) rfl)) (hw _ (List.mem_of_getElem? (i := 139) rfl)) (hw _ (List.mem_of_getElem? (i := 141) rfl)) (hw _ (List.mem_of_getElem? (i := 140) rfl)) (hw _ (List.mem_of_getElem? (i := 2) rfl)) (hw _ (List.mem_of_getElem? (i := 142) rfl)) (by decide) f36 own_pd9 rfl rfl (W := 0) rfl (by decide) (by decide) (by decide) (by decide) own_d14_160 rfl ?_
  intro T60 v60 L60 X60 qq60
  obtain ⟨rfl, n60, e60⟩ := qq60
  have N60 := Fr.app N59 n60
  show Gf p e below P T60 m 163 #[.val (.ref la), .val (.ref ra), .val (.ref jl), .val (.int (0 : Int32)), .val (.int (0 : Int32)), .val (.ref ea), .val (.ref eb)] [(.double vb)]
  refine g_aload (pc' := 165) X60 hx hby (v := (.ref ea)) own_d14_163 rfl rfl rfl ?_
  refine g_virt (argsL := []) (pc' := 168) X60 hx hby (by rw [hml]; rfl) hZ hown e60 (own_rm21 l Z a0 hw [] ea va h25 n0 z25 f31) (hw _ (List.mem_of_getElem? (i := 138) rfl)) (hw _ (List.mem_of_getElem? (i := 139) rfl)) (hw _ (List.mem_of_getElem? (i := 141) rfl)) (hw _ (List.mem_of_getElem? (i := 140) rfl)) (hw _ (List.mem_of_getElem? (i := 2) rfl)) (hw _ (List.mem_of_getElem? (i := 142) rfl)) (by decide) f30 own_pd9 rfl rfl (W := 2) rfl (by decide) (by decide) (by decide) (by decide) own_d14_165 rfl ?_
  intro T61 v61 L61 X61 qq61
  obtain ⟨rfl, n61, e61⟩ := qq61
  have N61 := Fr.app N60 n61
  show Gf p e below P T61 m 168 #[.val (.ref la), .val (.ref ra), .val (.ref jl), .val (.int (0 : Int32)), .val (.int (0 : Int32)), .val (.ref ea), .val (.ref eb)] [(.double va), (.double vb)]
  refine g_dcmp (pc' := 169) (v := (cmpValue (FP.dcmp vb va) .g)) X61 hx hby own_d14_168 rfl rfl rfl ?_
  refine g_ifY (pc' := 200) X61 hx hby own_d14_169 rfl (flt (hgt : ¬ ((cmpValue (FP.dcmp vb va) .g) < (0 : Int32)))).2.1 (by decide) (by decide) ?_
  refine g_aloadN (pc' := 201) X61 hx hby (v := (.ref jl)) own_d14_200 rfl rfl rfl ?_
  refine g_new (pc' := 204) X61 hx hby hZ hown (hw _ (List.mem_of_getElem? (i := 143) rfl)) (hw _ (List.mem_of_getElem? (i := 24) rfl)) (hw _ (List.mem_of_getElem? (i := 25) rfl)) e61 own_d14_201 rfl (by decide) (by decide) ?_
  intro T62 h62 jx X62 e62 E62 A62 D62 q62
  have ne63 : ea ≠ jx := by rw [q62]; exact Nat.ne_of_lt f30.lt
  have ne64 : eb ≠ jx := by rw [q62]; exact Nat.ne_of_lt f36.lt
  have ne65 : jl ≠ jx := by rw [q62]; exact Nat.ne_of_lt p25_0.lt
  have ne66 : la ≠ jx := by rw [q62]; exact Nat.ne_of_lt f26.lt
  have ne67 : ra ≠ jx := by rw [q62]; exact Nat.ne_of_lt f32.lt
  have ne68 : rt ≠ jx := by rw [q62]; exact Nat.ne_of_lt p25_5.lt
  have ne69 : ta ≠ jx := by rw [q62]; exact Nat.ne_of_lt f29.lt
  have ne70 : tb ≠ jx := by rw [q62]; exact Nat.ne_of_lt f35.lt
  have ge62 : n0 ≤ jx := by rw [q62]; exact z25
  have kp62 : h0.size ≤ jx := by rw [q62]; exact K25.1
  have f71 := f26.ext E62
  have f72 := f27.ext E62
  have f73 := f28.ext E62
  have f74 := f29.ext E62
  have f75 := f30.ext E62
  have f76 := f31.ext E62
  have f77 := f32.ext E62
  have f78 := f33.ext E62
  have f79 := f34.ext E62
  have f80 := f35.ext E62
  have f81 := f36.ext E62
  have f82 := f37.ext E62
  have f83 := p25_0.ext E62
  have f84 := p25_1.ext E62
  have f85 := p25_2.ext E62
  have f86 := p25_3.ext E62
  have f87 := p25_5.ext E62
  have f88 := p25_6.ext E62
  have f89 : Fld Z h62 jx "com/example/rowcast/rowcast/JoinValue" "value" "D" (.double (0 : UInt64)) := D62 (Or.inr (hw _ (List.mem_of_getElem? (i := 31) rfl))) (ty := .double) own_fd0
  have f90 : Fld Z h62 jx "com/example/rowcast/rowcast/JoinValue" "left" "Lcom/example/rowcast/rowcast/Histogram$CountedEndpoint;" .null := D62 (Or.inr (hw _ (List.mem_of_getElem? (i := 33) rfl))) (ty := (.object "com/example/rowcast/rowcast/Histogram$CountedEndpoint")) own_fd2
  have f91 : Fld Z h62 jx "com/example/rowcast/rowcast/JoinValue" "right" "Lcom/example/rowcast/rowcast/Histogram$CountedEndpoint;" .null := D62 (Or.inr (hw _ (List.mem_of_getElem? (i := 35) rfl))) (ty := (.object "com/example/rowcast/rowcast/Histogram$CountedEndpoint")) own_fd2
  have z62 := Nat.le_trans z25 E62.1
  have K62 := K25.ext E62
  refine g_dup (pc' := 205) X62 hx hby own_d14_204 rfl rfl rfl ?_
  refine g_aload (pc' := 207) X62 hx hby (v := (.ref ea)) own_d14_205 rfl rfl rfl ?_
  refine g_virt (argsL := []) (pc' := 210) X62 hx hby (by rw [hml]; rfl) hZ hown e62 (own_rm21 l Z a0 hw [] ea va h62 n0 z62 f76) (hw _ (List.mem_of_getElem? (i := 138) rfl)) (hw _ (List.mem_of_getElem? (i := 139) rfl)) (hw _ (List.mem_of_getElem? (i := 141) rfl)) (hw _ (List.mem_of_getElem? (i := 140) rfl)) (hw _ (List.mem_of_getElem? (i := 2) rfl)) (hw _ (List.mem_of_getElem? (i := 142) rfl)) (by decide) f75 own_pd9 rfl rfl (W := 3) rfl (by decide) (by decide) (by decide) (by decide) own_d14_207 rfl ?_
  intro T92 v92 L92 X92 qq92
  obtain ⟨rfl, n92, e92⟩ := qq92
  have N92 := Fr.app N61 n92
  show Gf p e below P T92 m 210 #[.val (.ref la), .val (.ref ra), .val (.ref jl), .val (.int (0 : Int32)), .val (.int (0 : Int32)), .val (.ref ea), .val (.ref eb)] [(.double va), (.ref jx), (.ref jx), (.ref jl)]
  refine g_aload (pc' := 212) X92 hx hby (v := (.ref ea)) own_d14_210 rfl rfl rfl ?_
  refine g_aload (pc' := 214) X92 hx hby (v := (.ref eb)) own_d14_212 rfl rfl rfl ?_
  refine g_init (argsL := [(.double va), (.ref ea), (.ref eb)]) (pc' := 217) X92 hx hby (by rw [hml]; rfl) hZ hown rfl e92 (own_rm4lr l Z a0 hw [] jx va ea eb  h62 n0 z62 A62 f89 f90 f91 ge62) (hw _ (List.mem_of_getElem? (i := 144) rfl)) (hw _ (List.mem_of_getElem? (i := 27) rfl)) (hw _ (List.mem_of_getElem? (i := 25) rfl)) (hw _ (List.mem_of_getElem? (i := 28) rfl)) (by decide) own_pd10 rfl rfl (W := 2) rfl (by decide) (by decide) (by decide) (by decide) own_d14_214 rfl ?_
  intro T93 v93 L93 X93 qq93
  obtain ⟨h93, e93⟩ : ∃ h, T93.heap = h := ⟨_, rfl⟩
  rw [e93] at qq93
  obtain ⟨rfl, n93, k93, p93_0, p93_1, p93_2⟩ := qq93
  have f94 := f71.keep k93
  have f95 := f72.keep k93 (ninS ne66 nin0)
  have f96 := f73.keep k93 (ninS ne66 nin0)
  have f97 := f74.keep k93 (ninS ne69 nin0)
  have f98 := f75.keep k93
  have f99 := f76.keep k93 (ninS ne63 nin0)
  have f100 := f77.keep k93
  have f101 := f78.keep k93 (ninS ne67 nin0)
  have f102 := f79.keep k93 (ninS ne67 nin0)
  have f103 := f80.keep k93 (ninS ne70 nin0)
  have f104 := f81.keep k93
  have f105 := f82.keep k93 (ninS ne64 nin0)
  have f106 := f83.keep k93
  have f107 := f84.keep k93 (ninS ne65 nin0)
  have f108 := f85.keep k93 (ninS ne65 nin0)
  have f109 := f86.keep k93 (ninS ne65 nin0)
  have f110 := f87.keep k93
  have f111 := f88.keep k93 (ninS ne68 nin0)
  have f112 := A62.keep k93
  have z93 := Nat.le_trans z62 k93.1
  have K93 := K62.trans k93 (allS (Or.inr kp62) all0)
  have N93 := Fr.app N92 n93
  show Gf p e below P T93 m 217 #[.val (.ref la), .val (.ref ra), .val (.ref jl), .val (.int (0 : Int32)), .val (.int (0 : Int32)), .val (.ref ea), .val (.ref eb)] [(.ref jx), (.ref jl)]
  refine g_face (argsL := [(.ref jx)]) (pc' := 222) X93 hx hby (by rw [hml]; rfl) hZ hown e93 (own_rm9_0 l Z a0 hw [] jl jx rt kr (0 : Int32) h93 n0 z93 f106 f107 f108 f109 ge1 f111 ge42 f110 p25_7 (Ne.symm ne45) p93_0) (hw _ (List.mem_of_getElem? (i := 145) rfl)) (hw _ (List.mem_of_getElem? (i := 66) rfl)) (hw _ (List.mem_of_getElem? (i := 67) rfl)) rfl (hw _ (List.mem_of_getElem? (i := 68) rfl)) (hw _ (List.mem_of_getElem? (i := 69) rfl)) (hw _ (List.mem_of_getElem? (i := 70) rfl)) (hw _ (List.mem_of_getElem? (i := 71) rfl)) (hw _ (List.mem_of_getElem? (i := 72) rfl)) (hw _ (List.mem_of_getElem? (i := 43) rfl)) (hw _ (List.mem_of_getElem? (i := 73) rfl)) (by decide) f106 own_pd11 rfl rfl (W := 0) rfl (by decide) (by decide) (by decide) (by decide) own_d14_217 rfl ?_
  intro T116 v116 L116 X116 qq116
  obtain ⟨h116, e116⟩ : ∃ h, T116.heap = h := ⟨_, rfl⟩
  rw [e116] at qq116
  obtain ⟨rfl, n116, k116, p116_0, p116_1, p116_2, p116_3, p116_4⟩ := qq116
  have f117 := f94.keep k116
  have f118 := f95.keep k116 (ninS ne4 (ninS ne46 nin0))
  have f119 := f96.keep k116 (ninS ne4 (ninS ne46 nin0))
  have f120 := f97.keep k116 (ninS ne6 (ninS ne48 nin0))
  have f121 := f98.keep k116
  have f122 := f99.keep k116 (ninS ne2 (ninS ne43 nin0))
  have f123 := f100.keep k116
  have f124 := f101.keep k116 (ninS ne5 (ninS ne47 nin0))
  have f125 := f102.keep k116 (ninS ne5 (ninS ne47 nin0))
  have f126 := f103.keep k116 (ninS ne7 (ninS ne49 nin0))
  have f127 := f104.keep k116
  have f128 := f105.keep k116 (ninS ne3 (ninS ne44 nin0))
  have f129 := f106.keep k116
  have f133 := f110.keep k116
  have f135 := p93_0.keep k116
  have f136 := p93_1.keep k116 (ninS (Ne.symm ne65) (ninS (Ne.symm ne68) nin0))
  have f137 := p93_2.keep k116 (ninS (Ne.symm ne65) (ninS (Ne.symm ne68) nin0))
  have z116 := Nat.le_trans z93 k116.1
  have K116 := K93.trans k116 (allS (Or.inr kp1) (allS (Or.inr kp50) all0))
  have N116 := Fr.app N93 n116
  show Gf p e below P T116 m 222 #[.val (.ref la), .val (.ref ra), .val (.ref jl), .val (.int (0 : Int32)), .val (.int (0 : Int32)), .val (.ref ea), .val (.ref eb)] [(.int (1 : Int32))]
  refine g_pop (pc' := 223) X116 hx hby own_d14_222 rfl rfl rfl ?_
  refine g_iinc (pc' := 226) (Ls' := #[.val (.ref la), .val (.ref ra), .val (.ref jl), .val (.int (1 : Int32)), .val (.int (0 : Int32)), .val (.ref ea), .val (.ref eb)]) X116 hx hby own_d14_223 rfl rfl rfl ?_
  refine g_iinc (pc' := 229) (Ls' := #[.val (.ref la), .val (.ref ra), .val (.ref jl), .val (.int (1 : Int32)), .val (.int (1 : Int32)), .val (.ref ea), .val (.ref eb)]) X116 hx hby own_d14_226 rfl rfl rfl ?_
  refine g_goto (pc' := 26) X116 hx hby own_d14_229 (by decide) (by decide) ?_
  refine g_iloadN (pc' := 27) X116 hx hby (v := (1 : Int32)) own_d14_26 rfl rfl ?_
  refine g_aloadN (pc' := 28) X116 hx hby (v := (.ref la)) own_d14_27 rfl rfl rfl ?_
  refine g_face (argsL := []) (pc' := 33) X116 hx hby (by rw [hml]; rfl) hZ hown e116 (own_rm15 l Z a0 hw [] la (1 : Int32) h116 n0 z116 f118) (hw _ (List.mem_of_getElem? (i := 104) rfl)) (hw _ (List.mem_of_getElem? (i := 105) rfl)) (hw _ (List.mem_of_getElem? (i := 106) rfl)) rfl (hw _ (List.mem_of_getElem? (i := 107) rfl)) (hw _ (List.mem_of_getElem? (i := 108) rfl)) (hw _ (List.mem_of_getElem? (i := 109) rfl)) (hw _ (List.mem_of_getElem? (i := 110) rfl)) (hw _ (List.mem_of_getElem? (i := 72) rfl)) (hw _ (List.mem_of_getElem? (i := 43) rfl)) (hw _ (List.mem_of_getElem? (i := 111) rfl)) (by decide) f117 own_pd7 rfl rfl (W := 1) rfl (by decide) (by decide) (by decide) (by decide) own_d14_28 rfl ?_
  intro T138 v138 L138 X138 qq138
  obtain ⟨rfl, n138, e138⟩ := qq138
  have N138 := Fr.app N116 n138
  show Gf p e below P T138 m 33 #[.val (.ref la), .val (.ref ra), .val (.ref jl), .val (.int (1 : Int32)), .val (.int (1 : Int32)), .val (.ref ea), .val (.ref eb)] [(.int (1 : Int32)), (.int (1 : Int32))]
  refine g_icN (pc' := 36) X138 hx hby own_d14_33 rfl (flt (by decide : ¬ ((1 : Int32) < (1 : Int32)))).1 rfl ?_
  refine g_iload (pc' := 38) X138 hx hby (v := (1 : Int32)) own_d14_36 rfl rfl ?_
  refine g_aloadN (pc' := 39) X138 hx hby (v := (.ref ra)) own_d14_38 rfl rfl rfl ?_
  refine g_face (argsL := []) (pc' := 44) X138 hx hby (by rw [hml]; rfl) hZ hown e138 (own_rm15 l Z a0 hw [] ra (1 : Int32) h116 n0 z116 f124) (hw _ (List.mem_of_getElem? (i := 104) rfl)) (hw _ (List.mem_of_getElem? (i := 105) rfl)) (hw _ (List.mem_of_getElem? (i := 106) rfl)) rfl (hw _ (List.mem_of_getElem? (i := 107) rfl)) (hw _ (List.mem_of_getElem? (i := 108) rfl)) (hw _ (List.mem_of_getElem? (i := 109) rfl)) (hw _ (List.mem_of_getElem? (i := 110) rfl)) (hw _ (List.mem_of_getElem? (i := 72) rfl)) (hw _ (List.mem_of_getElem? (i := 43) rfl)) (hw _ (List.mem_of_getElem? (i := 111) rfl)) (by decide) f123 own_pd7 rfl rfl (W := 1) rfl (by decide) (by decide) (by decide) (by decide) own_d14_39 rfl ?_
  intro T139 v139 L139 X139 qq139
  obtain ⟨rfl, n139, e139⟩ := qq139
  have N139 := Fr.app N138 n139
  show Gf p e below P T139 m 44 #[.val (.ref la), .val (.ref ra), .val (.ref jl), .val (.int (1 : Int32)), .val (.int (1 : Int32)), .val (.ref ea), .val (.ref eb)] [(.int (1 : Int32)), (.int (1 : Int32))]
  refine g_icY (pc' := 232) X139 hx hby own_d14_44 rfl (flt (by decide : ¬ ((1 : Int32) < (1 : Int32)))).2.1 (by decide) (by decide) ?_
  refine g_aloadN (pc' := 233) X139 hx hby (v := (.ref jl)) own_d14_232 rfl rfl rfl ?_
  exact g_retV X139 hx hby hf hlk hret own_d14_233 rfl rfl (Or.inr (Or.inr (Or.inr (Or.inr ⟨rfl, rfl, rfl⟩)))) (by decide) (by decide) e139 ⟨jl, rt, kr, jx, rfl, N139, K116, kp1, p116_0, p116_3, p116_2, p116_4, f135, f136, f137⟩
theorem own_ve {a b : Int32} {va vb : UInt64} (h1 : FP.i2d a = va) (h2 : FP.i2d b = vb) (h3 : ¬ (cmpValue (FP.dcmp va vb) .g < (0 : Int32))) (h4 : ¬ (cmpValue (FP.dcmp vb va) .g < (0 : Int32))) : cmpValue (FP.dcmp va vb) .l = (0 : Int32) := by
  subst h1 h2
  have c1 := rcv (by decide) (by decide) (rv_i2d a) (rv_i2d b) .g
  have c2 := rcv (by decide) (by decide) (rv_i2d b) (rv_i2d a) .g
  rw [c1.1] at h3
  rw [c2.1] at h4
  exact (rcv (by decide) (by decide) (rv_i2d a) (rv_i2d b) .l).2.2.mpr (by omega)
theorem own_vl {a b : Int32} {va vb : UInt64} (h1 : FP.i2d a = va) (h2 : FP.i2d b = vb) (h3 : cmpValue (FP.dcmp va vb) .g < (0 : Int32)) : ¬ (cmpValue (FP.dcmp va vb) .l = (0 : Int32)) := by
  subst h1 h2
  have c1 := rcv (by decide) (by decide) (rv_i2d a) (rv_i2d b) .g
  rw [c1.1] at h3
  rw [(rcv (by decide) (by decide) (rv_i2d a) (rv_i2d b) .l).2.2]
  omega
theorem own_vg {a b : Int32} {va vb : UInt64} (h1 : FP.i2d a = va) (h2 : FP.i2d b = vb) (h3 : cmpValue (FP.dcmp vb va) .g < (0 : Int32)) : ¬ (cmpValue (FP.dcmp va vb) .l = (0 : Int32)) := by
  subst h1 h2
  have c1 := rcv (by decide) (by decide) (rv_i2d b) (rv_i2d a) .g
  rw [c1.1] at h3
  rw [(rcv (by decide) (by decide) (rv_i2d a) (rv_i2d b) .l).2.2]
  omega

def own_Q0 (Z : State) (fl : Int32) (ia : Int32) (ib : Int32) (dE : Addr) (kD : ClassId) (h0 : Heap) (n0 : Nat) (v : Option Value) (h : Heap) (L : List Loc) : Prop := v = some (.int (1 : Int32)) ∧ Fr n0 L ∧ Keep h0 h []
set_option maxRecDepth 65536 in
set_option maxHeartbeats 40000000 in
theorem own_rm0 (l : Launch) (Z : State) (a0 : Array Value) (hw : ∀ d ∈ tables_1, d.before a0 Z = true) (ws : List Jvm.Cond) (fl : Int32) (ia : Int32) (ib : Int32) (dE : Addr) (kD : ClassId) (h0 : Heap) (n0 : Nat) (Z0 : n0 ≤ h0.size) (c0 : Sta Z h0 "java/util/ArrayList" "DEFAULTCAPACITY_EMPTY_ELEMENTDATA" "[Ljava/lang/Object;" (.ref dE)) (c1 : Arv Z h0 dE kD (.object "java/lang/Object") (0 : Int32) [] .null) :
    Con l Z x code maxLocals ret ws room_1 #[(.int fl), (.int ia), (.int ib)] h0 (own_Q0 Z fl ia ib dE kD h0 n0) := by
  refine Con.start #[.val (.int fl), .val (.int ia), .val (.int ib), .unset, .unset, .unset, .unset, .unset, .unset, .unset, .unset, .unset, .unset, .unset, .unset, .unset, .unset] (plainFor_of_name own_pn9) (fun m => by first | (refine own_ef ?_; exact rfl) | (simp [entryFrame, mkF, argsToLocals, Value.category, maxLocals]; done) | rfl) ?_
  intro p e s m below meth c s₁ P X0 hx hby hml hret hlk hown hnm hZ e0 hf
  have hml : c.maxLocals = 17 := hml
  have N0 := Fr.nil n0
  have hret : meth.sig.returnType = some .boolean := hret
  have K0 : Keep h0 h0 [] := Keep.refl _ _
  refine g_iloadN (pc' := 1) X0 hx hby (v := ia) at_0 rfl rfl ?_
  refine g_sipush (pc' := 4) (v := (255 : Int32)) X0 hx hby at_1 rfl rfl ?_
  refine g_iand (pc' := 5) (v := (ia &&& (255 : Int32))) X0 hx hby at_4 rfl rfl rfl ?_
  obtain ⟨va, h_va⟩ : ∃ z : UInt64, FP.i2d (ia &&& (255 : Int32)) = z := ⟨_, rfl⟩
  refine g_i2d (pc' := 6) (v := va) X0 hx hby at_5 rfl h_va rfl ?_
  refine g_dstoreN (pc' := 7) (Ls' := #[.val (.int fl), .val (.int ia), .val (.int ib), .val (.double va), .second, .unset, .unset, .unset, .unset, .unset, .unset, .unset, .unset, .unset, .unset, .unset, .unset]) X0 hx hby at_6 rfl rfl rfl ?_
  refine g_iloadN (pc' := 8) X0 hx hby (v := ib) at_7 rfl rfl ?_
  refine g_sipush (pc' := 11) (v := (255 : Int32)) X0 hx hby at_8 rfl rfl ?_
  refine g_iand (pc' := 12) (v := (ib &&& (255 : Int32))) X0 hx hby at_11 rfl rfl rfl ?_
  obtain ⟨vb, h_vb⟩ : ∃ z : UInt64, FP.i2d (ib &&& (255 : Int32)) = z := ⟨_, rfl⟩
  refine g_i2d (pc' := 13) (v := vb) X0 hx hby at_12 rfl h_vb rfl ?_
  refine g_dstore (pc' := 15) (Ls' := #[.val (.int fl), .val (.int ia), .val (.int ib), .val (.double va), .second, .val (.double vb), .second, .unset, .unset, .unset, .unset, .unset, .unset, .unset, .unset, .unset, .unset]) X0 hx hby at_13 rfl rfl rfl ?_
  refine g_new (pc' := 18) X0 hx hby hZ hown (hw _ (List.mem_of_getElem? (i := 0) rfl)) (hw _ (List.mem_of_getElem? (i := 1) rfl)) (hw _ (List.mem_of_getElem? (i := 2) rfl)) e0 at_15 rfl (by decide) (by decide) ?_
  intro T1 h1 ea X1 e1 E1 A1 D1 q1
  have ne2 : dE ≠ ea := by rw [q1]; exact Nat.ne_of_lt c1.lt
  have ge1 : n0 ≤ ea := by rw [q1]; exact Z0
  have kp1 : h0.size ≤ ea := by rw [q1]; exact K0.1
  have f3 := c0.ext E1
  have f4 := c1.ext E1
  have f5 : Fld Z h1 ea "com/example/rowcast/rowcast/Histogram$CountedEndpoint" "value" "D" (.double (0 : UInt64)) := D1 (Or.inr (hw _ (List.mem_of_getElem? (i := 15) rfl))) (ty := .double) own_fd0
  have f6 : Fld Z h1 ea "com/example/rowcast/rowcast/Histogram$CountedEndpoint" "counts" "D" (.double (0 : UInt64)) := D1 (Or.inr (hw _ (List.mem_of_getElem? (i := 17) rfl))) (ty := .double) own_fd0
  have f7 : Fld Z h1 ea "com/example/rowcast/rowcast/Histogram$CountedEndpoint" "popular" "Z" (.int (0 : Int32)) := D1 (Or.inr (hw _ (List.mem_of_getElem? (i := 19) rfl))) (ty := .boolean) own_fd1
  have f8 : Fld Z h1 ea "com/example/rowcast/rowcast/Histogram$CountedEndpoint" "spreadFrom" "D" (.double (0 : UInt64)) := D1 (Or.inr (hw _ (List.mem_of_getElem? (i := 21) rfl))) (ty := .double) own_fd0
  have z1 := Nat.le_trans Z0 E1.1
  have K1 := K0.ext E1
  refine g_dup (pc' := 19) X1 hx hby at_18 rfl rfl rfl ?_
  refine g_dloadN (pc' := 20) X1 hx hby (v := va) at_19 rfl rfl ?_
  refine g_dconst1 (pc' := 21) (v := (4607182418800017408 : UInt64)) X1 hx hby at_20 rfl rfl ?_
  refine g_iloadN (pc' := 22) X1 hx hby (v := fl) at_21 rfl rfl ?_
  refine g_iconst (pc' := 23) (v := (4 : Int32)) X1 hx hby at_22 rfl rfl ?_
  refine g_iand (pc' := 24) (v := (fl &&& (4 : Int32))) X1 hx hby at_23 rfl rfl rfl ?_
  obtain ⟨pa, h_pa⟩ : ∃ z : Int32, z = (if (fl &&& (4 : Int32)) = (0 : Int32) then (0 : Int32) else (1 : Int32)) := ⟨_, rfl⟩
  refine own_join P X1 e1 32 #[.val (.int fl), .val (.int ia), .val (.int ib), .val (.double va), .second, .val (.double vb), .second, .unset, .unset, .unset, .unset, .unset, .unset, .unset, .unset, .unset, .unset] [(.int pa), (.double (4607182418800017408 : UInt64)), (.double va), (.ref ea), (.ref ea)] ?_ ?_
  · intro T9 X9 e9
    refine g_dloadN (pc' := 33) X9 hx hby (v := va) at_32 rfl rfl ?_
    refine g_init (argsL := [(.double va), (.double (4607182418800017408 : UInt64)), (.int pa), (.double va)]) (pc' := 36) X9 hx hby (by rw [hml]; rfl) hZ hown rfl e9 (own_rm1 l Z a0 hw [] ea va (4607182418800017408 : UInt64) pa va  h1 n0 z1 A1 f5 f6 f7 f8 ge1 (own_01 h_pa)) (hw _ (List.mem_of_getElem? (i := 3) rfl)) (hw _ (List.mem_of_getElem? (i := 4) rfl)) (hw _ (List.mem_of_getElem? (i := 2) rfl)) (hw _ (List.mem_of_getElem? (i := 5) rfl)) (by decide) own_pd12 rfl rfl (W := 1) rfl (by decide) (by decide) (by decide) (by decide) at_33 rfl ?_
    intro T10 v10 L10 X10 qq10
    obtain ⟨h10, e10⟩ : ∃ h, T10.heap = h := ⟨_, rfl⟩
    rw [e10] at qq10
    obtain ⟨rfl, n10, k10, p10_0, p10_1⟩ := qq10
    have f11 := own_sta_keep f3 k10 (allS ⟨_, A1⟩ all0)
    have f12 := f4.keep k10 (ninS ne2 nin0)
    have f13 := A1.keep k10
    have z10 := Nat.le_trans z1 k10.1
    have K10 := K1.trans k10 (allS (Or.inr kp1) all0)
    have N10 := Fr.app N0 n10
    show Gf p e below P T10 m 36 #[.val (.int fl), .val (.int ia), .val (.int ib), .val (.double va), .second, .val (.double vb), .second, .unset, .unset, .unset, .unset, .unset, .unset, .unset, .unset, .unset, .unset] [(.ref ea)]
    refine g_astore (pc' := 38) (Ls' := #[.val (.int fl), .val (.int ia), .val (.int ib), .val (.double va), .second, .val (.double vb), .second, .val (.ref ea), .unset, .unset, .unset, .unset, .unset, .unset, .unset, .unset, .unset]) X10 hx hby at_36 rfl rfl rfl rfl ?_
    refine g_new (pc' := 41) X10 hx hby hZ hown (hw _ (List.mem_of_getElem? (i := 0) rfl)) (hw _ (List.mem_of_getElem? (i := 1) rfl)) (hw _ (List.mem_of_getElem? (i := 2) rfl)) e10 at_38 rfl (by decide) (by decide) ?_
    intro T18 h18 eb X18 e18 E18 A18 D18 q18
    have ne19 : dE ≠ eb := by rw [q18]; exact Nat.ne_of_lt f12.lt
    have ne20 : ea ≠ eb := by rw [q18]; exact Nat.ne_of_lt p10_0.lt
    have ge18 : n0 ≤ eb := by rw [q18]; exact z10
    have kp18 : h0.size ≤ eb := by rw [q18]; exact K10.1
    have f21 := f11.ext E18
    have f22 := f12.ext E18
    have f23 := p10_0.ext E18
    have f24 := p10_1.ext E18
    have f25 : Fld Z h18 eb "com/example/rowcast/rowcast/Histogram$CountedEndpoint" "value" "D" (.double (0 : UInt64)) := D18 (Or.inr (hw _ (List.mem_of_getElem? (i := 15) rfl))) (ty := .double) own_fd0
    have f26 : Fld Z h18 eb "com/example/rowcast/rowcast/Histogram$CountedEndpoint" "counts" "D" (.double (0 : UInt64)) := D18 (Or.inr (hw _ (List.mem_of_getElem? (i := 17) rfl))) (ty := .double) own_fd0
    have f27 : Fld Z h18 eb "com/example/rowcast/rowcast/Histogram$CountedEndpoint" "popular" "Z" (.int (0 : Int32)) := D18 (Or.inr (hw _ (List.mem_of_getElem? (i := 19) rfl))) (ty := .boolean) own_fd1
    have f28 : Fld Z h18 eb "com/example/rowcast/rowcast/Histogram$CountedEndpoint" "spreadFrom" "D" (.double (0 : UInt64)) := D18 (Or.inr (hw _ (List.mem_of_getElem? (i := 21) rfl))) (ty := .double) own_fd0
    have z18 := Nat.le_trans z10 E18.1
    have K18 := K10.ext E18
    refine g_dup (pc' := 42) X18 hx hby at_41 rfl rfl rfl ?_
    refine g_dload (pc' := 44) X18 hx hby (v := vb) at_42 rfl rfl ?_
    refine g_ldcD (pc' := 47) X18 hx hby hZ hown (hw _ (List.mem_of_getElem? (i := 22) rfl)) at_44 rfl ?_
    refine g_iloadN (pc' := 48) X18 hx hby (v := fl) at_47 rfl rfl ?_
    refine g_bipush (pc' := 50) (v := (8 : Int32)) X18 hx hby at_48 rfl rfl ?_
    refine g_iand (pc' := 51) (v := (fl &&& (8 : Int32))) X18 hx hby at_50 rfl rfl rfl ?_
    obtain ⟨pb, h_pb⟩ : ∃ z : Int32, z = (if (fl &&& (8 : Int32)) = (0 : Int32) then (0 : Int32) else (1 : Int32)) := ⟨_, rfl⟩
    refine own_join P X18 e18 59 #[.val (.int fl), .val (.int ia), .val (.int ib), .val (.double va), .second, .val (.double vb), .second, .val (.ref ea), .unset, .unset, .unset, .unset, .unset, .unset, .unset, .unset, .unset] [(.int pb), (.double (4611686018427387904 : UInt64)), (.double vb), (.ref eb), (.ref eb)] ?_ ?_
    · intro T29 X29 e29
      refine g_dload (pc' := 61) X29 hx hby (v := vb) at_59 rfl rfl ?_
      refine g_init (argsL := [(.double vb), (.double (4611686018427387904 : UInt64)), (.int pb), (.double vb)]) (pc' := 64) X29 hx hby (by rw [hml]; rfl) hZ hown rfl e29 (own_rm1 l Z a0 hw [] eb vb (4611686018427387904 : UInt64) pb vb  h18 n0 z18 A18 f25 f26 f27 f28 ge18 (own_01 h_pb)) (hw _ (List.mem_of_getElem? (i := 3) rfl)) (hw _ (List.mem_of_getElem? (i := 4) rfl)) (hw _ (List.mem_of_getElem? (i := 2) rfl)) (hw _ (List.mem_of_getElem? (i := 5) rfl)) (by decide) own_pd12 rfl rfl (W := 1) rfl (by decide) (by decide) (by decide) (by decide) at_61 rfl ?_
      intro T30 v30 L30 X30 qq30
      obtain ⟨h30, e30⟩ : ∃ h, T30.heap = h := ⟨_, rfl⟩
      rw [e30] at qq30
      obtain ⟨rfl, n30, k30, p30_0, p30_1⟩ := qq30
      have f31 := own_sta_keep f21 k30 (allS ⟨_, A18⟩ all0)
      have f32 := f22.keep k30 (ninS ne19 nin0)
      have f33 := f23.keep k30
      have f34 := f24.keep k30 (ninS ne20 nin0)
      have f35 := A18.keep k30
      have z30 := Nat.le_trans z18 k30.1
      have K30 := K18.trans k30 (allS (Or.inr kp18) all0)
      have N30 := Fr.app N10 n30
      show Gf p e below P T30 m 64 #[.val (.int fl), .val (.int ia), .val (.int ib), .val (.double va), .second, .val (.double vb), .second, .val (.ref ea), .unset, .unset, .unset, .unset, .unset, .unset, .unset, .unset, .unset] [(.ref eb)]
      refine g_astore (pc' := 66) (Ls' := #[.val (.int fl), .val (.int ia), .val (.int ib), .val (.double va), .second, .val (.double vb), .second, .val (.ref ea), .val (.ref eb), .unset, .unset, .unset, .unset, .unset, .unset, .unset, .unset]) X30 hx hby at_64 rfl rfl rfl rfl ?_
      refine g_iloadN (pc' := 67) X30 hx hby (v := fl) at_66 rfl rfl ?_
      refine g_iconst (pc' := 68) (v := (1 : Int32)) X30 hx hby at_67 rfl rfl ?_
      refine g_iand (pc' := 69) (v := (fl &&& (1 : Int32))) X30 hx hby at_68 rfl rfl rfl ?_
      obtain ⟨hL, h_hL⟩ : ∃ z : Int32, z = (if (fl &&& (1 : Int32)) = (0 : Int32) then (0 : Int32) else (1 : Int32)) := ⟨_, rfl⟩
      refine own_join P X30 e30 77 #[.val (.int fl), .val (.int ia), .val (.int ib), .val (.double va), .second, .val (.double vb), .second, .val (.ref ea), .val (.ref eb), .unset, .unset, .unset, .unset, .unset, .unset, .unset, .unset] [(.int hL)] ?_ ?_
      · intro T40 X40 e40
        refine g_istore (pc' := 79) (Ls' := #[.val (.int fl), .val (.int ia), .val (.int ib), .val (.double va), .second, .val (.double vb), .second, .val (.ref ea), .val (.ref eb), .val (.int hL), .unset, .unset, .unset, .unset, .unset, .unset, .unset]) X40 hx hby at_77 rfl rfl rfl ?_
        refine g_iloadN (pc' := 80) X40 hx hby (v := fl) at_79 rfl rfl ?_
        refine g_iconst (pc' := 81) (v := (2 : Int32)) X40 hx hby at_80 rfl rfl ?_
        refine g_iand (pc' := 82) (v := (fl &&& (2 : Int32))) X40 hx hby at_81 rfl rfl rfl ?_
        obtain ⟨hR, h_hR⟩ : ∃ z : Int32, z = (if (fl &&& (2 : Int32)) = (0 : Int32) then (0 : Int32) else (1 : Int32)) := ⟨_, rfl⟩
        refine own_join P X40 e40 90 #[.val (.int fl), .val (.int ia), .val (.int ib), .val (.double va), .second, .val (.double vb), .second, .val (.ref ea), .val (.ref eb), .val (.int hL), .unset, .unset, .unset, .unset, .unset, .unset, .unset] [(.int hR)] ?_ ?_
        · intro T41 X41 e41
          refine g_istore (pc' := 92) (Ls' := #[.val (.int fl), .val (.int ia), .val (.int ib), .val (.double va), .second, .val (.double vb), .second, .val (.ref ea), .val (.ref eb), .val (.int hL), .val (.int hR), .unset, .unset, .unset, .unset, .unset, .unset]) X41 hx hby at_90 rfl rfl rfl ?_
          refine g_new (pc' := 95) X41 hx hby hZ hown (hw _ (List.mem_of_getElem? (i := 23) rfl)) (hw _ (List.mem_of_getElem? (i := 24) rfl)) (hw _ (List.mem_of_getElem? (i := 25) rfl)) e41 at_92 rfl (by decide) (by decide) ?_
          intro T42 h42 jo X42 e42 E42 A42 D42 q42
          have ne43 : dE ≠ jo := by rw [q42]; exact Nat.ne_of_lt f32.lt
          have ne44 : ea ≠ jo := by rw [q42]; exact Nat.ne_of_lt f33.lt
          have ne45 : eb ≠ jo := by rw [q42]; exact Nat.ne_of_lt p30_0.lt
          have ge42 : n0 ≤ jo := by rw [q42]; exact z30
          have kp42 : h0.size ≤ jo := by rw [q42]; exact K30.1
          have f46 := f31.ext E42
          have f47 := f32.ext E42
          have f48 := f33.ext E42
          have f49 := f34.ext E42
          have f50 := p30_0.ext E42
          have f51 := p30_1.ext E42
          have f52 : Fld Z h42 jo "com/example/rowcast/rowcast/JoinValue" "value" "D" (.double (0 : UInt64)) := D42 (Or.inr (hw _ (List.mem_of_getElem? (i := 31) rfl))) (ty := .double) own_fd0
          have f53 : Fld Z h42 jo "com/example/rowcast/rowcast/JoinValue" "left" "Lcom/example/rowcast/rowcast/Histogram$CountedEndpoint;" .null := D42 (Or.inr (hw _ (List.mem_of_getElem? (i := 33) rfl))) (ty := (.object "com/example/rowcast/rowcast/Histogram$CountedEndpoint")) own_fd2
          have f54 : Fld Z h42 jo "com/example/rowcast/rowcast/JoinValue" "right" "Lcom/example/rowcast/rowcast/Histogram$CountedEndpoint;" .null := D42 (Or.inr (hw _ (List.mem_of_getElem? (i := 35) rfl))) (ty := (.object "com/example/rowcast/rowcast/Histogram$CountedEndpoint")) own_fd2
          have z42 := Nat.le_trans z30 E42.1
          have K42 := K30.ext E42
          refine g_dup (pc' := 96) X42 hx hby at_95 rfl rfl rfl ?_
          refine g_dloadN (pc' := 97) X42 hx hby (v := va) at_96 rfl rfl ?_
          refine g_iload (pc' := 99) X42 hx hby (v := hL) at_97 rfl rfl ?_
          have Jt55 : ∀ (T' : State) (h' : Heap) (Lc : List Loc) (jva : Addr), Stand p l e room_1 s m #[(.int fl), (.int ia), (.int ib)] below meth c T' Lc 3 11 → T'.heap = h' → Fr n0 Lc → n0 ≤ h'.size → Keep h0 h' [] → (Sta Z h' "java/util/ArrayList" "DEFAULTCAPACITY_EMPTY_ELEMENTDATA" "[Ljava/lang/Object;" (.ref dE)) → (Arv Z h' dE kD (.object "java/lang/Object") (0 : Int32) [] .null) → (Exa Z h' ea "com/example/rowcast/rowcast/Histogram$CountedEndpoint") → (Fld Z h' ea "com/example/rowcast/rowcast/Histogram$CountedEndpoint" "value" "D" (.double va)) → (Exa Z h' eb "com/example/rowcast/rowcast/Histogram$CountedEndpoint") → (Fld Z h' eb "com/example/rowcast/rowcast/Histogram$CountedEndpoint" "value" "D" (.double vb)) → Gf p e below P T' m 154 #[.val (.int fl), .val (.int ia), .val (.int ib), .val (.double va), .second, .val (.double vb), .second, .val (.ref ea), .val (.ref eb), .val (.int hL), .val (.int hR), .val (.ref jva), .val (.int (1 : Int32)), .unset, .unset, .unset, .unset] [] := by
            intro T55 h55 L55 jva X55 e55 N55 z55 K55 g55_0 g55_1 g55_2 g55_3 g55_4 g55_5
            refine g_new (pc' := 157) X55 hx hby hZ hown (hw _ (List.mem_of_getElem? (i := 41) rfl)) (hw _ (List.mem_of_getElem? (i := 42) rfl)) (hw _ (List.mem_of_getElem? (i := 43) rfl)) e55 at_154 rfl (by decide) (by decide) ?_
            intro T56 h56 li X56 e56 E56 A56 D56 q56
            have ne57 : dE ≠ li := by rw [q56]; exact Nat.ne_of_lt g55_1.lt
            have ne58 : ea ≠ li := by rw [q56]; exact Nat.ne_of_lt g55_2.lt
            have ne59 : eb ≠ li := by rw [q56]; exact Nat.ne_of_lt g55_4.lt
            have ge56 : n0 ≤ li := by rw [q56]; exact z55
            have kp56 : h0.size ≤ li := by rw [q56]; exact K55.1
            have f60 := g55_0.ext E56
            have f61 := g55_1.ext E56
            have f62 := g55_2.ext E56
            have f63 := g55_3.ext E56
            have f64 := g55_4.ext E56
            have f65 := g55_5.ext E56
            have f66 : Fld Z h56 li "java/util/AbstractList" "modCount" "I" (.int (0 : Int32)) := D56 (Or.inl (hw _ (List.mem_of_getElem? (i := 61) rfl))) (ty := .int) own_fd3
            have f67 : Fld Z h56 li "java/util/ArrayList" "elementData" "[Ljava/lang/Object;" .null := D56 (Or.inl (hw _ (List.mem_of_getElem? (i := 64) rfl))) (ty := (.array (.object "java/lang/Object"))) own_fd4
            have f68 : Fld Z h56 li "java/util/ArrayList" "size" "I" (.int (0 : Int32)) := D56 (Or.inl (hw _ (List.mem_of_getElem? (i := 77) rfl))) (ty := .int) own_fd3
            have z56 := Nat.le_trans z55 E56.1
            have K56 := K55.ext E56
            refine g_dup (pc' := 158) X56 hx hby at_157 rfl rfl rfl ?_
            refine g_init (argsL := []) (pc' := 161) X56 hx hby (by rw [hml]; rfl) hZ hown rfl e56 (own_rm6 l Z a0 hw [] li dE h56 n0 z56 A56 f66 f67 f68 ge56 f60) (hw _ (List.mem_of_getElem? (i := 44) rfl)) (hw _ (List.mem_of_getElem? (i := 45) rfl)) (hw _ (List.mem_of_getElem? (i := 43) rfl)) (hw _ (List.mem_of_getElem? (i := 46) rfl)) (by decide) own_pd0 rfl rfl (W := 1) rfl (by decide) (by decide) (by decide) (by decide) at_158 rfl ?_
            intro T69 v69 L69 X69 qq69
            obtain ⟨h69, e69⟩ : ∃ h, T69.heap = h := ⟨_, rfl⟩
            rw [e69] at qq69
            obtain ⟨rfl, n69, k69, p69_0, p69_1, p69_2, p69_3⟩ := qq69
            have f70 := own_sta_keep f60 k69 (allS ⟨_, A56⟩ all0)
            have f71 := f61.keep k69 (ninS ne57 nin0)
            have f72 := f62.keep k69
            have f73 := f63.keep k69 (ninS ne58 nin0)
            have f74 := f64.keep k69
            have f75 := f65.keep k69 (ninS ne59 nin0)
            have f76 := A56.keep k69
            have z69 := Nat.le_trans z56 k69.1
            have K69 := K56.trans k69 (allS (Or.inr kp56) all0)
            have N69 := Fr.app N55 n69
            show Gf p e below P T69 m 161 #[.val (.int fl), .val (.int ia), .val (.int ib), .val (.double va), .second, .val (.double vb), .second, .val (.ref ea), .val (.ref eb), .val (.int hL), .val (.int hR), .val (.ref jva), .val (.int (1 : Int32)), .unset, .unset, .unset, .unset] [(.ref li)]
            refine g_astore (pc' := 163) (Ls' := #[.val (.int fl), .val (.int ia), .val (.int ib), .val (.double va), .second, .val (.double vb), .second, .val (.ref ea), .val (.ref eb), .val (.int hL), .val (.int hR), .val (.ref jva), .val (.int (1 : Int32)), .val (.ref li), .unset, .unset, .unset]) X69 hx hby at_161 rfl rfl rfl rfl ?_
            refine g_aload (pc' := 165) X69 hx hby (v := (.ref li)) at_163 rfl rfl rfl ?_
            refine g_aload (pc' := 167) X69 hx hby (v := (.ref ea)) at_165 rfl rfl rfl ?_
            refine g_face (argsL := [(.ref ea)]) (pc' := 172) X69 hx hby (by rw [hml]; rfl) hZ hown e69 (own_rm9g l Z a0 hw [] li ea dE kD (0 : Int32) h69 n0 z69 p69_0 p69_1 p69_2 p69_3 ge56 f70 f71 ne57 f72) (hw _ (List.mem_of_getElem? (i := 65) rfl)) (hw _ (List.mem_of_getElem? (i := 66) rfl)) (hw _ (List.mem_of_getElem? (i := 67) rfl)) rfl (hw _ (List.mem_of_getElem? (i := 68) rfl)) (hw _ (List.mem_of_getElem? (i := 69) rfl)) (hw _ (List.mem_of_getElem? (i := 70) rfl)) (hw _ (List.mem_of_getElem? (i := 71) rfl)) (hw _ (List.mem_of_getElem? (i := 72) rfl)) (hw _ (List.mem_of_getElem? (i := 43) rfl)) (hw _ (List.mem_of_getElem? (i := 73) rfl)) (by decide) p69_0 own_pd11 rfl rfl (W := 0) rfl (by decide) (by decide) (by decide) (by decide) at_167 rfl ?_
            intro T80 v80 L80 X80 qq80
            obtain ⟨h80, e80⟩ : ∃ h, T80.heap = h := ⟨_, rfl⟩
            rw [e80] at qq80
            obtain ⟨tl, kl, rfl, n80, k80, p80_0, p80_1, p80_2, p80_3, p80_4, p80_5, p80_6, p80_7⟩ := qq80
            have f81 := own_sta_keep f70 k80 (allS ⟨_, p69_0⟩ all0)
            have f82 := f71.keep k80 (ninS ne57 nin0)
            have f83 := f72.keep k80
            have f84 := f73.keep k80 (ninS ne58 nin0)
            have f85 := f74.keep k80
            have f86 := f75.keep k80 (ninS ne59 nin0)
            have f87 := p69_0.keep k80
            have ge91 : n0 ≤ tl := Nat.le_trans z69 p80_4
            have ne92 : dE ≠ tl := Nat.ne_of_lt (Nat.lt_of_lt_of_le f71.lt p80_4)
            have ne93 : ea ≠ tl := Nat.ne_of_lt (Nat.lt_of_lt_of_le f72.lt p80_4)
            have ne94 : eb ≠ tl := Nat.ne_of_lt (Nat.lt_of_lt_of_le f74.lt p80_4)
            have ne95 : li ≠ tl := Nat.ne_of_lt (Nat.lt_of_lt_of_le p69_0.lt p80_4)
            have kp96 : h0.size ≤ tl := Nat.le_trans K69.1 p80_4
            have z80 := Nat.le_trans z69 k80.1
            have K80 := K69.trans k80 (allS (Or.inr kp56) all0)
            have N80 := Fr.app N69 n80
            show Gf p e below P T80 m 172 #[.val (.int fl), .val (.int ia), .val (.int ib), .val (.double va), .second, .val (.double vb), .second, .val (.ref ea), .val (.ref eb), .val (.int hL), .val (.int hR), .val (.ref jva), .val (.int (1 : Int32)), .val (.ref li), .unset, .unset, .unset] [(.int (1 : Int32))]
            refine g_pop (pc' := 173) X80 hx hby at_172 rfl rfl rfl ?_
            refine g_new (pc' := 176) X80 hx hby hZ hown (hw _ (List.mem_of_getElem? (i := 41) rfl)) (hw _ (List.mem_of_getElem? (i := 42) rfl)) (hw _ (List.mem_of_getElem? (i := 43) rfl)) e80 at_173 rfl (by decide) (by decide) ?_
            intro T97 h97 re X97 e97 E97 A97 D97 q97
            have ne98 : dE ≠ re := by rw [q97]; exact Nat.ne_of_lt f82.lt
            have ne99 : ea ≠ re := by rw [q97]; exact Nat.ne_of_lt f83.lt
            have ne100 : eb ≠ re := by rw [q97]; exact Nat.ne_of_lt f85.lt
            have ne101 : li ≠ re := by rw [q97]; exact Nat.ne_of_lt p80_0.lt
            have ne102 : tl ≠ re := by rw [q97]; exact Nat.ne_of_lt p80_5.lt
            have ge97 : n0 ≤ re := by rw [q97]; exact z80
            have kp97 : h0.size ≤ re := by rw [q97]; exact K80.1
            have f103 := f81.ext E97
            have f104 := f82.ext E97
            have f105 := f83.ext E97
            have f106 := f84.ext E97
            have f107 := f85.ext E97
            have f108 := f86.ext E97
            have f109 := p80_0.ext E97
            have f110 := p80_1.ext E97
            have f111 := p80_2.ext E97
            have f112 := p80_3.ext E97
            have f113 := p80_5.ext E97
            have f114 := p80_6.ext E97
            have f115 : Fld Z h97 re "java/util/AbstractList" "modCount" "I" (.int (0 : Int32)) := D97 (Or.inl (hw _ (List.mem_of_getElem? (i := 61) rfl))) (ty := .int) own_fd3
            have f116 : Fld Z h97 re "java/util/ArrayList" "elementData" "[Ljava/lang/Object;" .null := D97 (Or.inl (hw _ (List.mem_of_getElem? (i := 64) rfl))) (ty := (.array (.object "java/lang/Object"))) own_fd4
            have f117 : Fld Z h97 re "java/util/ArrayList" "size" "I" (.int (0 : Int32)) := D97 (Or.inl (hw _ (List.mem_of_getElem? (i := 77) rfl))) (ty := .int) own_fd3
            have z97 := Nat.le_trans z80 E97.1
            have K97 := K80.ext E97
            refine g_dup (pc' := 177) X97 hx hby at_176 rfl rfl rfl ?_
            refine g_init (argsL := []) (pc' := 180) X97 hx hby (by rw [hml]; rfl) hZ hown rfl e97 (own_rm6 l Z a0 hw [] re dE h97 n0 z97 A97 f115 f116 f117 ge97 f103) (hw _ (List.mem_of_getElem? (i := 44) rfl)) (hw _ (List.mem_of_getElem? (i := 45) rfl)) (hw _ (List.mem_of_getElem? (i := 43) rfl)) (hw _ (List.mem_of_getElem? (i := 46) rfl)) (by decide) own_pd0 rfl rfl (W := 1) rfl (by decide) (by decide) (by decide) (by decide) at_177 rfl ?_
            intro T118 v118 L118 X118 qq118
            obtain ⟨h118, e118⟩ : ∃ h, T118.heap = h := ⟨_, rfl⟩
            rw [e118] at qq118
            obtain ⟨rfl, n118, k118, p118_0, p118_1, p118_2, p118_3⟩ := qq118
            have f119 := own_sta_keep f103 k118 (allS ⟨_, A97⟩ all0)
            have f120 := f104.keep k118 (ninS ne98 nin0)
            have f121 := f105.keep k118
            have f122 := f106.keep k118 (ninS ne99 nin0)
            have f123 := f107.keep k118
            have f124 := f108.keep k118 (ninS ne100 nin0)
            have f125 := f109.keep k118
            have f126 := f110.keep k118 (ninS ne101 nin0)
            have f127 := f111.keep k118 (ninS ne101 nin0)
            have f128 := f112.keep k118 (ninS ne101 nin0)
            have f129 := f113.keep k118
            have f130 := f114.keep k118 (ninS ne102 nin0)
            have f131 := A97.keep k118
            have z118 := Nat.le_trans z97 k118.1
            have K118 := K97.trans k118 (allS (Or.inr kp97) all0)
            have N118 := Fr.app N80 n118
            show Gf p e below P T118 m 180 #[.val (.int fl), .val (.int ia), .val (.int ib), .val (.double va), .second, .val (.double vb), .second, .val (.ref ea), .val (.ref eb), .val (.int hL), .val (.int hR), .val (.ref jva), .val (.int (1 : Int32)), .val (.ref li), .unset, .unset, .unset] [(.ref re)]
            refine g_astore (pc' := 182) (Ls' := #[.val (.int fl), .val (.int ia), .val (.int ib), .val (.double va), .second, .val (.double vb), .second, .val (.ref ea), .val (.ref eb), .val (.int hL), .val (.int hR), .val (.ref jva), .val (.int (1 : Int32)), .val (.ref li), .val (.ref re), .unset, .unset]) X118 hx hby at_180 rfl rfl rfl rfl ?_
            refine g_aload (pc' := 184) X118 hx hby (v := (.ref re)) at_182 rfl rfl rfl ?_
            refine g_aload (pc' := 186) X118 hx hby (v := (.ref eb)) at_184 rfl rfl rfl ?_
            refine g_face (argsL := [(.ref eb)]) (pc' := 191) X118 hx hby (by rw [hml]; rfl) hZ hown e118 (own_rm9g l Z a0 hw [] re eb dE kD (0 : Int32) h118 n0 z118 p118_0 p118_1 p118_2 p118_3 ge97 f119 f120 ne98 f123) (hw _ (List.mem_of_getElem? (i := 65) rfl)) (hw _ (List.mem_of_getElem? (i := 66) rfl)) (hw _ (List.mem_of_getElem? (i := 67) rfl)) rfl (hw _ (List.mem_of_getElem? (i := 68) rfl)) (hw _ (List.mem_of_getElem? (i := 69) rfl)) (hw _ (List.mem_of_getElem? (i := 70) rfl)) (hw _ (List.mem_of_getElem? (i := 71) rfl)) (hw _ (List.mem_of_getElem? (i := 72) rfl)) (hw _ (List.mem_of_getElem? (i := 43) rfl)) (hw _ (List.mem_of_getElem? (i := 73) rfl)) (by decide) p118_0 own_pd11 rfl rfl (W := 0) rfl (by decide) (by decide) (by decide) (by decide) at_186 rfl ?_
            intro T135 v135 L135 X135 qq135
            obtain ⟨h135, e135⟩ : ∃ h, T135.heap = h := ⟨_, rfl⟩
            rw [e135] at qq135
            obtain ⟨tr, krr, rfl, n135, k135, p135_0, p135_1, p135_2, p135_3, p135_4, p135_5, p135_6, p135_7⟩ := qq135
            have f136 := own_sta_keep f119 k135 (allS ⟨_, p118_0⟩ all0)
            have f137 := f120.keep k135 (ninS ne98 nin0)
            have f138 := f121.keep k135
            have f139 := f122.keep k135 (ninS ne99 nin0)
            have f140 := f123.keep k135
            have f141 := f124.keep k135 (ninS ne100 nin0)
            have f142 := f125.keep k135
            have f143 := f126.keep k135 (ninS ne101 nin0)
            have f144 := f127.keep k135 (ninS ne101 nin0)
            have f145 := f128.keep k135 (ninS ne101 nin0)
            have f146 := f129.keep k135
            have f147 := f130.keep k135 (ninS ne102 nin0)
            have f148 := p118_0.keep k135
            have ge152 : n0 ≤ tr := Nat.le_trans z118 p135_4
            have ne153 : dE ≠ tr := Nat.ne_of_lt (Nat.lt_of_lt_of_le f120.lt p135_4)
            have ne154 : ea ≠ tr := Nat.ne_of_lt (Nat.lt_of_lt_of_le f121.lt p135_4)
            have ne155 : eb ≠ tr := Nat.ne_of_lt (Nat.lt_of_lt_of_le f123.lt p135_4)
            have ne156 : li ≠ tr := Nat.ne_of_lt (Nat.lt_of_lt_of_le f125.lt p135_4)
            have ne157 : re ≠ tr := Nat.ne_of_lt (Nat.lt_of_lt_of_le p118_0.lt p135_4)
            have ne158 : tl ≠ tr := Nat.ne_of_lt (Nat.lt_of_lt_of_le f129.lt p135_4)
            have kp159 : h0.size ≤ tr := Nat.le_trans K118.1 p135_4
            have z135 := Nat.le_trans z118 k135.1
            have K135 := K118.trans k135 (allS (Or.inr kp97) all0)
            have N135 := Fr.app N118 n135
            show Gf p e below P T135 m 191 #[.val (.int fl), .val (.int ia), .val (.int ib), .val (.double va), .second, .val (.double vb), .second, .val (.ref ea), .val (.ref eb), .val (.int hL), .val (.int hR), .val (.ref jva), .val (.int (1 : Int32)), .val (.ref li), .val (.ref re), .unset, .unset] [(.int (1 : Int32))]
            refine g_pop (pc' := 192) X135 hx hby at_191 rfl rfl rfl ?_
            refine g_aload (pc' := 194) X135 hx hby (v := (.ref li)) at_192 rfl rfl rfl ?_
            refine g_aload (pc' := 196) X135 hx hby (v := (.ref re)) at_194 rfl rfl rfl ?_
            by_cases hlt : cmpValue (FP.dcmp va vb) .g < (0 : Int32)
            · refine g_callS (argsL := [(.ref li), (.ref re)]) (pc' := 199) X135 hx hby (by rw [hml]; rfl) hZ hown e135 (own_rm14lt l Z a0 hw [] li re tl kl ea va tr krr eb vb h135 n0 z135 f142 f145 f144 f147 f138 f139 p135_0 p135_3 p135_2 p135_6 f140 f141 (hlt)) (hw _ (List.mem_of_getElem? (i := 100) rfl)) (hw _ (List.mem_of_getElem? (i := 101) rfl)) (hw _ (List.mem_of_getElem? (i := 25) rfl)) (hw _ (List.mem_of_getElem? (i := 102) rfl)) (by decide) own_pd13 rfl rfl (W := 0) rfl (by decide) (by decide) (by decide) (by decide) at_196 rfl ?_
              intro T160 v160 L160 X160 qq160
              obtain ⟨h160, e160⟩ : ∃ h, T160.heap = h := ⟨_, rfl⟩
              rw [e160] at qq160
              obtain ⟨jn, jt, kj, jf, js, rfl, n160, k160, p160_0, p160_1, p160_2, p160_3, p160_4, p160_5, p160_6, p160_7, p160_8, p160_9, p160_10⟩ := qq160
              have f161 := own_sta_keep f136 k160 all0
              have f162 := f137.keep k160 nin0
              have f163 := f138.keep k160
              have f164 := f139.keep k160 nin0
              have f165 := f140.keep k160
              have f166 := f141.keep k160 nin0
              have f167 := f142.keep k160
              have f168 := f143.keep k160 nin0
              have f169 := f144.keep k160 nin0
              have f170 := f145.keep k160 nin0
              have f171 := f146.keep k160
              have f172 := f147.keep k160 nin0
              have f173 := p135_0.keep k160
              have f174 := p135_1.keep k160 nin0
              have f175 := p135_2.keep k160 nin0
              have f176 := p135_3.keep k160 nin0
              have f177 := p135_5.keep k160
              have f178 := p135_6.keep k160 nin0
              have ge179 : n0 ≤ jn := Nat.le_trans z135 p160_0
              have ne180 : dE ≠ jn := Nat.ne_of_lt (Nat.lt_of_lt_of_le f137.lt p160_0)
              have ne181 : ea ≠ jn := Nat.ne_of_lt (Nat.lt_of_lt_of_le f138.lt p160_0)
              have ne182 : eb ≠ jn := Nat.ne_of_lt (Nat.lt_of_lt_of_le f140.lt p160_0)
              have ne183 : li ≠ jn := Nat.ne_of_lt (Nat.lt_of_lt_of_le f142.lt p160_0)
              have ne184 : re ≠ jn := Nat.ne_of_lt (Nat.lt_of_lt_of_le p135_0.lt p160_0)
              have ne185 : tl ≠ jn := Nat.ne_of_lt (Nat.lt_of_lt_of_le f146.lt p160_0)
              have ne186 : tr ≠ jn := Nat.ne_of_lt (Nat.lt_of_lt_of_le p135_5.lt p160_0)
              have kp187 : h0.size ≤ jn := Nat.le_trans K135.1 p160_0
              have z160 := Nat.le_trans z135 k160.1
              have K160 := K135.trans k160 all0
              have N160 := Fr.app N135 n160
              show Gf p e below P T160 m 199 #[.val (.int fl), .val (.int ia), .val (.int ib), .val (.double va), .second, .val (.double vb), .second, .val (.ref ea), .val (.ref eb), .val (.int hL), .val (.int hR), .val (.ref jva), .val (.int (1 : Int32)), .val (.ref li), .val (.ref re), .unset, .unset] [(.ref jn)]
              refine g_astore (pc' := 201) (Ls' := #[.val (.int fl), .val (.int ia), .val (.int ib), .val (.double va), .second, .val (.double vb), .second, .val (.ref ea), .val (.ref eb), .val (.int hL), .val (.int hR), .val (.ref jva), .val (.int (1 : Int32)), .val (.ref li), .val (.ref re), .val (.ref jn), .unset]) X160 hx hby at_199 rfl rfl rfl rfl ?_
              refine g_dloadN (pc' := 202) X160 hx hby (v := va) at_201 rfl rfl ?_
              refine g_dload (pc' := 204) X160 hx hby (v := vb) at_202 rfl rfl ?_
              refine g_dcmp (pc' := 205) (v := (cmpValue (FP.dcmp va vb) .l)) X160 hx hby at_204 rfl rfl rfl ?_
              refine g_ifY (pc' := 246) X160 hx hby at_205 rfl (feq (own_vl h_va h_vb hlt : ¬ ((cmpValue (FP.dcmp va vb) .l) = (0 : Int32)))).2 (by decide) (by decide) ?_
              refine g_aload (pc' := 248) X160 hx hby (v := (.ref jn)) at_246 rfl rfl rfl ?_
              refine g_face (argsL := []) (pc' := 253) X160 hx hby (by rw [hml]; rfl) hZ hown e160 (own_rm15 l Z a0 hw [] jn (2 : Int32) h160 n0 z160 p160_2) (hw _ (List.mem_of_getElem? (i := 147) rfl)) (hw _ (List.mem_of_getElem? (i := 105) rfl)) (hw _ (List.mem_of_getElem? (i := 106) rfl)) rfl (hw _ (List.mem_of_getElem? (i := 107) rfl)) (hw _ (List.mem_of_getElem? (i := 108) rfl)) (hw _ (List.mem_of_getElem? (i := 109) rfl)) (hw _ (List.mem_of_getElem? (i := 110) rfl)) (hw _ (List.mem_of_getElem? (i := 72) rfl)) (hw _ (List.mem_of_getElem? (i := 43) rfl)) (hw _ (List.mem_of_getElem? (i := 111) rfl)) (by decide) p160_1 own_pd7 rfl rfl (W := 0) rfl (by decide) (by decide) (by decide) (by decide) at_248 rfl ?_
              intro T188 v188 L188 X188 qq188
              obtain ⟨rfl, n188, e188⟩ := qq188
              have N188 := Fr.app N160 n188
              show Gf p e below P T188 m 253 #[.val (.int fl), .val (.int ia), .val (.int ib), .val (.double va), .second, .val (.double vb), .second, .val (.ref ea), .val (.ref eb), .val (.int hL), .val (.int hR), .val (.ref jva), .val (.int (1 : Int32)), .val (.ref li), .val (.ref re), .val (.ref jn), .unset] [(.int (2 : Int32))]
              refine g_iconst (pc' := 254) (v := (2 : Int32)) X188 hx hby at_253 rfl rfl ?_
              refine g_icN (pc' := 257) X188 hx hby at_254 rfl (teq (by decide : (2 : Int32) = (2 : Int32))).2 rfl ?_
              refine g_aload (pc' := 259) X188 hx hby (v := (.ref jn)) at_257 rfl rfl rfl ?_
              refine g_iconst (pc' := 260) (v := (0 : Int32)) X188 hx hby at_259 rfl rfl ?_
              refine g_face (argsL := [(.int (0 : Int32))]) (pc' := 265) X188 hx hby (by rw [hml]; rfl) hZ hown e188 (own_rm17C l Z a0 hw [] jn jt kj jf js h160 n0 z160 p160_3 p160_4 p160_1 p160_2) (hw _ (List.mem_of_getElem? (i := 148) rfl)) (hw _ (List.mem_of_getElem? (i := 116) rfl)) (hw _ (List.mem_of_getElem? (i := 117) rfl)) rfl (hw _ (List.mem_of_getElem? (i := 118) rfl)) (hw _ (List.mem_of_getElem? (i := 119) rfl)) (hw _ (List.mem_of_getElem? (i := 120) rfl)) (hw _ (List.mem_of_getElem? (i := 121) rfl)) (hw _ (List.mem_of_getElem? (i := 72) rfl)) (hw _ (List.mem_of_getElem? (i := 43) rfl)) (hw _ (List.mem_of_getElem? (i := 122) rfl)) (by decide) p160_1 own_pd6 rfl rfl (W := 0) rfl (by decide) (by decide) (by decide) (by decide) at_260 rfl ?_
              intro T189 v189 L189 X189 qq189
              obtain ⟨rfl, n189, e189⟩ := qq189
              have N189 := Fr.app N188 n189
              show Gf p e below P T189 m 265 #[.val (.int fl), .val (.int ia), .val (.int ib), .val (.double va), .second, .val (.double vb), .second, .val (.ref ea), .val (.ref eb), .val (.int hL), .val (.int hR), .val (.ref jva), .val (.int (1 : Int32)), .val (.ref li), .val (.ref re), .val (.ref jn), .unset] [(.ref jf)]
              refine g_cast (pc' := 268) X189 hx hby hZ hown (hw _ (List.mem_of_getElem? (i := 23) rfl)) e189 (Ins.of_exa p160_5 (hw _ (List.mem_of_getElem? (i := 149) rfl))) rfl at_265 rfl ?_
              intro T190 X190 e190
              refine g_virt (argsL := []) (pc' := 271) X190 hx hby (by rw [hml]; rfl) hZ hown e190 (own_rm5ln l Z a0 hw [] jf ea h160 n0 z160 p160_6 p160_7) (hw _ (List.mem_of_getElem? (i := 36) rfl)) (hw _ (List.mem_of_getElem? (i := 37) rfl)) (hw _ (List.mem_of_getElem? (i := 39) rfl)) (hw _ (List.mem_of_getElem? (i := 38) rfl)) (hw _ (List.mem_of_getElem? (i := 25) rfl)) (hw _ (List.mem_of_getElem? (i := 40) rfl)) (by decide) p160_5 own_pd14 rfl rfl (W := 0) rfl (by decide) (by decide) (by decide) (by decide) at_268 rfl ?_
              intro T191 v191 L191 X191 qq191
              obtain ⟨rfl, n191, e191⟩ := qq191
              have N191 := Fr.app N189 n191
              show Gf p e below P T191 m 271 #[.val (.int fl), .val (.int ia), .val (.int ib), .val (.double va), .second, .val (.double vb), .second, .val (.ref ea), .val (.ref eb), .val (.int hL), .val (.int hR), .val (.ref jva), .val (.int (1 : Int32)), .val (.ref li), .val (.ref re), .val (.ref jn), .unset] [(.int (0 : Int32))]
              refine g_ifN (pc' := 274) X191 hx hby at_271 rfl (teq (by decide : (0 : Int32) = (0 : Int32))).2 rfl ?_
              refine g_aload (pc' := 276) X191 hx hby (v := (.ref jn)) at_274 rfl rfl rfl ?_
              refine g_iconst (pc' := 277) (v := (1 : Int32)) X191 hx hby at_276 rfl rfl ?_
              refine g_face (argsL := [(.int (1 : Int32))]) (pc' := 282) X191 hx hby (by rw [hml]; rfl) hZ hown e191 (own_rm17D l Z a0 hw [] jn jt kj jf js h160 n0 z160 p160_3 p160_4 p160_1 p160_2) (hw _ (List.mem_of_getElem? (i := 148) rfl)) (hw _ (List.mem_of_getElem? (i := 116) rfl)) (hw _ (List.mem_of_getElem? (i := 117) rfl)) rfl (hw _ (List.mem_of_getElem? (i := 118) rfl)) (hw _ (List.mem_of_getElem? (i := 119) rfl)) (hw _ (List.mem_of_getElem? (i := 120) rfl)) (hw _ (List.mem_of_getElem? (i := 121) rfl)) (hw _ (List.mem_of_getElem? (i := 72) rfl)) (hw _ (List.mem_of_getElem? (i := 43) rfl)) (hw _ (List.mem_of_getElem? (i := 122) rfl)) (by decide) p160_1 own_pd6 rfl rfl (W := 0) rfl (by decide) (by decide) (by decide) (by decide) at_277 rfl ?_
              intro T192 v192 L192 X192 qq192
              obtain ⟨rfl, n192, e192⟩ := qq192
              have N192 := Fr.app N191 n192
              show Gf p e below P T192 m 282 #[.val (.int fl), .val (.int ia), .val (.int ib), .val (.double va), .second, .val (.double vb), .second, .val (.ref ea), .val (.ref eb), .val (.int hL), .val (.int hR), .val (.ref jva), .val (.int (1 : Int32)), .val (.ref li), .val (.ref re), .val (.ref jn), .unset] [(.ref js)]
              refine g_cast (pc' := 285) X192 hx hby hZ hown (hw _ (List.mem_of_getElem? (i := 23) rfl)) e192 (Ins.of_exa p160_8 (hw _ (List.mem_of_getElem? (i := 149) rfl))) rfl at_282 rfl ?_
              intro T193 X193 e193
              refine g_virt (argsL := []) (pc' := 288) X193 hx hby (by rw [hml]; rfl) hZ hown e193 (own_rm5nr l Z a0 hw [] js eb h160 n0 z160 p160_9 p160_10) (hw _ (List.mem_of_getElem? (i := 36) rfl)) (hw _ (List.mem_of_getElem? (i := 37) rfl)) (hw _ (List.mem_of_getElem? (i := 39) rfl)) (hw _ (List.mem_of_getElem? (i := 38) rfl)) (hw _ (List.mem_of_getElem? (i := 25) rfl)) (hw _ (List.mem_of_getElem? (i := 40) rfl)) (by decide) p160_8 own_pd14 rfl rfl (W := 0) rfl (by decide) (by decide) (by decide) (by decide) at_285 rfl ?_
              intro T194 v194 L194 X194 qq194
              obtain ⟨rfl, n194, e194⟩ := qq194
              have N194 := Fr.app N192 n194
              show Gf p e below P T194 m 288 #[.val (.int fl), .val (.int ia), .val (.int ib), .val (.double va), .second, .val (.double vb), .second, .val (.ref ea), .val (.ref eb), .val (.int hL), .val (.int hR), .val (.ref jva), .val (.int (1 : Int32)), .val (.ref li), .val (.ref re), .val (.ref jn), .unset] [(.int (0 : Int32))]
              refine g_ifN (pc' := 291) X194 hx hby at_288 rfl (teq (by decide : (0 : Int32) = (0 : Int32))).2 rfl ?_
              refine g_iconst (pc' := 292) (v := (1 : Int32)) X194 hx hby at_291 rfl rfl ?_
              refine g_goto (pc' := 296) X194 hx hby at_292 (by decide) (by decide) ?_
              refine g_istore (pc' := 298) (Ls' := #[.val (.int fl), .val (.int ia), .val (.int ib), .val (.double va), .second, .val (.double vb), .second, .val (.ref ea), .val (.ref eb), .val (.int hL), .val (.int hR), .val (.ref jva), .val (.int (1 : Int32)), .val (.ref li), .val (.ref re), .val (.ref jn), .val (.int (1 : Int32))]) X194 hx hby at_296 rfl rfl rfl ?_
              refine g_iload (pc' := 300) X194 hx hby (v := (1 : Int32)) at_298 rfl rfl ?_
              refine g_ifN (pc' := 303) X194 hx hby at_300 rfl (feq (by decide : ¬ ((1 : Int32) = (0 : Int32)))).1 rfl ?_
              refine g_iload (pc' := 305) X194 hx hby (v := (1 : Int32)) at_303 rfl rfl ?_
              refine g_ifN (pc' := 308) X194 hx hby at_305 rfl (feq (by decide : ¬ ((1 : Int32) = (0 : Int32)))).1 rfl ?_
              refine g_iconst (pc' := 309) (v := (1 : Int32)) X194 hx hby at_308 rfl rfl ?_
              refine g_goto (pc' := 313) X194 hx hby at_309 (by decide) (by decide) ?_
              exact g_retZ X194 hx hby hf hlk hret at_313 rfl (by simp) rfl (by decide) (by decide) e194 ⟨rfl, N194, K160⟩
            · by_cases hgt : cmpValue (FP.dcmp vb va) .g < (0 : Int32)
              · refine g_callS (argsL := [(.ref li), (.ref re)]) (pc' := 199) X135 hx hby (by rw [hml]; rfl) hZ hown e135 (own_rm14gt l Z a0 hw [] li re tl kl ea va tr krr eb vb h135 n0 z135 f142 f145 f144 f147 f138 f139 p135_0 p135_3 p135_2 p135_6 f140 f141 (hlt) (hgt)) (hw _ (List.mem_of_getElem? (i := 100) rfl)) (hw _ (List.mem_of_getElem? (i := 101) rfl)) (hw _ (List.mem_of_getElem? (i := 25) rfl)) (hw _ (List.mem_of_getElem? (i := 102) rfl)) (by decide) own_pd13 rfl rfl (W := 0) rfl (by decide) (by decide) (by decide) (by decide) at_196 rfl ?_
                intro T195 v195 L195 X195 qq195
                obtain ⟨h195, e195⟩ : ∃ h, T195.heap = h := ⟨_, rfl⟩
                rw [e195] at qq195
                obtain ⟨jn, jt, kj, jf, js, rfl, n195, k195, p195_0, p195_1, p195_2, p195_3, p195_4, p195_5, p195_6, p195_7, p195_8, p195_9, p195_10⟩ := qq195
                have f196 := own_sta_keep f136 k195 all0
                have f197 := f137.keep k195 nin0
                have f198 := f138.keep k195
                have f199 := f139.keep k195 nin0
                have f200 := f140.keep k195
                have f201 := f141.keep k195 nin0
                have f202 := f142.keep k195
                have f203 := f143.keep k195 nin0
                have f204 := f144.keep k195 nin0
                have f205 := f145.keep k195 nin0
                have f206 := f146.keep k195
                have f207 := f147.keep k195 nin0
                have f208 := p135_0.keep k195
                have f209 := p135_1.keep k195 nin0
                have f210 := p135_2.keep k195 nin0
                have f211 := p135_3.keep k195 nin0
                have f212 := p135_5.keep k195
                have f213 := p135_6.keep k195 nin0
                have ge214 : n0 ≤ jn := Nat.le_trans z135 p195_0
                have ne215 : dE ≠ jn := Nat.ne_of_lt (Nat.lt_of_lt_of_le f137.lt p195_0)
                have ne216 : ea ≠ jn := Nat.ne_of_lt (Nat.lt_of_lt_of_le f138.lt p195_0)
                have ne217 : eb ≠ jn := Nat.ne_of_lt (Nat.lt_of_lt_of_le f140.lt p195_0)
                have ne218 : li ≠ jn := Nat.ne_of_lt (Nat.lt_of_lt_of_le f142.lt p195_0)
                have ne219 : re ≠ jn := Nat.ne_of_lt (Nat.lt_of_lt_of_le p135_0.lt p195_0)
                have ne220 : tl ≠ jn := Nat.ne_of_lt (Nat.lt_of_lt_of_le f146.lt p195_0)
                have ne221 : tr ≠ jn := Nat.ne_of_lt (Nat.lt_of_lt_of_le p135_5.lt p195_0)
                have kp222 : h0.size ≤ jn := Nat.le_trans K135.1 p195_0
                have z195 := Nat.le_trans z135 k195.1
                have K195 := K135.trans k195 all0
                have N195 := Fr.app N135 n195
                show Gf p e below P T195 m 199 #[.val (.int fl), .val (.int ia), .val (.int ib), .val (.double va), .second, .val (.double vb), .second, .val (.ref ea), .val (.ref eb), .val (.int hL), .val (.int hR), .val (.ref jva), .val (.int (1 : Int32)), .val (.ref li), .val (.ref re), .unset, .unset] [(.ref jn)]
                refine g_astore (pc' := 201) (Ls' := #[.val (.int fl), .val (.int ia), .val (.int ib), .val (.double va), .second, .val (.double vb), .second, .val (.ref ea), .val (.ref eb), .val (.int hL), .val (.int hR), .val (.ref jva), .val (.int (1 : Int32)), .val (.ref li), .val (.ref re), .val (.ref jn), .unset]) X195 hx hby at_199 rfl rfl rfl rfl ?_
                refine g_dloadN (pc' := 202) X195 hx hby (v := va) at_201 rfl rfl ?_
                refine g_dload (pc' := 204) X195 hx hby (v := vb) at_202 rfl rfl ?_
                refine g_dcmp (pc' := 205) (v := (cmpValue (FP.dcmp va vb) .l)) X195 hx hby at_204 rfl rfl rfl ?_
                refine g_ifY (pc' := 246) X195 hx hby at_205 rfl (feq (own_vg h_va h_vb hgt : ¬ ((cmpValue (FP.dcmp va vb) .l) = (0 : Int32)))).2 (by decide) (by decide) ?_
                refine g_aload (pc' := 248) X195 hx hby (v := (.ref jn)) at_246 rfl rfl rfl ?_
                refine g_face (argsL := []) (pc' := 253) X195 hx hby (by rw [hml]; rfl) hZ hown e195 (own_rm15 l Z a0 hw [] jn (2 : Int32) h195 n0 z195 p195_2) (hw _ (List.mem_of_getElem? (i := 147) rfl)) (hw _ (List.mem_of_getElem? (i := 105) rfl)) (hw _ (List.mem_of_getElem? (i := 106) rfl)) rfl (hw _ (List.mem_of_getElem? (i := 107) rfl)) (hw _ (List.mem_of_getElem? (i := 108) rfl)) (hw _ (List.mem_of_getElem? (i := 109) rfl)) (hw _ (List.mem_of_getElem? (i := 110) rfl)) (hw _ (List.mem_of_getElem? (i := 72) rfl)) (hw _ (List.mem_of_getElem? (i := 43) rfl)) (hw _ (List.mem_of_getElem? (i := 111) rfl)) (by decide) p195_1 own_pd7 rfl rfl (W := 0) rfl (by decide) (by decide) (by decide) (by decide) at_248 rfl ?_
                intro T223 v223 L223 X223 qq223
                obtain ⟨rfl, n223, e223⟩ := qq223
                have N223 := Fr.app N195 n223
                show Gf p e below P T223 m 253 #[.val (.int fl), .val (.int ia), .val (.int ib), .val (.double va), .second, .val (.double vb), .second, .val (.ref ea), .val (.ref eb), .val (.int hL), .val (.int hR), .val (.ref jva), .val (.int (1 : Int32)), .val (.ref li), .val (.ref re), .val (.ref jn), .unset] [(.int (2 : Int32))]
                refine g_iconst (pc' := 254) (v := (2 : Int32)) X223 hx hby at_253 rfl rfl ?_
                refine g_icN (pc' := 257) X223 hx hby at_254 rfl (teq (by decide : (2 : Int32) = (2 : Int32))).2 rfl ?_
                refine g_aload (pc' := 259) X223 hx hby (v := (.ref jn)) at_257 rfl rfl rfl ?_
                refine g_iconst (pc' := 260) (v := (0 : Int32)) X223 hx hby at_259 rfl rfl ?_
                refine g_face (argsL := [(.int (0 : Int32))]) (pc' := 265) X223 hx hby (by rw [hml]; rfl) hZ hown e223 (own_rm17C l Z a0 hw [] jn jt kj jf js h195 n0 z195 p195_3 p195_4 p195_1 p195_2) (hw _ (List.mem_of_getElem? (i := 148) rfl)) (hw _ (List.mem_of_getElem? (i := 116) rfl)) (hw _ (List.mem_of_getElem? (i := 117) rfl)) rfl (hw _ (List.mem_of_getElem? (i := 118) rfl)) (hw _ (List.mem_of_getElem? (i := 119) rfl)) (hw _ (List.mem_of_getElem? (i := 120) rfl)) (hw _ (List.mem_of_getElem? (i := 121) rfl)) (hw _ (List.mem_of_getElem? (i := 72) rfl)) (hw _ (List.mem_of_getElem? (i := 43) rfl)) (hw _ (List.mem_of_getElem? (i := 122) rfl)) (by decide) p195_1 own_pd6 rfl rfl (W := 0) rfl (by decide) (by decide) (by decide) (by decide) at_260 rfl ?_
                intro T224 v224 L224 X224 qq224
                obtain ⟨rfl, n224, e224⟩ := qq224
                have N224 := Fr.app N223 n224
                show Gf p e below P T224 m 265 #[.val (.int fl), .val (.int ia), .val (.int ib), .val (.double va), .second, .val (.double vb), .second, .val (.ref ea), .val (.ref eb), .val (.int hL), .val (.int hR), .val (.ref jva), .val (.int (1 : Int32)), .val (.ref li), .val (.ref re), .val (.ref jn), .unset] [(.ref jf)]
                refine g_cast (pc' := 268) X224 hx hby hZ hown (hw _ (List.mem_of_getElem? (i := 23) rfl)) e224 (Ins.of_exa p195_5 (hw _ (List.mem_of_getElem? (i := 149) rfl))) rfl at_265 rfl ?_
                intro T225 X225 e225
                refine g_virt (argsL := []) (pc' := 271) X225 hx hby (by rw [hml]; rfl) hZ hown e225 (own_rm5nr l Z a0 hw [] jf eb h195 n0 z195 p195_6 p195_7) (hw _ (List.mem_of_getElem? (i := 36) rfl)) (hw _ (List.mem_of_getElem? (i := 37) rfl)) (hw _ (List.mem_of_getElem? (i := 39) rfl)) (hw _ (List.mem_of_getElem? (i := 38) rfl)) (hw _ (List.mem_of_getElem? (i := 25) rfl)) (hw _ (List.mem_of_getElem? (i := 40) rfl)) (by decide) p195_5 own_pd14 rfl rfl (W := 0) rfl (by decide) (by decide) (by decide) (by decide) at_268 rfl ?_
                intro T226 v226 L226 X226 qq226
                obtain ⟨rfl, n226, e226⟩ := qq226
                have N226 := Fr.app N224 n226
                show Gf p e below P T226 m 271 #[.val (.int fl), .val (.int ia), .val (.int ib), .val (.double va), .second, .val (.double vb), .second, .val (.ref ea), .val (.ref eb), .val (.int hL), .val (.int hR), .val (.ref jva), .val (.int (1 : Int32)), .val (.ref li), .val (.ref re), .val (.ref jn), .unset] [(.int (0 : Int32))]
                refine g_ifN (pc' := 274) X226 hx hby at_271 rfl (teq (by decide : (0 : Int32) = (0 : Int32))).2 rfl ?_
                refine g_aload (pc' := 276) X226 hx hby (v := (.ref jn)) at_274 rfl rfl rfl ?_
                refine g_iconst (pc' := 277) (v := (1 : Int32)) X226 hx hby at_276 rfl rfl ?_
                refine g_face (argsL := [(.int (1 : Int32))]) (pc' := 282) X226 hx hby (by rw [hml]; rfl) hZ hown e226 (own_rm17D l Z a0 hw [] jn jt kj jf js h195 n0 z195 p195_3 p195_4 p195_1 p195_2) (hw _ (List.mem_of_getElem? (i := 148) rfl)) (hw _ (List.mem_of_getElem? (i := 116) rfl)) (hw _ (List.mem_of_getElem? (i := 117) rfl)) rfl (hw _ (List.mem_of_getElem? (i := 118) rfl)) (hw _ (List.mem_of_getElem? (i := 119) rfl)) (hw _ (List.mem_of_getElem? (i := 120) rfl)) (hw _ (List.mem_of_getElem? (i := 121) rfl)) (hw _ (List.mem_of_getElem? (i := 72) rfl)) (hw _ (List.mem_of_getElem? (i := 43) rfl)) (hw _ (List.mem_of_getElem? (i := 122) rfl)) (by decide) p195_1 own_pd6 rfl rfl (W := 0) rfl (by decide) (by decide) (by decide) (by decide) at_277 rfl ?_
                intro T227 v227 L227 X227 qq227
                obtain ⟨rfl, n227, e227⟩ := qq227
                have N227 := Fr.app N226 n227
                show Gf p e below P T227 m 282 #[.val (.int fl), .val (.int ia), .val (.int ib), .val (.double va), .second, .val (.double vb), .second, .val (.ref ea), .val (.ref eb), .val (.int hL), .val (.int hR), .val (.ref jva), .val (.int (1 : Int32)), .val (.ref li), .val (.ref re), .val (.ref jn), .unset] [(.ref js)]
                refine g_cast (pc' := 285) X227 hx hby hZ hown (hw _ (List.mem_of_getElem? (i := 23) rfl)) e227 (Ins.of_exa p195_8 (hw _ (List.mem_of_getElem? (i := 149) rfl))) rfl at_282 rfl ?_
                intro T228 X228 e228
                refine g_virt (argsL := []) (pc' := 288) X228 hx hby (by rw [hml]; rfl) hZ hown e228 (own_rm5ln l Z a0 hw [] js ea h195 n0 z195 p195_9 p195_10) (hw _ (List.mem_of_getElem? (i := 36) rfl)) (hw _ (List.mem_of_getElem? (i := 37) rfl)) (hw _ (List.mem_of_getElem? (i := 39) rfl)) (hw _ (List.mem_of_getElem? (i := 38) rfl)) (hw _ (List.mem_of_getElem? (i := 25) rfl)) (hw _ (List.mem_of_getElem? (i := 40) rfl)) (by decide) p195_8 own_pd14 rfl rfl (W := 0) rfl (by decide) (by decide) (by decide) (by decide) at_285 rfl ?_
                intro T229 v229 L229 X229 qq229
                obtain ⟨rfl, n229, e229⟩ := qq229
                have N229 := Fr.app N227 n229
                show Gf p e below P T229 m 288 #[.val (.int fl), .val (.int ia), .val (.int ib), .val (.double va), .second, .val (.double vb), .second, .val (.ref ea), .val (.ref eb), .val (.int hL), .val (.int hR), .val (.ref jva), .val (.int (1 : Int32)), .val (.ref li), .val (.ref re), .val (.ref jn), .unset] [(.int (0 : Int32))]
                refine g_ifN (pc' := 291) X229 hx hby at_288 rfl (teq (by decide : (0 : Int32) = (0 : Int32))).2 rfl ?_
                refine g_iconst (pc' := 292) (v := (1 : Int32)) X229 hx hby at_291 rfl rfl ?_
                refine g_goto (pc' := 296) X229 hx hby at_292 (by decide) (by decide) ?_
                refine g_istore (pc' := 298) (Ls' := #[.val (.int fl), .val (.int ia), .val (.int ib), .val (.double va), .second, .val (.double vb), .second, .val (.ref ea), .val (.ref eb), .val (.int hL), .val (.int hR), .val (.ref jva), .val (.int (1 : Int32)), .val (.ref li), .val (.ref re), .val (.ref jn), .val (.int (1 : Int32))]) X229 hx hby at_296 rfl rfl rfl ?_
                refine g_iload (pc' := 300) X229 hx hby (v := (1 : Int32)) at_298 rfl rfl ?_
                refine g_ifN (pc' := 303) X229 hx hby at_300 rfl (feq (by decide : ¬ ((1 : Int32) = (0 : Int32)))).1 rfl ?_
                refine g_iload (pc' := 305) X229 hx hby (v := (1 : Int32)) at_303 rfl rfl ?_
                refine g_ifN (pc' := 308) X229 hx hby at_305 rfl (feq (by decide : ¬ ((1 : Int32) = (0 : Int32)))).1 rfl ?_
                refine g_iconst (pc' := 309) (v := (1 : Int32)) X229 hx hby at_308 rfl rfl ?_
                refine g_goto (pc' := 313) X229 hx hby at_309 (by decide) (by decide) ?_
                exact g_retZ X229 hx hby hf hlk hret at_313 rfl (by simp) rfl (by decide) (by decide) e229 ⟨rfl, N229, K195⟩
              · refine g_callS (argsL := [(.ref li), (.ref re)]) (pc' := 199) X135 hx hby (by rw [hml]; rfl) hZ hown e135 (own_rm14eq l Z a0 hw [] li re tl kl ea va tr krr eb vb h135 n0 z135 f142 f145 f144 f147 f138 f139 p135_0 p135_3 p135_2 p135_6 f140 f141 (hlt) (hgt)) (hw _ (List.mem_of_getElem? (i := 100) rfl)) (hw _ (List.mem_of_getElem? (i := 101) rfl)) (hw _ (List.mem_of_getElem? (i := 25) rfl)) (hw _ (List.mem_of_getElem? (i := 102) rfl)) (by decide) own_pd13 rfl rfl (W := 0) rfl (by decide) (by decide) (by decide) (by decide) at_196 rfl ?_
                intro T230 v230 L230 X230 qq230
                obtain ⟨h230, e230⟩ : ∃ h, T230.heap = h := ⟨_, rfl⟩
                rw [e230] at qq230
                obtain ⟨jn, jt, kj, jf, rfl, n230, k230, p230_0, p230_1, p230_2, p230_3, p230_4, p230_5, p230_6, p230_7⟩ := qq230
                have f231 := own_sta_keep f136 k230 all0
                have f232 := f137.keep k230 nin0
                have f233 := f138.keep k230
                have f234 := f139.keep k230 nin0
                have f235 := f140.keep k230
                have f236 := f141.keep k230 nin0
                have f237 := f142.keep k230
                have f238 := f143.keep k230 nin0
                have f239 := f144.keep k230 nin0
                have f240 := f145.keep k230 nin0
                have f241 := f146.keep k230
                have f242 := f147.keep k230 nin0
                have f243 := p135_0.keep k230
                have f244 := p135_1.keep k230 nin0
                have f245 := p135_2.keep k230 nin0
                have f246 := p135_3.keep k230 nin0
                have f247 := p135_5.keep k230
                have f248 := p135_6.keep k230 nin0
                have ge249 : n0 ≤ jn := Nat.le_trans z135 p230_0
                have ne250 : dE ≠ jn := Nat.ne_of_lt (Nat.lt_of_lt_of_le f137.lt p230_0)
                have ne251 : ea ≠ jn := Nat.ne_of_lt (Nat.lt_of_lt_of_le f138.lt p230_0)
                have ne252 : eb ≠ jn := Nat.ne_of_lt (Nat.lt_of_lt_of_le f140.lt p230_0)
                have ne253 : li ≠ jn := Nat.ne_of_lt (Nat.lt_of_lt_of_le f142.lt p230_0)
                have ne254 : re ≠ jn := Nat.ne_of_lt (Nat.lt_of_lt_of_le p135_0.lt p230_0)
                have ne255 : tl ≠ jn := Nat.ne_of_lt (Nat.lt_of_lt_of_le f146.lt p230_0)
                have ne256 : tr ≠ jn := Nat.ne_of_lt (Nat.lt_of_lt_of_le p135_5.lt p230_0)
                have kp257 : h0.size ≤ jn := Nat.le_trans K135.1 p230_0
                have z230 := Nat.le_trans z135 k230.1
                have K230 := K135.trans k230 all0
                have N230 := Fr.app N135 n230
                show Gf p e below P T230 m 199 #[.val (.int fl), .val (.int ia), .val (.int ib), .val (.double va), .second, .val (.double vb), .second, .val (.ref ea), .val (.ref eb), .val (.int hL), .val (.int hR), .val (.ref jva), .val (.int (1 : Int32)), .val (.ref li), .val (.ref re), .unset, .unset] [(.ref jn)]
                refine g_astore (pc' := 201) (Ls' := #[.val (.int fl), .val (.int ia), .val (.int ib), .val (.double va), .second, .val (.double vb), .second, .val (.ref ea), .val (.ref eb), .val (.int hL), .val (.int hR), .val (.ref jva), .val (.int (1 : Int32)), .val (.ref li), .val (.ref re), .val (.ref jn), .unset]) X230 hx hby at_199 rfl rfl rfl rfl ?_
                refine g_dloadN (pc' := 202) X230 hx hby (v := va) at_201 rfl rfl ?_
                refine g_dload (pc' := 204) X230 hx hby (v := vb) at_202 rfl rfl ?_
                refine g_dcmp (pc' := 205) (v := (cmpValue (FP.dcmp va vb) .l)) X230 hx hby at_204 rfl rfl rfl ?_
                refine g_ifN (pc' := 208) X230 hx hby at_205 rfl (teq (own_ve h_va h_vb hlt hgt : (cmpValue (FP.dcmp va vb) .l) = (0 : Int32))).2 rfl ?_
                refine g_aload (pc' := 210) X230 hx hby (v := (.ref jn)) at_208 rfl rfl rfl ?_
                refine g_face (argsL := []) (pc' := 215) X230 hx hby (by rw [hml]; rfl) hZ hown e230 (own_rm15 l Z a0 hw [] jn (1 : Int32) h230 n0 z230 p230_2) (hw _ (List.mem_of_getElem? (i := 147) rfl)) (hw _ (List.mem_of_getElem? (i := 105) rfl)) (hw _ (List.mem_of_getElem? (i := 106) rfl)) rfl (hw _ (List.mem_of_getElem? (i := 107) rfl)) (hw _ (List.mem_of_getElem? (i := 108) rfl)) (hw _ (List.mem_of_getElem? (i := 109) rfl)) (hw _ (List.mem_of_getElem? (i := 110) rfl)) (hw _ (List.mem_of_getElem? (i := 72) rfl)) (hw _ (List.mem_of_getElem? (i := 43) rfl)) (hw _ (List.mem_of_getElem? (i := 111) rfl)) (by decide) p230_1 own_pd7 rfl rfl (W := 0) rfl (by decide) (by decide) (by decide) (by decide) at_210 rfl ?_
                intro T258 v258 L258 X258 qq258
                obtain ⟨rfl, n258, e258⟩ := qq258
                have N258 := Fr.app N230 n258
                show Gf p e below P T258 m 215 #[.val (.int fl), .val (.int ia), .val (.int ib), .val (.double va), .second, .val (.double vb), .second, .val (.ref ea), .val (.ref eb), .val (.int hL), .val (.int hR), .val (.ref jva), .val (.int (1 : Int32)), .val (.ref li), .val (.ref re), .val (.ref jn), .unset] [(.int (1 : Int32))]
                refine g_iconst (pc' := 216) (v := (1 : Int32)) X258 hx hby at_215 rfl rfl ?_
                refine g_icN (pc' := 219) X258 hx hby at_216 rfl (teq (by decide : (1 : Int32) = (1 : Int32))).2 rfl ?_
                refine g_aload (pc' := 221) X258 hx hby (v := (.ref jn)) at_219 rfl rfl rfl ?_
                refine g_iconst (pc' := 222) (v := (0 : Int32)) X258 hx hby at_221 rfl rfl ?_
                refine g_face (argsL := [(.int (0 : Int32))]) (pc' := 227) X258 hx hby (by rw [hml]; rfl) hZ hown e258 (own_rm17B l Z a0 hw [] jn jt kj jf h230 n0 z230 p230_3 p230_4 p230_1 p230_2) (hw _ (List.mem_of_getElem? (i := 148) rfl)) (hw _ (List.mem_of_getElem? (i := 116) rfl)) (hw _ (List.mem_of_getElem? (i := 117) rfl)) rfl (hw _ (List.mem_of_getElem? (i := 118) rfl)) (hw _ (List.mem_of_getElem? (i := 119) rfl)) (hw _ (List.mem_of_getElem? (i := 120) rfl)) (hw _ (List.mem_of_getElem? (i := 121) rfl)) (hw _ (List.mem_of_getElem? (i := 72) rfl)) (hw _ (List.mem_of_getElem? (i := 43) rfl)) (hw _ (List.mem_of_getElem? (i := 122) rfl)) (by decide) p230_1 own_pd6 rfl rfl (W := 0) rfl (by decide) (by decide) (by decide) (by decide) at_222 rfl ?_
                intro T259 v259 L259 X259 qq259
                obtain ⟨rfl, n259, e259⟩ := qq259
                have N259 := Fr.app N258 n259
                show Gf p e below P T259 m 227 #[.val (.int fl), .val (.int ia), .val (.int ib), .val (.double va), .second, .val (.double vb), .second, .val (.ref ea), .val (.ref eb), .val (.int hL), .val (.int hR), .val (.ref jva), .val (.int (1 : Int32)), .val (.ref li), .val (.ref re), .val (.ref jn), .unset] [(.ref jf)]
                refine g_cast (pc' := 230) X259 hx hby hZ hown (hw _ (List.mem_of_getElem? (i := 23) rfl)) e259 (Ins.of_exa p230_5 (hw _ (List.mem_of_getElem? (i := 149) rfl))) rfl at_227 rfl ?_
                intro T260 X260 e260
                refine g_virt (argsL := []) (pc' := 233) X260 hx hby (by rw [hml]; rfl) hZ hown e260 (own_rm5lr l Z a0 hw [] jf ea eb h230 n0 z230 p230_6 p230_7) (hw _ (List.mem_of_getElem? (i := 36) rfl)) (hw _ (List.mem_of_getElem? (i := 37) rfl)) (hw _ (List.mem_of_getElem? (i := 39) rfl)) (hw _ (List.mem_of_getElem? (i := 38) rfl)) (hw _ (List.mem_of_getElem? (i := 25) rfl)) (hw _ (List.mem_of_getElem? (i := 40) rfl)) (by decide) p230_5 own_pd14 rfl rfl (W := 0) rfl (by decide) (by decide) (by decide) (by decide) at_230 rfl ?_
                intro T261 v261 L261 X261 qq261
                obtain ⟨rfl, n261, e261⟩ := qq261
                have N261 := Fr.app N259 n261
                show Gf p e below P T261 m 233 #[.val (.int fl), .val (.int ia), .val (.int ib), .val (.double va), .second, .val (.double vb), .second, .val (.ref ea), .val (.ref eb), .val (.int hL), .val (.int hR), .val (.ref jva), .val (.int (1 : Int32)), .val (.ref li), .val (.ref re), .val (.ref jn), .unset] [(.int (1 : Int32))]
                refine g_ifN (pc' := 236) X261 hx hby at_233 rfl (feq (by decide : ¬ ((1 : Int32) = (0 : Int32)))).1 rfl ?_
                refine g_iconst (pc' := 237) (v := (1 : Int32)) X261 hx hby at_236 rfl rfl ?_
                refine g_goto (pc' := 241) X261 hx hby at_237 (by decide) (by decide) ?_
                refine g_istore (pc' := 243) (Ls' := #[.val (.int fl), .val (.int ia), .val (.int ib), .val (.double va), .second, .val (.double vb), .second, .val (.ref ea), .val (.ref eb), .val (.int hL), .val (.int hR), .val (.ref jva), .val (.int (1 : Int32)), .val (.ref li), .val (.ref re), .val (.ref jn), .val (.int (1 : Int32))]) X261 hx hby at_241 rfl rfl rfl ?_
                refine g_goto (pc' := 298) X261 hx hby at_243 (by decide) (by decide) ?_
                refine g_iload (pc' := 300) X261 hx hby (v := (1 : Int32)) at_298 rfl rfl ?_
                refine g_ifN (pc' := 303) X261 hx hby at_300 rfl (feq (by decide : ¬ ((1 : Int32) = (0 : Int32)))).1 rfl ?_
                refine g_iload (pc' := 305) X261 hx hby (v := (1 : Int32)) at_303 rfl rfl ?_
                refine g_ifN (pc' := 308) X261 hx hby at_305 rfl (feq (by decide : ¬ ((1 : Int32) = (0 : Int32)))).1 rfl ?_
                refine g_iconst (pc' := 309) (v := (1 : Int32)) X261 hx hby at_308 rfl rfl ?_
                refine g_goto (pc' := 313) X261 hx hby at_309 (by decide) (by decide) ?_
                exact g_retZ X261 hx hby hf hlk hret at_313 rfl (by simp) rfl (by decide) (by decide) e261 ⟨rfl, N261, K230⟩
          by_cases hc99 : hL = (0 : Int32)
          · refine g_ifY (pc' := 107) X42 hx hby at_99 rfl (teq hc99).1 (by decide) (by decide) ?_
            refine g_aconst_null (pc' := 108) X42 hx hby at_107 rfl ?_
            refine g_iload (pc' := 110) X42 hx hby (v := hR) at_108 rfl rfl ?_
            by_cases hc110 : hR = (0 : Int32)
            · refine g_ifY (pc' := 118) X42 hx hby at_110 rfl (teq hc110).1 (by decide) (by decide) ?_
              refine g_aconst_null (pc' := 119) X42 hx hby at_118 rfl ?_
              refine g_init (argsL := [(.double va), .null, .null]) (pc' := 122) X42 hx hby (by rw [hml]; rfl) hZ hown rfl e42 (own_rm4nn l Z a0 hw [] jo va  h42 n0 z42 A42 f52 f53 f54 ge42) (hw _ (List.mem_of_getElem? (i := 26) rfl)) (hw _ (List.mem_of_getElem? (i := 27) rfl)) (hw _ (List.mem_of_getElem? (i := 25) rfl)) (hw _ (List.mem_of_getElem? (i := 28) rfl)) (by decide) own_pd10 rfl rfl (W := 1) rfl (by decide) (by decide) (by decide) (by decide) at_119 rfl ?_
              intro T262 v262 L262 X262 qq262
              obtain ⟨h262, e262⟩ : ∃ h, T262.heap = h := ⟨_, rfl⟩
              rw [e262] at qq262
              obtain ⟨rfl, n262, k262, p262_0, p262_1, p262_2⟩ := qq262
              have f263 := own_sta_keep f46 k262 (allS ⟨_, A42⟩ all0)
              have f264 := f47.keep k262 (ninS ne43 nin0)
              have f265 := f48.keep k262
              have f266 := f49.keep k262 (ninS ne44 nin0)
              have f267 := f50.keep k262
              have f268 := f51.keep k262 (ninS ne45 nin0)
              have f269 := A42.keep k262
              have z262 := Nat.le_trans z42 k262.1
              have K262 := K42.trans k262 (allS (Or.inr kp42) all0)
              have N262 := Fr.app N30 n262
              show Gf p e below P T262 m 122 #[.val (.int fl), .val (.int ia), .val (.int ib), .val (.double va), .second, .val (.double vb), .second, .val (.ref ea), .val (.ref eb), .val (.int hL), .val (.int hR), .unset, .unset, .unset, .unset, .unset, .unset] [(.ref jo)]
              refine g_astore (pc' := 124) (Ls' := #[.val (.int fl), .val (.int ia), .val (.int ib), .val (.double va), .second, .val (.double vb), .second, .val (.ref ea), .val (.ref eb), .val (.int hL), .val (.int hR), .val (.ref jo), .unset, .unset, .unset, .unset, .unset]) X262 hx hby at_122 rfl rfl rfl rfl ?_
              refine g_aload (pc' := 126) X262 hx hby (v := (.ref jo)) at_124 rfl rfl rfl ?_
              refine g_virt (argsL := []) (pc' := 129) X262 hx hby (by rw [hml]; rfl) hZ hown e262 (own_rm5nn l Z a0 hw [] jo  h262 n0 z262 p262_1 p262_2) (hw _ (List.mem_of_getElem? (i := 36) rfl)) (hw _ (List.mem_of_getElem? (i := 37) rfl)) (hw _ (List.mem_of_getElem? (i := 39) rfl)) (hw _ (List.mem_of_getElem? (i := 38) rfl)) (hw _ (List.mem_of_getElem? (i := 25) rfl)) (hw _ (List.mem_of_getElem? (i := 40) rfl)) (by decide) p262_0 own_pd14 rfl rfl (W := 0) rfl (by decide) (by decide) (by decide) (by decide) at_126 rfl ?_
              intro T273 v273 L273 X273 qq273
              obtain ⟨rfl, n273, e273⟩ := qq273
              have N273 := Fr.app N262 n273
              show Gf p e below P T273 m 129 #[.val (.int fl), .val (.int ia), .val (.int ib), .val (.double va), .second, .val (.double vb), .second, .val (.ref ea), .val (.ref eb), .val (.int hL), .val (.int hR), .val (.ref jo), .unset, .unset, .unset, .unset, .unset] [(.int (0 : Int32))]
              refine g_iload (pc' := 131) X273 hx hby (v := hL) at_129 rfl rfl ?_
              refine g_ifY (pc' := 143) X273 hx hby at_131 rfl (teq (hc99 : hL = (0 : Int32))).1 (by decide) (by decide) ?_
              refine g_iconst (pc' := 144) (v := (0 : Int32)) X273 hx hby at_143 rfl rfl ?_
              refine g_icN (pc' := 147) X273 hx hby at_144 rfl (teq (by decide : (0 : Int32) = (0 : Int32))).2 rfl ?_
              refine g_iconst (pc' := 148) (v := (1 : Int32)) X273 hx hby at_147 rfl rfl ?_
              refine g_goto (pc' := 152) X273 hx hby at_148 (by decide) (by decide) ?_
              refine g_istore (pc' := 154) (Ls' := #[.val (.int fl), .val (.int ia), .val (.int ib), .val (.double va), .second, .val (.double vb), .second, .val (.ref ea), .val (.ref eb), .val (.int hL), .val (.int hR), .val (.ref jo), .val (.int (1 : Int32)), .unset, .unset, .unset, .unset]) X273 hx hby at_152 rfl rfl rfl ?_
              exact Jt55 _ _ _ jo X273 e273 N273 z262 K262 f263 f264 f265 f266 f267 f268
            · refine g_ifN (pc' := 113) X42 hx hby at_110 rfl (feq hc110).1 rfl ?_
              refine g_aload (pc' := 115) X42 hx hby (v := (.ref eb)) at_113 rfl rfl rfl ?_
              refine g_goto (pc' := 119) X42 hx hby at_115 (by decide) (by decide) ?_
              refine g_init (argsL := [(.double va), .null, (.ref eb)]) (pc' := 122) X42 hx hby (by rw [hml]; rfl) hZ hown rfl e42 (own_rm4nr l Z a0 hw [] jo va eb  h42 n0 z42 A42 f52 f53 f54 ge42) (hw _ (List.mem_of_getElem? (i := 26) rfl)) (hw _ (List.mem_of_getElem? (i := 27) rfl)) (hw _ (List.mem_of_getElem? (i := 25) rfl)) (hw _ (List.mem_of_getElem? (i := 28) rfl)) (by decide) own_pd10 rfl rfl (W := 1) rfl (by decide) (by decide) (by decide) (by decide) at_119 rfl ?_
              intro T274 v274 L274 X274 qq274
              obtain ⟨h274, e274⟩ : ∃ h, T274.heap = h := ⟨_, rfl⟩
              rw [e274] at qq274
              obtain ⟨rfl, n274, k274, p274_0, p274_1, p274_2⟩ := qq274
              have f275 := own_sta_keep f46 k274 (allS ⟨_, A42⟩ all0)
              have f276 := f47.keep k274 (ninS ne43 nin0)
              have f277 := f48.keep k274
              have f278 := f49.keep k274 (ninS ne44 nin0)
              have f279 := f50.keep k274
              have f280 := f51.keep k274 (ninS ne45 nin0)
              have f281 := A42.keep k274
              have z274 := Nat.le_trans z42 k274.1
              have K274 := K42.trans k274 (allS (Or.inr kp42) all0)
              have N274 := Fr.app N30 n274
              show Gf p e below P T274 m 122 #[.val (.int fl), .val (.int ia), .val (.int ib), .val (.double va), .second, .val (.double vb), .second, .val (.ref ea), .val (.ref eb), .val (.int hL), .val (.int hR), .unset, .unset, .unset, .unset, .unset, .unset] [(.ref jo)]
              refine g_astore (pc' := 124) (Ls' := #[.val (.int fl), .val (.int ia), .val (.int ib), .val (.double va), .second, .val (.double vb), .second, .val (.ref ea), .val (.ref eb), .val (.int hL), .val (.int hR), .val (.ref jo), .unset, .unset, .unset, .unset, .unset]) X274 hx hby at_122 rfl rfl rfl rfl ?_
              refine g_aload (pc' := 126) X274 hx hby (v := (.ref jo)) at_124 rfl rfl rfl ?_
              refine g_virt (argsL := []) (pc' := 129) X274 hx hby (by rw [hml]; rfl) hZ hown e274 (own_rm5nr l Z a0 hw [] jo eb h274 n0 z274 p274_1 p274_2) (hw _ (List.mem_of_getElem? (i := 36) rfl)) (hw _ (List.mem_of_getElem? (i := 37) rfl)) (hw _ (List.mem_of_getElem? (i := 39) rfl)) (hw _ (List.mem_of_getElem? (i := 38) rfl)) (hw _ (List.mem_of_getElem? (i := 25) rfl)) (hw _ (List.mem_of_getElem? (i := 40) rfl)) (by decide) p274_0 own_pd14 rfl rfl (W := 0) rfl (by decide) (by decide) (by decide) (by decide) at_126 rfl ?_
              intro T285 v285 L285 X285 qq285
              obtain ⟨rfl, n285, e285⟩ := qq285
              have N285 := Fr.app N274 n285
              show Gf p e below P T285 m 129 #[.val (.int fl), .val (.int ia), .val (.int ib), .val (.double va), .second, .val (.double vb), .second, .val (.ref ea), .val (.ref eb), .val (.int hL), .val (.int hR), .val (.ref jo), .unset, .unset, .unset, .unset, .unset] [(.int (0 : Int32))]
              refine g_iload (pc' := 131) X285 hx hby (v := hL) at_129 rfl rfl ?_
              refine g_ifY (pc' := 143) X285 hx hby at_131 rfl (teq (hc99 : hL = (0 : Int32))).1 (by decide) (by decide) ?_
              refine g_iconst (pc' := 144) (v := (0 : Int32)) X285 hx hby at_143 rfl rfl ?_
              refine g_icN (pc' := 147) X285 hx hby at_144 rfl (teq (by decide : (0 : Int32) = (0 : Int32))).2 rfl ?_
              refine g_iconst (pc' := 148) (v := (1 : Int32)) X285 hx hby at_147 rfl rfl ?_
              refine g_goto (pc' := 152) X285 hx hby at_148 (by decide) (by decide) ?_
              refine g_istore (pc' := 154) (Ls' := #[.val (.int fl), .val (.int ia), .val (.int ib), .val (.double va), .second, .val (.double vb), .second, .val (.ref ea), .val (.ref eb), .val (.int hL), .val (.int hR), .val (.ref jo), .val (.int (1 : Int32)), .unset, .unset, .unset, .unset]) X285 hx hby at_152 rfl rfl rfl ?_
              exact Jt55 _ _ _ jo X285 e285 N285 z274 K274 f275 f276 f277 f278 f279 f280
          · refine g_ifN (pc' := 102) X42 hx hby at_99 rfl (feq hc99).1 rfl ?_
            refine g_aload (pc' := 104) X42 hx hby (v := (.ref ea)) at_102 rfl rfl rfl ?_
            refine g_goto (pc' := 108) X42 hx hby at_104 (by decide) (by decide) ?_
            refine g_iload (pc' := 110) X42 hx hby (v := hR) at_108 rfl rfl ?_
            by_cases hc110 : hR = (0 : Int32)
            · refine g_ifY (pc' := 118) X42 hx hby at_110 rfl (teq hc110).1 (by decide) (by decide) ?_
              refine g_aconst_null (pc' := 119) X42 hx hby at_118 rfl ?_
              refine g_init (argsL := [(.double va), (.ref ea), .null]) (pc' := 122) X42 hx hby (by rw [hml]; rfl) hZ hown rfl e42 (own_rm4ln l Z a0 hw [] jo va ea  h42 n0 z42 A42 f52 f53 f54 ge42) (hw _ (List.mem_of_getElem? (i := 26) rfl)) (hw _ (List.mem_of_getElem? (i := 27) rfl)) (hw _ (List.mem_of_getElem? (i := 25) rfl)) (hw _ (List.mem_of_getElem? (i := 28) rfl)) (by decide) own_pd10 rfl rfl (W := 1) rfl (by decide) (by decide) (by decide) (by decide) at_119 rfl ?_
              intro T286 v286 L286 X286 qq286
              obtain ⟨h286, e286⟩ : ∃ h, T286.heap = h := ⟨_, rfl⟩
              rw [e286] at qq286
              obtain ⟨rfl, n286, k286, p286_0, p286_1, p286_2⟩ := qq286
              have f287 := own_sta_keep f46 k286 (allS ⟨_, A42⟩ all0)
              have f288 := f47.keep k286 (ninS ne43 nin0)
              have f289 := f48.keep k286
              have f290 := f49.keep k286 (ninS ne44 nin0)
              have f291 := f50.keep k286
              have f292 := f51.keep k286 (ninS ne45 nin0)
              have f293 := A42.keep k286
              have z286 := Nat.le_trans z42 k286.1
              have K286 := K42.trans k286 (allS (Or.inr kp42) all0)
              have N286 := Fr.app N30 n286
              show Gf p e below P T286 m 122 #[.val (.int fl), .val (.int ia), .val (.int ib), .val (.double va), .second, .val (.double vb), .second, .val (.ref ea), .val (.ref eb), .val (.int hL), .val (.int hR), .unset, .unset, .unset, .unset, .unset, .unset] [(.ref jo)]
              refine g_astore (pc' := 124) (Ls' := #[.val (.int fl), .val (.int ia), .val (.int ib), .val (.double va), .second, .val (.double vb), .second, .val (.ref ea), .val (.ref eb), .val (.int hL), .val (.int hR), .val (.ref jo), .unset, .unset, .unset, .unset, .unset]) X286 hx hby at_122 rfl rfl rfl rfl ?_
              refine g_aload (pc' := 126) X286 hx hby (v := (.ref jo)) at_124 rfl rfl rfl ?_
              refine g_virt (argsL := []) (pc' := 129) X286 hx hby (by rw [hml]; rfl) hZ hown e286 (own_rm5ln l Z a0 hw [] jo ea h286 n0 z286 p286_1 p286_2) (hw _ (List.mem_of_getElem? (i := 36) rfl)) (hw _ (List.mem_of_getElem? (i := 37) rfl)) (hw _ (List.mem_of_getElem? (i := 39) rfl)) (hw _ (List.mem_of_getElem? (i := 38) rfl)) (hw _ (List.mem_of_getElem? (i := 25) rfl)) (hw _ (List.mem_of_getElem? (i := 40) rfl)) (by decide) p286_0 own_pd14 rfl rfl (W := 0) rfl (by decide) (by decide) (by decide) (by decide) at_126 rfl ?_
              intro T297 v297 L297 X297 qq297
              obtain ⟨rfl, n297, e297⟩ := qq297
              have N297 := Fr.app N286 n297
              show Gf p e below P T297 m 129 #[.val (.int fl), .val (.int ia), .val (.int ib), .val (.double va), .second, .val (.double vb), .second, .val (.ref ea), .val (.ref eb), .val (.int hL), .val (.int hR), .val (.ref jo), .unset, .unset, .unset, .unset, .unset] [(.int (0 : Int32))]
              refine g_iload (pc' := 131) X297 hx hby (v := hL) at_129 rfl rfl ?_
              refine g_ifN (pc' := 134) X297 hx hby at_131 rfl (feq (hc99 : ¬ (hL = (0 : Int32)))).1 rfl ?_
              refine g_iload (pc' := 136) X297 hx hby (v := hR) at_134 rfl rfl ?_
              refine g_ifY (pc' := 143) X297 hx hby at_136 rfl (teq (hc110 : hR = (0 : Int32))).1 (by decide) (by decide) ?_
              refine g_iconst (pc' := 144) (v := (0 : Int32)) X297 hx hby at_143 rfl rfl ?_
              refine g_icN (pc' := 147) X297 hx hby at_144 rfl (teq (by decide : (0 : Int32) = (0 : Int32))).2 rfl ?_
              refine g_iconst (pc' := 148) (v := (1 : Int32)) X297 hx hby at_147 rfl rfl ?_
              refine g_goto (pc' := 152) X297 hx hby at_148 (by decide) (by decide) ?_
              refine g_istore (pc' := 154) (Ls' := #[.val (.int fl), .val (.int ia), .val (.int ib), .val (.double va), .second, .val (.double vb), .second, .val (.ref ea), .val (.ref eb), .val (.int hL), .val (.int hR), .val (.ref jo), .val (.int (1 : Int32)), .unset, .unset, .unset, .unset]) X297 hx hby at_152 rfl rfl rfl ?_
              exact Jt55 _ _ _ jo X297 e297 N297 z286 K286 f287 f288 f289 f290 f291 f292
            · refine g_ifN (pc' := 113) X42 hx hby at_110 rfl (feq hc110).1 rfl ?_
              refine g_aload (pc' := 115) X42 hx hby (v := (.ref eb)) at_113 rfl rfl rfl ?_
              refine g_goto (pc' := 119) X42 hx hby at_115 (by decide) (by decide) ?_
              refine g_init (argsL := [(.double va), (.ref ea), (.ref eb)]) (pc' := 122) X42 hx hby (by rw [hml]; rfl) hZ hown rfl e42 (own_rm4lr l Z a0 hw [] jo va ea eb  h42 n0 z42 A42 f52 f53 f54 ge42) (hw _ (List.mem_of_getElem? (i := 26) rfl)) (hw _ (List.mem_of_getElem? (i := 27) rfl)) (hw _ (List.mem_of_getElem? (i := 25) rfl)) (hw _ (List.mem_of_getElem? (i := 28) rfl)) (by decide) own_pd10 rfl rfl (W := 1) rfl (by decide) (by decide) (by decide) (by decide) at_119 rfl ?_
              intro T298 v298 L298 X298 qq298
              obtain ⟨h298, e298⟩ : ∃ h, T298.heap = h := ⟨_, rfl⟩
              rw [e298] at qq298
              obtain ⟨rfl, n298, k298, p298_0, p298_1, p298_2⟩ := qq298
              have f299 := own_sta_keep f46 k298 (allS ⟨_, A42⟩ all0)
              have f300 := f47.keep k298 (ninS ne43 nin0)
              have f301 := f48.keep k298
              have f302 := f49.keep k298 (ninS ne44 nin0)
              have f303 := f50.keep k298
              have f304 := f51.keep k298 (ninS ne45 nin0)
              have f305 := A42.keep k298
              have z298 := Nat.le_trans z42 k298.1
              have K298 := K42.trans k298 (allS (Or.inr kp42) all0)
              have N298 := Fr.app N30 n298
              show Gf p e below P T298 m 122 #[.val (.int fl), .val (.int ia), .val (.int ib), .val (.double va), .second, .val (.double vb), .second, .val (.ref ea), .val (.ref eb), .val (.int hL), .val (.int hR), .unset, .unset, .unset, .unset, .unset, .unset] [(.ref jo)]
              refine g_astore (pc' := 124) (Ls' := #[.val (.int fl), .val (.int ia), .val (.int ib), .val (.double va), .second, .val (.double vb), .second, .val (.ref ea), .val (.ref eb), .val (.int hL), .val (.int hR), .val (.ref jo), .unset, .unset, .unset, .unset, .unset]) X298 hx hby at_122 rfl rfl rfl rfl ?_
              refine g_aload (pc' := 126) X298 hx hby (v := (.ref jo)) at_124 rfl rfl rfl ?_
              refine g_virt (argsL := []) (pc' := 129) X298 hx hby (by rw [hml]; rfl) hZ hown e298 (own_rm5lr l Z a0 hw [] jo ea eb h298 n0 z298 p298_1 p298_2) (hw _ (List.mem_of_getElem? (i := 36) rfl)) (hw _ (List.mem_of_getElem? (i := 37) rfl)) (hw _ (List.mem_of_getElem? (i := 39) rfl)) (hw _ (List.mem_of_getElem? (i := 38) rfl)) (hw _ (List.mem_of_getElem? (i := 25) rfl)) (hw _ (List.mem_of_getElem? (i := 40) rfl)) (by decide) p298_0 own_pd14 rfl rfl (W := 0) rfl (by decide) (by decide) (by decide) (by decide) at_126 rfl ?_
              intro T309 v309 L309 X309 qq309
              obtain ⟨rfl, n309, e309⟩ := qq309
              have N309 := Fr.app N298 n309
              show Gf p e below P T309 m 129 #[.val (.int fl), .val (.int ia), .val (.int ib), .val (.double va), .second, .val (.double vb), .second, .val (.ref ea), .val (.ref eb), .val (.int hL), .val (.int hR), .val (.ref jo), .unset, .unset, .unset, .unset, .unset] [(.int (1 : Int32))]
              refine g_iload (pc' := 131) X309 hx hby (v := hL) at_129 rfl rfl ?_
              refine g_ifN (pc' := 134) X309 hx hby at_131 rfl (feq (hc99 : ¬ (hL = (0 : Int32)))).1 rfl ?_
              refine g_iload (pc' := 136) X309 hx hby (v := hR) at_134 rfl rfl ?_
              refine g_ifN (pc' := 139) X309 hx hby at_136 rfl (feq (hc110 : ¬ (hR = (0 : Int32)))).1 rfl ?_
              refine g_iconst (pc' := 140) (v := (1 : Int32)) X309 hx hby at_139 rfl rfl ?_
              refine g_goto (pc' := 144) X309 hx hby at_140 (by decide) (by decide) ?_
              refine g_icN (pc' := 147) X309 hx hby at_144 rfl (teq (by decide : (1 : Int32) = (1 : Int32))).2 rfl ?_
              refine g_iconst (pc' := 148) (v := (1 : Int32)) X309 hx hby at_147 rfl rfl ?_
              refine g_goto (pc' := 152) X309 hx hby at_148 (by decide) (by decide) ?_
              refine g_istore (pc' := 154) (Ls' := #[.val (.int fl), .val (.int ia), .val (.int ib), .val (.double va), .second, .val (.double vb), .second, .val (.ref ea), .val (.ref eb), .val (.int hL), .val (.int hR), .val (.ref jo), .val (.int (1 : Int32)), .unset, .unset, .unset, .unset]) X309 hx hby at_152 rfl rfl rfl ?_
              exact Jt55 _ _ _ jo X309 e309 N309 z298 K298 f299 f300 f301 f302 f303 f304
        · intro J82
          by_cases hc82 : (fl &&& (2 : Int32)) = (0 : Int32)
          · refine g_ifY (pc' := 89) X40 hx hby at_82 rfl (teq hc82).1 (by decide) (by decide) ?_
            refine g_iconst (pc' := 90) (v := (0 : Int32)) X40 hx hby at_89 rfl rfl ?_
            rw [h_hR] at J82
            simp only [if_pos hc82] at J82
            exact J82 _ X40 e40
          · refine g_ifN (pc' := 85) X40 hx hby at_82 rfl (feq hc82).1 rfl ?_
            refine g_iconst (pc' := 86) (v := (1 : Int32)) X40 hx hby at_85 rfl rfl ?_
            refine g_goto (pc' := 90) X40 hx hby at_86 (by decide) (by decide) ?_
            rw [h_hR] at J82
            simp only [if_neg hc82] at J82
            exact J82 _ X40 e40
      · intro J69
        by_cases hc69 : (fl &&& (1 : Int32)) = (0 : Int32)
        · refine g_ifY (pc' := 76) X30 hx hby at_69 rfl (teq hc69).1 (by decide) (by decide) ?_
          refine g_iconst (pc' := 77) (v := (0 : Int32)) X30 hx hby at_76 rfl rfl ?_
          rw [h_hL] at J69
          simp only [if_pos hc69] at J69
          exact J69 _ X30 e30
        · refine g_ifN (pc' := 72) X30 hx hby at_69 rfl (feq hc69).1 rfl ?_
          refine g_iconst (pc' := 73) (v := (1 : Int32)) X30 hx hby at_72 rfl rfl ?_
          refine g_goto (pc' := 77) X30 hx hby at_73 (by decide) (by decide) ?_
          rw [h_hL] at J69
          simp only [if_neg hc69] at J69
          exact J69 _ X30 e30
    · intro J51
      by_cases hc51 : (fl &&& (8 : Int32)) = (0 : Int32)
      · refine g_ifY (pc' := 58) X18 hx hby at_51 rfl (teq hc51).1 (by decide) (by decide) ?_
        refine g_iconst (pc' := 59) (v := (0 : Int32)) X18 hx hby at_58 rfl rfl ?_
        rw [h_pb] at J51
        simp only [if_pos hc51] at J51
        exact J51 _ X18 e18
      · refine g_ifN (pc' := 54) X18 hx hby at_51 rfl (feq hc51).1 rfl ?_
        refine g_iconst (pc' := 55) (v := (1 : Int32)) X18 hx hby at_54 rfl rfl ?_
        refine g_goto (pc' := 59) X18 hx hby at_55 (by decide) (by decide) ?_
        rw [h_pb] at J51
        simp only [if_neg hc51] at J51
        exact J51 _ X18 e18
  · intro J24
    by_cases hc24 : (fl &&& (4 : Int32)) = (0 : Int32)
    · refine g_ifY (pc' := 31) X1 hx hby at_24 rfl (teq hc24).1 (by decide) (by decide) ?_
      refine g_iconst (pc' := 32) (v := (0 : Int32)) X1 hx hby at_31 rfl rfl ?_
      rw [h_pa] at J24
      simp only [if_pos hc24] at J24
      exact J24 _ X1 e1
    · refine g_ifN (pc' := 27) X1 hx hby at_24 rfl (feq hc24).1 rfl ?_
      refine g_iconst (pc' := 28) (v := (1 : Int32)) X1 hx hby at_27 rfl rfl ?_
      refine g_goto (pc' := 32) X1 hx hby at_28 (by decide) (by decide) ?_
      rw [h_pa] at J24
      simp only [if_neg hc24] at J24
      exact J24 _ X1 e1
theorem comes_1 {Post : Tables → Env → Array Value → State → Outcome → State → Prop} (hpost : ∀ tb e args s v u, (limb_1_1.after args s (.returned v) u = true ∧ limb_1_2.after args s (.returned v) u = true ∧ True) → FrameEnd s (.returned v) u (Jvm.fieldLocs frame_1_writes args s ++ Jvm.arrayLocs frame_1_arrays args s ++ Jvm.staticLocs frame_1_statics s) 32 192 → Post tb e args s (.returned v) u) :
    ArmFor flags0 classFile x code maxLocals ret World_1 tables_1 room_1 Calls_1 rest_1 Pre_1 Post := by
  intro l hfl _ _ p e ha hc hk s m args below hf hA hF happ hP
  obtain ⟨hcalls, hrest, hpre⟩ := hP
  obtain ⟨-, -, -, hnamed, -, -, -, hat⟩ := (Spec.applies_iff hf).mp happ
  obtain ⟨hg, hn⟩ := and_e (Cond.before_iff.mp (show (Jvm.Cond.and given_1 narrow_1).before args s = true from hpre))
  obtain ⟨h1, g0⟩ := and_e hg
  obtain ⟨w0, w1, w2, rfl⟩ : ∃ w0 w1 w2 : Value, args = #[w0, w1, w2] := by
    have hs : args.size = 3 := by simpa [Cond.value, given_1] using h1
    obtain ⟨L⟩ := args
    match L, hs with
    | [w0, w1, w2], _ => exact ⟨w0, w1, w2, rfl⟩
  have hw := fun d (hd : d ∈ tables_1) => atoms_spec (ws := Jvm.Cond.code x code maxLocals ret :: tables_1) hat d (List.mem_cons_of_mem _ hd)
  have hfit : Fit s := fun {y c} hc i hi => by
    obtain ⟨ha, rfl⟩ := Array.getElem?_eq_some_iff.mp hc
    have q := List.all_eq_true.mp ((Array.all_eq_true_iff_forall_mem.mp hF) _ (Array.getElem_mem ha)) i (List.mem_range.mpr hi)
    simpa [Array.getElem?_eq_getElem hi] using q
  obtain ⟨t0, g1⟩ := and_e g0
  obtain ⟨i0, e0⟩ := is_v t0
  obtain rfl : w0 = (.int i0) := Option.some.inj e0
  obtain ⟨t1, g2⟩ := and_e g1
  obtain ⟨i1, e1⟩ := is_v t1
  obtain rfl : w1 = (.int i1) := Option.some.inj e1
  have t2 := g2
  obtain ⟨i2, e2⟩ := is_v t2
  obtain rfl : w2 = (.int i2) := Option.some.inj e2
  obtain ⟨hsets, hown0⟩ := atoms_of _ (rest_1_c_eq ▸ (show rest_1_c.before _ s = true from hrest))
  obtain ⟨dE, ed⟩ := arr_v (Cond.before_iff.mp (hsets _ (List.mem_of_getElem? (i := 6) rfl)))
  have S8 := Sta.start ed (Or.inr ⟨hw _ (List.mem_of_getElem? (i := 43) rfl), (hsets _ (List.mem_of_getElem? (i := 2) rfl))⟩)
  obtain ⟨kD, A8⟩ := own_arr0 (dv := .null) hfit ed (Cond.before_iff.mp (hsets _ (List.mem_of_getElem? (i := 6) rfl))) (Cond.before_iff.mp (hsets _ (List.mem_of_getElem? (i := 8) rfl)))
  obtain ⟨n, o, h1, h2, h3, _, L, rfl, ⟨rfl, N, _⟩, hq⟩ := own_rm0 l s _ hw tables_1 i0 i1 i2 dE kD s.heap s.heap.size (Nat.le_refl _) S8 A8 p e ha hc hk s m _ below hf ((Spec.applies_iff_loose hf).mp happ).1 ⟨rfl, State.Warmed39.refl s, rfl⟩ trivial
  refine ⟨n, _, h1, h2, h3, hpost _ _ _ _ _ _ ⟨Cond.after_iff.mpr rfl, Cond.after_iff.mpr (eq_i res_at (Term.int_eval (1)) rfl), trivial⟩ ⟨hq.1, hq.2.1, (hq.2.2.sift fun y hy => Or.inr (N y hy)).mono (by decide) (by decide)⟩⟩
theorem main_1_1 : Claimed_1_1 := comes_1 fun _ _ _ _ _ _ h hF => ⟨h.1, hF⟩
theorem main_1_2 : Claimed_1_2 := comes_1 fun _ _ _ _ _ _ h hF => ⟨h.2.1, hF⟩
end Jvm.Pilot.@@N@@
namespace Jvm.Pilot.@@N@@
open Jvm Jvm.ClassFile Sem Op Lib Jvm.Free Jvm.Stand Jvm.Pilot.@@N@@.Jvm.D
/-! MADE BY PROGRAM (witnessworld.py) out of the Statement's table words and the real class files: 23 classes; the members and pool entries that the words name. The judged class is class 1, her method 1. -/
namespace start1
open Jvm.ClassFile
def u (s : String) : CpInfo := .utf8 (stringToUtf16 s)
/-- a pool by its gaps: so many unusable entries, then the entry; so many at the end -/
def gap : Nat → List CpInfo → List CpInfo
  | 0, r => r
  | n + 1, r => .unusable :: gap n r
def poolList (es : List (Nat × CpInfo)) (last : Nat) : List CpInfo := es.foldr (fun e r => gap e.1 (e.2 :: r)) (gap last [])
def pool (es : List (Nat × CpInfo)) (last : Nat) : Array CpInfo := ⟨poolList es last⟩
def fileOf (pool : Array CpInfo) (this : Nat) (attrs : Array Attribute := #[]) (ms : Array MethodInfo := #[]) (fl : Nat := 33) (sup : Nat := 0) (ifs : Array Nat := #[]) (fds : Array FieldInfo := #[]) : ClassFile where
  minorVersion := 0
  majorVersion := 65
  constantPool := pool
  accessFlags := fl
  thisClass := this
  superClass := sup
  interfaces := ifs
  fields := fds
  methods := ms
  attributes := attrs
def plain (name : String) (sup : Option ClassId) : Class where
  name := name
  kind := .ordinary
  loader := none
  accessFlags := 33
  super := sup
  interfaces := #[]
  cf := none
  fields := #[]
  methods := #[]
  instanceTypes := #[]
  staticTypes := #[]
  resolved := #[]
  callSites := []
  init := .initialized
  statics := none
  mirror := none

def pool0 : Array CpInfo := pool [(5, u "<init>"), (0, u "()V"), (1, .class_ 10), (1, u "java/lang/Object")] 113

def k0c0 : Code := { maxStack := 0, maxLocals := 1, code := object_method_1_code, exceptionTable := #[], attributes := #[] }
def k0m0 : Method := { name := "<init>", desc := "()V", sig := { parameters := [], returnType := none }, accessFlags := 1, code := some k0c0 }
/-- java/lang/Object -/
def k0 : Class := { plain "java/lang/Object" none with
  accessFlags := 33
  interfaces := #[]
  cf := some (fileOf pool0 8 #[] #[{ accessFlags := 1, nameIndex := 5, descriptorIndex := 6, attributes := #[] }] 33 0 #[] #[])
  fields := #[]
  methods := #[k0m0]
  instanceTypes := #[]
  staticTypes := #[]
  resolved := Array.replicate 124 none
  statics := none }

def pool1 : Array CpInfo := pool [(2, .class_ 4), (0, .nameAndType 5 6), (0, u "java/lang/Object"), (0, u "<init>"), (0, u "()V"), (0, .class_ 8), (0, u "com/example/rowcast/rowcast/Histogram$CountedEndpoint"), (0, .methodref 7 10), (0, .nameAndType 5 11), (0, u "(DDZD)V"), (0, .double 4611686018427387904), (1, .class_ 15), (0, u "com/example/rowcast/rowcast/JoinValue"), (0, .methodref 14 17), (0, .nameAndType 5 18), (0, u "(DLcom/example/rowcast/rowcast/Histogram$CountedEndpoint;Lcom/example/rowcast/rowcast/Histogram$CountedEndpoint;)V"), (0, .methodref 14 20), (0, .nameAndType 21 22), (0, u "matching"), (0, u "()Z"), (0, .class_ 24), (0, u "java/util/ArrayList"), (0, .methodref 23 3), (0, .interfaceMethodref 27 28), (0, .class_ 29), (0, .nameAndType 30 31), (0, u "java/util/List"), (0, u "add"), (0, u "(Ljava/lang/Object;)Z"), (0, .methodref 14 33), (0, .nameAndType 34 35), (0, u "joinHistogram"), (0, u "(Ljava/util/List;Ljava/util/List;)Ljava/util/List;"), (0, .interfaceMethodref 27 37), (0, .nameAndType 38 39), (0, u "size"), (0, u "()I"), (0, .interfaceMethodref 27 41), (0, .nameAndType 42 43), (0, u "get"), (0, u "(I)Ljava/lang/Object;"), (0, .class_ 45), (0, u "com/example/rowcast/rowcast/JoinValueMatchingPinLaw"), (2, u "law"), (0, u "(III)Z")] 7

def k1m0 : Method := { name := "<init>", desc := "()V", sig := { parameters := [], returnType := none }, accessFlags := 1, code := none }
def k1c1 : Code := { maxStack := 9, maxLocals := 17, code := code, exceptionTable := #[], attributes := #[] }
def k1m1 : Method := { name := "law", desc := "(III)Z", sig := { parameters := [.int, .int, .int], returnType := some .boolean }, accessFlags := 9, code := some k1c1 }
/-- com/example/rowcast/rowcast/JoinValueMatchingPinLaw -/
def k1 : Class := { plain "com/example/rowcast/rowcast/JoinValueMatchingPinLaw" (some 0) with
  accessFlags := 49
  interfaces := #[]
  cf := some (fileOf pool1 44 #[] #[{ accessFlags := 1, nameIndex := 5, descriptorIndex := 6, attributes := #[] }, { accessFlags := 9, nameIndex := 48, descriptorIndex := 49, attributes := #[] }] 49 2 #[] #[])
  fields := #[]
  methods := #[k1m0, k1m1]
  instanceTypes := #[]
  staticTypes := #[]
  resolved := Array.replicate 57 none
  statics := none }

def pool2 : Array CpInfo := pool [(1, .methodref 2 3), (0, .class_ 4), (0, .nameAndType 5 6), (0, u "java/lang/Object"), (0, u "<init>"), (0, u "()V"), (0, .class_ 8), (0, u "java/lang/Record")] 13

def k2c0 : Code := { maxStack := 1, maxLocals := 1, code := jdk_30_method_1_code, exceptionTable := #[], attributes := #[] }
def k2m0 : Method := { name := "<init>", desc := "()V", sig := { parameters := [], returnType := none }, accessFlags := 4, code := some k2c0 }
/-- java/lang/Record -/
def k2 : Class := { plain "java/lang/Record" (some 0) with
  accessFlags := 1057
  interfaces := #[]
  cf := some (fileOf pool2 7 #[] #[{ accessFlags := 4, nameIndex := 5, descriptorIndex := 6, attributes := #[] }] 1057 2 #[] #[])
  fields := #[]
  methods := #[k2m0]
  instanceTypes := #[]
  staticTypes := #[]
  resolved := Array.replicate 22 none
  statics := none }

def pool3 : Array CpInfo := pool [(1, .methodref 2 3), (0, .class_ 4), (0, .nameAndType 5 6), (0, u "java/lang/Record"), (0, u "<init>"), (0, u "()V"), (0, .fieldref 8 9), (0, .class_ 10), (0, .nameAndType 11 12), (0, u "com/example/rowcast/rowcast/Histogram$CountedEndpoint"), (0, u "value"), (0, u "D"), (0, .fieldref 8 14), (0, .nameAndType 15 12), (0, u "counts"), (0, .fieldref 8 17), (0, .nameAndType 18 19), (0, u "popular"), (0, u "Z"), (0, .fieldref 8 21), (0, .nameAndType 22 12), (0, u "spreadFrom"), (18, u "(DDZD)V"), (8, u "()D"), (4, .class_ 56), (0, u "com/example/rowcast/rowcast/Histogram")] 22

def k3c0 : Code := { maxStack := 3, maxLocals := 8, code := prog_19_method_1_code, exceptionTable := #[], attributes := #[] }
def k3m0 : Method := { name := "<init>", desc := "(DDZD)V", sig := { parameters := [.double, .double, .boolean, .double], returnType := none }, accessFlags := 1, code := some k3c0 }
def k3c1 : Code := { maxStack := 2, maxLocals := 1, code := prog_19_method_6_code, exceptionTable := #[], attributes := #[] }
def k3m1 : Method := { name := "value", desc := "()D", sig := { parameters := [], returnType := some .double }, accessFlags := 1, code := some k3c1 }
/-- com/example/rowcast/rowcast/Histogram$CountedEndpoint -/
def k3 : Class := { plain "com/example/rowcast/rowcast/Histogram$CountedEndpoint" (some 2) with
  accessFlags := 49
  interfaces := #[]
  cf := some (fileOf pool3 8 #[.nestHost 55] #[{ accessFlags := 1, nameIndex := 5, descriptorIndex := 41, attributes := #[] }, { accessFlags := 1, nameIndex := 11, descriptorIndex := 50, attributes := #[] }] 49 2 #[] #[{ accessFlags := 18, nameIndex := 11, descriptorIndex := 12, attributes := #[] }, { accessFlags := 18, nameIndex := 15, descriptorIndex := 12, attributes := #[] }, { accessFlags := 18, nameIndex := 18, descriptorIndex := 19, attributes := #[] }, { accessFlags := 18, nameIndex := 22, descriptorIndex := 12, attributes := #[] }])
  fields := #[{ name := "value", type := .double, accessFlags := 18, slot := 0, constantValue := 0 }, { name := "counts", type := .double, accessFlags := 18, slot := 1, constantValue := 0 }, { name := "popular", type := .boolean, accessFlags := 18, slot := 2, constantValue := 0 }, { name := "spreadFrom", type := .double, accessFlags := 18, slot := 3, constantValue := 0 }]
  methods := #[k3m0, k3m1]
  instanceTypes := #[.double, .double, .boolean, .double]
  staticTypes := #[]
  resolved := Array.replicate 79 none
  statics := none }

def pool4 : Array CpInfo := pool [(1, .methodref 2 3), (0, .class_ 4), (0, .nameAndType 5 6), (0, u "java/lang/Record"), (0, u "<init>"), (0, u "()V"), (0, .fieldref 8 9), (0, .class_ 10), (0, .nameAndType 11 12), (0, u "com/example/rowcast/rowcast/JoinValue"), (0, u "value"), (0, u "D"), (0, .fieldref 8 14), (0, .nameAndType 15 16), (0, u "left"), (0, u "Lcom/example/rowcast/rowcast/Histogram$CountedEndpoint;"), (0, .fieldref 8 18), (0, .nameAndType 19 16), (0, u "right"), (0, .class_ 21), (0, u "java/util/ArrayList"), (0, .interfaceMethodref 23 24), (0, .class_ 25), (0, .nameAndType 26 27), (0, u "java/util/List"), (0, u "size"), (0, u "()I"), (0, .methodref 20 29), (0, .nameAndType 5 30), (0, u "(I)V"), (0, .interfaceMethodref 23 32), (0, .nameAndType 33 34), (0, u "get"), (0, u "(I)Ljava/lang/Object;"), (0, .class_ 36), (0, u "com/example/rowcast/rowcast/Histogram$CountedEndpoint"), (0, .methodref 35 38), (0, .nameAndType 11 39), (0, u "()D"), (0, .methodref 8 41), (0, .nameAndType 5 42), (0, u "(DLcom/example/rowcast/rowcast/Histogram$CountedEndpoint;Lcom/example/rowcast/rowcast/Histogram$CountedEndpoint;)V"), (0, .interfaceMethodref 23 44), (0, .nameAndType 45 46), (0, u "add"), (0, u "(Ljava/lang/Object;)Z"), (3, u "()Z"), (15, u "joinHistogram"), (0, u "(Ljava/util/List;Ljava/util/List;)Ljava/util/List;"), (3, u "matching")] 29

def k4c0 : Code := { maxStack := 3, maxLocals := 5, code := prog_32_method_1_code, exceptionTable := #[], attributes := #[] }
def k4m0 : Method := { name := "<init>", desc := "(DLcom/example/rowcast/rowcast/Histogram$CountedEndpoint;Lcom/example/rowcast/rowcast/Histogram$CountedEndpoint;)V", sig := { parameters := [.double, (.object "com/example/rowcast/rowcast/Histogram$CountedEndpoint"), (.object "com/example/rowcast/rowcast/Histogram$CountedEndpoint")], returnType := none }, accessFlags := 0, code := some k4c0 }
def k4c1 : Code := { maxStack := 7, maxLocals := 7, code := prog_32_method_2_code, exceptionTable := #[], attributes := #[] }
def k4m1 : Method := { name := "joinHistogram", desc := "(Ljava/util/List;Ljava/util/List;)Ljava/util/List;", sig := { parameters := [(.object "java/util/List"), (.object "java/util/List")], returnType := some (.object "java/util/List") }, accessFlags := 8, code := some k4c1 }
def k4c2 : Code := { maxStack := 1, maxLocals := 1, code := prog_32_method_3_code, exceptionTable := #[], attributes := #[] }
def k4m2 : Method := { name := "matching", desc := "()Z", sig := { parameters := [], returnType := some .boolean }, accessFlags := 0, code := some k4c2 }
/-- com/example/rowcast/rowcast/JoinValue -/
def k4 : Class := { plain "com/example/rowcast/rowcast/JoinValue" (some 2) with
  accessFlags := 48
  interfaces := #[]
  cf := some (fileOf pool4 8 #[] #[{ accessFlags := 0, nameIndex := 5, descriptorIndex := 42, attributes := #[] }, { accessFlags := 8, nameIndex := 66, descriptorIndex := 67, attributes := #[] }, { accessFlags := 0, nameIndex := 71, descriptorIndex := 50, attributes := #[] }] 48 2 #[] #[{ accessFlags := 18, nameIndex := 11, descriptorIndex := 12, attributes := #[] }, { accessFlags := 18, nameIndex := 15, descriptorIndex := 16, attributes := #[] }, { accessFlags := 18, nameIndex := 19, descriptorIndex := 16, attributes := #[] }])
  fields := #[{ name := "value", type := .double, accessFlags := 18, slot := 0, constantValue := 0 }, { name := "left", type := (.object "com/example/rowcast/rowcast/Histogram$CountedEndpoint"), accessFlags := 18, slot := 1, constantValue := 0 }, { name := "right", type := (.object "com/example/rowcast/rowcast/Histogram$CountedEndpoint"), accessFlags := 18, slot := 2, constantValue := 0 }]
  methods := #[k4m0, k4m1, k4m2]
  instanceTypes := #[.double, (.object "com/example/rowcast/rowcast/Histogram$CountedEndpoint"), (.object "com/example/rowcast/rowcast/Histogram$CountedEndpoint")]
  staticTypes := #[]
  resolved := Array.replicate 101 none
  statics := none }

def pool5 : Array CpInfo := pool [(8, .class_ 10), (1, u "java/lang/Iterable"), (24, .class_ 36), (0, u "java/lang/Object")] 25

/-- java/lang/Iterable -/
def k5 : Class := { plain "java/lang/Iterable" (some 0) with
  accessFlags := 1537
  interfaces := #[]
  cf := some (fileOf pool5 8 #[] #[] 1537 35 #[] #[])
  fields := #[]
  methods := #[]
  instanceTypes := #[]
  staticTypes := #[]
  resolved := Array.replicate 62 none
  statics := none }

def pool6 : Array CpInfo := pool [(10, .class_ 12), (1, u "java/util/Collection"), (47, .class_ 61), (0, u "java/lang/Object"), (0, .class_ 63), (0, u "java/lang/Iterable")] 51

/-- java/util/Collection -/
def k6 : Class := { plain "java/util/Collection" (some 0) with
  accessFlags := 1537
  interfaces := #[5]
  cf := some (fileOf pool6 10 #[] #[] 1537 60 #[62] #[])
  fields := #[]
  methods := #[]
  instanceTypes := #[]
  staticTypes := #[]
  resolved := Array.replicate 115 none
  statics := none }

def pool7 : Array CpInfo := pool [(1, .methodref 2 3), (0, .class_ 4), (0, .nameAndType 5 6), (0, u "java/lang/Object"), (0, u "<init>"), (0, u "()V"), (1, .class_ 10), (1, u "java/util/AbstractCollection"), (66, .class_ 78), (0, u "java/util/Collection")] 81

def k7c0 : Code := { maxStack := 1, maxLocals := 1, code := jdk_22_method_1_code, exceptionTable := #[], attributes := #[] }
def k7m0 : Method := { name := "<init>", desc := "()V", sig := { parameters := [], returnType := none }, accessFlags := 4, code := some k7c0 }
/-- java/util/AbstractCollection -/
def k7 : Class := { plain "java/util/AbstractCollection" (some 0) with
  accessFlags := 1057
  interfaces := #[6]
  cf := some (fileOf pool7 8 #[] #[{ accessFlags := 4, nameIndex := 5, descriptorIndex := 6, attributes := #[] }] 1057 2 #[77] #[])
  fields := #[]
  methods := #[k7m0]
  instanceTypes := #[]
  staticTypes := #[]
  resolved := Array.replicate 160 none
  statics := none }

def pool8 : Array CpInfo := pool [(8, .class_ 10), (1, u "java/util/SequencedCollection"), (15, .class_ 27), (0, u "java/lang/Object"), (0, .class_ 29), (0, u "java/util/Collection")] 27

/-- java/util/SequencedCollection -/
def k8 : Class := { plain "java/util/SequencedCollection" (some 0) with
  accessFlags := 1537
  interfaces := #[6]
  cf := some (fileOf pool8 8 #[] #[] 1537 26 #[28] #[])
  fields := #[]
  methods := #[]
  instanceTypes := #[]
  staticTypes := #[]
  resolved := Array.replicate 57 none
  statics := none }

def pool9 : Array CpInfo := pool [(8, .class_ 10), (1, u "java/util/List"), (49, u "add"), (3, u "(Ljava/lang/Object;)Z"), (10, u "get"), (0, u "(I)Ljava/lang/Object;"), (2, u "size"), (0, u "()I"), (22, .class_ 104), (0, u "java/lang/Object"), (15, .class_ 121), (0, u "java/util/SequencedCollection")] 129

def k9m0 : Method := { name := "size", desc := "()I", sig := { parameters := [], returnType := some .int }, accessFlags := 1025, code := none }
def k9m1 : Method := { name := "add", desc := "(Ljava/lang/Object;)Z", sig := { parameters := [(.object "java/lang/Object")], returnType := some .boolean }, accessFlags := 1025, code := none }
def k9m2 : Method := { name := "get", desc := "(I)Ljava/lang/Object;", sig := { parameters := [.int], returnType := some (.object "java/lang/Object") }, accessFlags := 1025, code := none }
/-- java/util/List -/
def k9 : Class := { plain "java/util/List" (some 0) with
  accessFlags := 1537
  interfaces := #[8]
  cf := some (fileOf pool9 8 #[] #[{ accessFlags := 1025, nameIndex := 79, descriptorIndex := 80, attributes := #[] }, { accessFlags := 1025, nameIndex := 60, descriptorIndex := 64, attributes := #[] }, { accessFlags := 1025, nameIndex := 75, descriptorIndex := 76, attributes := #[] }] 1537 103 #[120] #[])
  fields := #[]
  methods := #[k9m0, k9m1, k9m2]
  instanceTypes := #[]
  staticTypes := #[]
  resolved := Array.replicate 251 none
  statics := none }

def pool10 : Array CpInfo := pool [(1, .methodref 2 3), (0, .class_ 4), (0, .nameAndType 5 6), (0, u "java/util/AbstractCollection"), (0, u "<init>"), (0, u "()V"), (0, .fieldref 8 9), (0, .class_ 10), (0, .nameAndType 11 12), (0, u "java/util/AbstractList"), (0, u "modCount"), (0, u "I"), (64, .class_ 78), (0, u "java/util/AbstractList$Itr"), (3, .class_ 83), (0, u "java/util/AbstractList$ListItr"), (9, .class_ 94), (0, u "java/util/AbstractList$RandomAccessSubList"), (3, .class_ 99), (0, u "java/util/AbstractList$SubList"), (33, .class_ 134), (0, u "java/util/List"), (73, .class_ 209), (0, u "java/util/AbstractList$SubList$1"), (0, .class_ 211), (0, u "java/util/AbstractList$RandomAccessSpliterator")] 6

def k10c0 : Code := { maxStack := 2, maxLocals := 1, code := jdk_39_method_1_code, exceptionTable := #[], attributes := #[] }
def k10m0 : Method := { name := "<init>", desc := "()V", sig := { parameters := [], returnType := none }, accessFlags := 4, code := some k10c0 }
/-- java/util/AbstractList -/
def k10 : Class := { plain "java/util/AbstractList" (some 7) with
  accessFlags := 1057
  interfaces := #[9]
  cf := some (fileOf pool10 8 #[.nestMembers #[93, 98, 208, 210, 82, 77]] #[{ accessFlags := 4, nameIndex := 5, descriptorIndex := 6, attributes := #[] }] 1057 2 #[133] #[{ accessFlags := 132, nameIndex := 11, descriptorIndex := 12, attributes := #[] }])
  fields := #[{ name := "modCount", type := .int, accessFlags := 132, slot := 0, constantValue := 0 }]
  methods := #[k10m0]
  instanceTypes := #[.int]
  staticTypes := #[]
  resolved := Array.replicate 218 none
  statics := none }

def pool11 : Array CpInfo := pool [(1, .class_ 2), (0, u "java/util/RandomAccess"), (0, .class_ 4), (0, u "java/lang/Object")] 2

/-- java/util/RandomAccess -/
def k11 : Class := { plain "java/util/RandomAccess" (some 0) with
  accessFlags := 1537
  interfaces := #[]
  cf := some (fileOf pool11 1 #[] #[] 1537 3 #[] #[])
  fields := #[]
  methods := #[]
  instanceTypes := #[]
  staticTypes := #[]
  resolved := Array.replicate 7 none
  statics := none }

def pool12 : Array CpInfo := pool [(1, .class_ 2), (0, u "java/lang/Cloneable"), (0, .class_ 4), (0, u "java/lang/Object")] 2

/-- java/lang/Cloneable -/
def k12 : Class := { plain "java/lang/Cloneable" (some 0) with
  accessFlags := 1537
  interfaces := #[]
  cf := some (fileOf pool12 1 #[] #[] 1537 3 #[] #[])
  fields := #[]
  methods := #[]
  instanceTypes := #[]
  staticTypes := #[]
  resolved := Array.replicate 7 none
  statics := none }

def pool13 : Array CpInfo := pool [(1, .class_ 2), (0, u "java/io/Serializable"), (0, .class_ 4), (0, u "java/lang/Object")] 2

/-- java/io/Serializable -/
def k13 : Class := { plain "java/io/Serializable" (some 0) with
  accessFlags := 1537
  interfaces := #[]
  cf := some (fileOf pool13 1 #[] #[] 1537 3 #[] #[])
  fields := #[]
  methods := #[]
  instanceTypes := #[]
  staticTypes := #[]
  resolved := Array.replicate 7 none
  statics := none }

def pool14 : Array CpInfo := pool [(1, .methodref 2 3), (0, .class_ 4), (0, .nameAndType 5 6), (0, u "java/util/AbstractList"), (0, u "<init>"), (0, u "()V"), (0, .class_ 8), (0, u "java/lang/Object"), (0, .fieldref 10 11), (0, .class_ 12), (0, .nameAndType 13 14), (0, u "java/util/ArrayList"), (0, u "elementData"), (0, u "[Ljava/lang/Object;"), (2, u "EMPTY_ELEMENTDATA"), (21, .fieldref 10 40), (0, .nameAndType 41 14), (0, u "DEFAULTCAPACITY_EMPTY_ELEMENTDATA"), (5, u "()[Ljava/lang/Object;"), (0, .fieldref 10 49), (0, .nameAndType 50 51), (0, u "size"), (0, u "I"), (11, .fieldref 10 64), (0, .nameAndType 65 51), (0, u "modCount"), (3, .methodref 10 70), (0, .nameAndType 71 72), (0, u "grow"), (0, u "(I)[Ljava/lang/Object;"), (6, .methodref 80 81), (0, .class_ 82), (0, .nameAndType 83 84), (0, u "java/lang/Math"), (0, u "max"), (0, u "(II)I"), (11, u "(Ljava/lang/Object;)Z"), (21, .methodref 119 120), (0, .class_ 121), (0, .nameAndType 122 84), (0, u "java/util/Objects"), (0, u "checkIndex"), (0, .methodref 10 124), (0, .nameAndType 13 125), (0, u "(I)Ljava/lang/Object;"), (3, .methodref 10 130), (0, .nameAndType 71 47), (0, .methodref 10 132), (0, .nameAndType 133 134), (0, u "add"), (0, u "(Ljava/lang/Object;[Ljava/lang/Object;I)V"), (3, u "(I)V"), (9, .class_ 149), (0, u "java/util/List"), (36, u "()I"), (75, .class_ 263), (0, u "java/util/ArrayList$ListItr"), (3, .class_ 268), (0, u "java/util/ArrayList$Itr"), (7, .class_ 277), (0, u "java/util/ArrayList$SubList"), (12, .class_ 291), (0, u "java/util/ArrayList$ArrayListSpliterator"), (37, .class_ 330), (0, u "java/util/RandomAccess"), (0, .class_ 332), (0, u "java/lang/Cloneable"), (0, .class_ 334), (0, u "java/io/Serializable"), (0, u "serialVersionUID"), (0, u "J"), (3, u "DEFAULT_CAPACITY"), (40, u "get"), (118, .class_ 501), (0, u "java/util/ArrayList$SubList$2"), (0, .class_ 503), (0, u "java/util/ArrayList$SubList$1")] 5

def k14c0 : Code := { maxStack := 4, maxLocals := 2, code := jdk_38_method_1_code, exceptionTable := #[], attributes := #[] }
def k14m0 : Method := { name := "<init>", desc := "(I)V", sig := { parameters := [.int], returnType := none }, accessFlags := 1, code := some k14c0 }
def k14c1 : Code := { maxStack := 2, maxLocals := 1, code := jdk_38_method_2_code, exceptionTable := #[], attributes := #[] }
def k14m1 : Method := { name := "<init>", desc := "()V", sig := { parameters := [], returnType := none }, accessFlags := 1, code := some k14c1 }
def k14c2 : Code := { maxStack := 4, maxLocals := 4, code := jdk_38_method_6_code, exceptionTable := #[], attributes := #[] }
def k14m2 : Method := { name := "grow", desc := "(I)[Ljava/lang/Object;", sig := { parameters := [.int], returnType := some (.array (.object "java/lang/Object")) }, accessFlags := 2, code := some k14c2 }
def k14c3 : Code := { maxStack := 3, maxLocals := 1, code := jdk_38_method_7_code, exceptionTable := #[], attributes := #[] }
def k14m3 : Method := { name := "grow", desc := "()[Ljava/lang/Object;", sig := { parameters := [], returnType := some (.array (.object "java/lang/Object")) }, accessFlags := 2, code := some k14c3 }
def k14c4 : Code := { maxStack := 1, maxLocals := 1, code := jdk_38_method_8_code, exceptionTable := #[], attributes := #[] }
def k14m4 : Method := { name := "size", desc := "()I", sig := { parameters := [], returnType := some .int }, accessFlags := 1, code := some k14c4 }
def k14c5 : Code := { maxStack := 2, maxLocals := 2, code := jdk_38_method_18_code, exceptionTable := #[], attributes := #[] }
def k14m5 : Method := { name := "elementData", desc := "(I)Ljava/lang/Object;", sig := { parameters := [.int], returnType := some (.object "java/lang/Object") }, accessFlags := 0, code := some k14c5 }
def k14c6 : Code := { maxStack := 2, maxLocals := 2, code := jdk_38_method_20_code, exceptionTable := #[], attributes := #[] }
def k14m6 : Method := { name := "get", desc := "(I)Ljava/lang/Object;", sig := { parameters := [.int], returnType := some (.object "java/lang/Object") }, accessFlags := 1, code := some k14c6 }
def k14c7 : Code := { maxStack := 3, maxLocals := 4, code := jdk_38_method_24_code, exceptionTable := #[], attributes := #[] }
def k14m7 : Method := { name := "add", desc := "(Ljava/lang/Object;[Ljava/lang/Object;I)V", sig := { parameters := [(.object "java/lang/Object"), (.array (.object "java/lang/Object")), .int], returnType := none }, accessFlags := 2, code := some k14c7 }
def k14c8 : Code := { maxStack := 4, maxLocals := 2, code := jdk_38_method_25_code, exceptionTable := #[], attributes := #[] }
def k14m8 : Method := { name := "add", desc := "(Ljava/lang/Object;)Z", sig := { parameters := [(.object "java/lang/Object")], returnType := some .boolean }, accessFlags := 1, code := some k14c8 }
/-- java/util/ArrayList -/
def k14 : Class := { plain "java/util/ArrayList" (some 10) with
  accessFlags := 33
  interfaces := #[9, 11, 12, 13]
  cf := some (fileOf pool14 10 #[.nestMembers #[290, 276, 500, 502, 262, 267]] #[{ accessFlags := 1, nameIndex := 5, descriptorIndex := 138, attributes := #[] }, { accessFlags := 1, nameIndex := 5, descriptorIndex := 6, attributes := #[] }, { accessFlags := 2, nameIndex := 71, descriptorIndex := 72, attributes := #[] }, { accessFlags := 2, nameIndex := 71, descriptorIndex := 47, attributes := #[] }, { accessFlags := 1, nameIndex := 50, descriptorIndex := 186, attributes := #[] }, { accessFlags := 0, nameIndex := 13, descriptorIndex := 125, attributes := #[] }, { accessFlags := 1, nameIndex := 381, descriptorIndex := 125, attributes := #[] }, { accessFlags := 2, nameIndex := 133, descriptorIndex := 134, attributes := #[] }, { accessFlags := 1, nameIndex := 133, descriptorIndex := 96, attributes := #[] }] 33 2 #[148, 329, 331, 333] #[{ accessFlags := 26, nameIndex := 335, descriptorIndex := 336, attributes := #[] }, { accessFlags := 26, nameIndex := 340, descriptorIndex := 51, attributes := #[] }, { accessFlags := 26, nameIndex := 17, descriptorIndex := 14, attributes := #[] }, { accessFlags := 26, nameIndex := 41, descriptorIndex := 14, attributes := #[] }, { accessFlags := 128, nameIndex := 13, descriptorIndex := 14, attributes := #[] }, { accessFlags := 2, nameIndex := 50, descriptorIndex := 51, attributes := #[] }])
  fields := #[{ name := "serialVersionUID", type := .long, accessFlags := 26, slot := 0, constantValue := 0 }, { name := "DEFAULT_CAPACITY", type := .int, accessFlags := 26, slot := 1, constantValue := 0 }, { name := "EMPTY_ELEMENTDATA", type := (.array (.object "java/lang/Object")), accessFlags := 26, slot := 2, constantValue := 0 }, { name := "DEFAULTCAPACITY_EMPTY_ELEMENTDATA", type := (.array (.object "java/lang/Object")), accessFlags := 26, slot := 3, constantValue := 0 }, { name := "elementData", type := (.array (.object "java/lang/Object")), accessFlags := 128, slot := 1, constantValue := 0 }, { name := "size", type := .int, accessFlags := 2, slot := 2, constantValue := 0 }]
  methods := #[k14m0, k14m1, k14m2, k14m3, k14m4, k14m5, k14m6, k14m7, k14m8]
  instanceTypes := #[.int, (.array (.object "java/lang/Object")), .int]
  staticTypes := #[.long, .int, (.array (.object "java/lang/Object")), (.array (.object "java/lang/Object"))]
  resolved := Array.replicate 509 none
  statics := some 0 }

def pool15 : Array CpInfo := pool [(1, .class_ 2), (0, u "java/lang/Math"), (1, .class_ 6), (1, u "java/lang/Object"), (0, u "<init>"), (0, u "()V"), (89, .class_ 100), (1, u "java/lang/Math$RandomNumberGeneratorHolder"), (71, u "negativeZeroFloatBits"), (0, u "J"), (2, u "negativeZeroDoubleBits"), (21, u "max"), (46, u "$assertionsDisabled"), (0, u "Z"), (88, u "(II)I"), (2, u "twoToTheDoubleScaleDown"), (0, u "D"), (4, u "twoToTheDoubleScaleUp"), (9, u "E"), (3, u "PI"), (2, u "TAU"), (2, u "DEGREES_TO_RADIANS"), (0, u "RADIANS_TO_DEGREES")] 94

def k15m0 : Method := { name := "<init>", desc := "()V", sig := { parameters := [], returnType := none }, accessFlags := 2, code := none }
def k15c1 : Code := { maxStack := 2, maxLocals := 2, code := jdk_29_method_65_code, exceptionTable := #[], attributes := #[] }
def k15m1 : Method := { name := "max", desc := "(II)I", sig := { parameters := [.int, .int], returnType := some .int }, accessFlags := 9, code := some k15c1 }
/-- java/lang/Math -/
def k15 : Class := { plain "java/lang/Math" (some 0) with
  accessFlags := 49
  interfaces := #[]
  cf := some (fileOf pool15 1 #[.nestMembers #[98]] #[{ accessFlags := 2, nameIndex := 7, descriptorIndex := 8, attributes := #[] }, { accessFlags := 9, nameIndex := 198, descriptorIndex := 335, attributes := #[] }] 49 4 #[] #[{ accessFlags := 25, nameIndex := 354, descriptorIndex := 339, attributes := #[] }, { accessFlags := 25, nameIndex := 358, descriptorIndex := 339, attributes := #[] }, { accessFlags := 25, nameIndex := 361, descriptorIndex := 339, attributes := #[] }, { accessFlags := 26, nameIndex := 364, descriptorIndex := 339, attributes := #[] }, { accessFlags := 26, nameIndex := 365, descriptorIndex := 339, attributes := #[] }, { accessFlags := 26, nameIndex := 172, descriptorIndex := 173, attributes := #[] }, { accessFlags := 26, nameIndex := 176, descriptorIndex := 173, attributes := #[] }, { accessFlags := 8, nameIndex := 344, descriptorIndex := 339, attributes := #[] }, { accessFlags := 8, nameIndex := 338, descriptorIndex := 339, attributes := #[] }, { accessFlags := 4120, nameIndex := 245, descriptorIndex := 246, attributes := #[] }])
  fields := #[{ name := "E", type := .double, accessFlags := 25, slot := 0, constantValue := 0 }, { name := "PI", type := .double, accessFlags := 25, slot := 1, constantValue := 0 }, { name := "TAU", type := .double, accessFlags := 25, slot := 2, constantValue := 0 }, { name := "DEGREES_TO_RADIANS", type := .double, accessFlags := 26, slot := 3, constantValue := 0 }, { name := "RADIANS_TO_DEGREES", type := .double, accessFlags := 26, slot := 4, constantValue := 0 }, { name := "negativeZeroFloatBits", type := .long, accessFlags := 26, slot := 5, constantValue := 0 }, { name := "negativeZeroDoubleBits", type := .long, accessFlags := 26, slot := 6, constantValue := 0 }, { name := "twoToTheDoubleScaleUp", type := .double, accessFlags := 8, slot := 7, constantValue := 0 }, { name := "twoToTheDoubleScaleDown", type := .double, accessFlags := 8, slot := 8, constantValue := 0 }, { name := "$assertionsDisabled", type := .boolean, accessFlags := 4120, slot := 9, constantValue := 0 }]
  methods := #[k15m0, k15m1]
  instanceTypes := #[]
  staticTypes := #[.double, .double, .double, .double, .double, .long, .long, .double, .double, .boolean]
  resolved := Array.replicate 460 none
  statics := none }

def pool16 : Array CpInfo := pool [(2, .class_ 4), (1, u "java/lang/Object"), (0, u "<init>"), (0, u "()V"), (35, .class_ 44), (1, u "java/util/Objects"), (60, .methodref 106 107), (0, .class_ 108), (0, .nameAndType 109 110), (0, u "jdk/internal/util/Preconditions"), (0, u "checkIndex"), (0, u "(IILjava/util/function/BiFunction;)I"), (60, u "(II)I")] 12

def k16m0 : Method := { name := "<init>", desc := "()V", sig := { parameters := [], returnType := none }, accessFlags := 2, code := none }
def k16c1 : Code := { maxStack := 3, maxLocals := 2, code := jdk_31_method_17_code, exceptionTable := #[], attributes := #[] }
def k16m1 : Method := { name := "checkIndex", desc := "(II)I", sig := { parameters := [.int, .int], returnType := some .int }, accessFlags := 9, code := some k16c1 }
/-- java/util/Objects -/
def k16 : Class := { plain "java/util/Objects" (some 0) with
  accessFlags := 49
  interfaces := #[]
  cf := some (fileOf pool16 42 #[] #[{ accessFlags := 2, nameIndex := 5, descriptorIndex := 6, attributes := #[] }, { accessFlags := 9, nameIndex := 109, descriptorIndex := 171, attributes := #[] }] 49 2 #[] #[])
  fields := #[]
  methods := #[k16m0, k16m1]
  instanceTypes := #[]
  staticTypes := #[]
  resolved := Array.replicate 184 none
  statics := none }

def pool17 : Array CpInfo := pool [(2, .class_ 4), (1, u "java/lang/Object"), (0, u "<init>"), (0, u "()V"), (17, .class_ 26), (1, u "jdk/internal/util/Preconditions"), (6, u "checkIndex"), (21, .class_ 56), (0, u "jdk/internal/util/Preconditions$4"), (57, .class_ 115), (0, u "jdk/internal/util/Preconditions$1"), (7, u "SIOOBE_FORMATTER"), (0, u "Ljava/util/function/BiFunction;"), (0, .class_ 126), (0, u "jdk/internal/util/Preconditions$2"), (3, u "AIOOBE_FORMATTER"), (0, .class_ 132), (0, u "jdk/internal/util/Preconditions$3"), (3, u "IOOBE_FORMATTER"), (41, u "(IILjava/util/function/BiFunction;)I")] 15

def k17m0 : Method := { name := "<init>", desc := "()V", sig := { parameters := [], returnType := none }, accessFlags := 1, code := none }
def k17c1 : Code := { maxStack := 3, maxLocals := 3, code := jdk_41_method_11_code, exceptionTable := #[], attributes := #[] }
def k17m1 : Method := { name := "checkIndex", desc := "(IILjava/util/function/BiFunction;)I", sig := { parameters := [.int, .int, (.object "java/util/function/BiFunction")], returnType := some .int }, accessFlags := 9, code := some k17c1 }
/-- jdk/internal/util/Preconditions -/
def k17 : Class := { plain "jdk/internal/util/Preconditions" (some 0) with
  accessFlags := 33
  interfaces := #[]
  cf := some (fileOf pool17 24 #[.nestMembers #[55, 131, 125, 114]] #[{ accessFlags := 1, nameIndex := 5, descriptorIndex := 6, attributes := #[] }, { accessFlags := 9, nameIndex := 33, descriptorIndex := 178, attributes := #[] }] 33 2 #[] #[{ accessFlags := 25, nameIndex := 123, descriptorIndex := 124, attributes := #[] }, { accessFlags := 25, nameIndex := 130, descriptorIndex := 124, attributes := #[] }, { accessFlags := 25, nameIndex := 136, descriptorIndex := 124, attributes := #[] }])
  fields := #[{ name := "SIOOBE_FORMATTER", type := (.object "java/util/function/BiFunction"), accessFlags := 25, slot := 0, constantValue := 0 }, { name := "AIOOBE_FORMATTER", type := (.object "java/util/function/BiFunction"), accessFlags := 25, slot := 1, constantValue := 0 }, { name := "IOOBE_FORMATTER", type := (.object "java/util/function/BiFunction"), accessFlags := 25, slot := 2, constantValue := 0 }]
  methods := #[k17m0, k17m1]
  instanceTypes := #[]
  staticTypes := #[(.object "java/util/function/BiFunction"), (.object "java/util/function/BiFunction"), (.object "java/util/function/BiFunction")]
  resolved := Array.replicate 194 none
  statics := none }

/-- the primitive byte -/
def k18 : Class := { plain "byte" none with kind := .primitive 'B', accessFlags := 0x411 }
/-- [B -/
def k19 : Class := { plain "[B" (some 0) with kind := .array 18 .byte, interfaces := #[12, 13], accessFlags := 1041 }

/-- the primitive int -/
def k20 : Class := { plain "int" none with kind := .primitive 'I', accessFlags := 0x411 }
/-- [I -/
def k21 : Class := { plain "[I" (some 0) with kind := .array 20 .int, interfaces := #[12, 13], accessFlags := 1041 }

/-- [Ljava/lang/Object; -/
def k22 : Class := { plain "[Ljava/lang/Object;" (some 0) with kind := .array 0 (.object "java/lang/Object"), interfaces := #[12, 13], accessFlags := 1041 }

def heap : Heap := #[{ cls := 14, slots := #[.long 0, .int 0, .ref 1, .ref 2], vm := .statics 14 },
  { cls := 22, slots := #[], vm := .none },
  { cls := 22, slots := #[], vm := .none }]
def classes : Array Class := #[k0, k1, k2, k3, k4, k5, k6, k7, k8, k9, k10, k11, k12, k13, k14, k15, k16, k17, k18, k19, k20, k21, k22]
def interned : List (Array UInt16 × Addr) := []
def slotsUsed : Nat := 4
def theMethod : MethodId := ⟨1, 1⟩
def args0 : Array Value := #[.int 5, .int 5, .int 5]
def aboutOver (below : List Frame) : State where
  vm := { classes := classes, interned := interned.toArray }
  heap := heap
  slotsUsed := slotsUsed
  threads := #[{ frames := .invoking theMethod args0 :: below }]
def below0 : List Frame := [.native { method := ⟨0, 0⟩, args := #[] }]
def about1 : State := aboutOver below0
def p0 : Program := .bare "" "" ""
def e0 : Env := launch0.env 0 0 0
theorem w_frames : about1.frames = Frame.invoking theMethod args0 :: below0 := rfl
set_option maxRecDepth 65536 in
theorem w_args : argsFit about1.vm theMethod args0 = true := by decide +kernel
set_option maxRecDepth 65536 in
theorem w_heap : heapFits about1 = true := by decide +kernel
set_option maxRecDepth 65536 in
theorem w_runnable : about1.curStatus? = some .runnable := by decide +kernel
set_option maxRecDepth 65536 in
theorem w_alone : about1.alone = true := by decide +kernel
set_option maxRecDepth 65536 in
theorem w_named : about1.methodNamed? x = some theMethod := by decide +kernel
set_option maxRecDepth 65536 in
theorem w_hears : about1.hears theMethod below0 = true := by decide +kernel
set_option maxRecDepth 65536 in
theorem w_ripe : about1.ripe theMethod args0 below0 = true := by decide +kernel
theorem w_running : about1.status = .running := rfl
set_option maxRecDepth 65536 in
theorem w_room : about1.hasRoom e0.platform room_1 = true :=
  launch0.hasRoom_least _ room_1 (by decide +kernel) (by decide +kernel) (by decide +kernel) (by decide +kernel) (by decide +kernel) (by decide +kernel)
theorem allAtoms_all (ts : List Jvm.Cond) (a : Array Jvm.Value) (st : Jvm.State) : (allAtoms ts).before a st = ts.all (fun c => c.before a st) := by
  induction ts with
  | nil => rfl
  | cons c t ih =>
    show (Jvm.Cond.and c (allAtoms t)).before a st = _
    rw [Jvm.Cond.before_and, ih, List.all_cons]
def words1 : List Jvm.Cond := Jvm.Cond.code x code maxLocals ret :: tables_1
/-- a 'code' word, met by the world's own term for the bytes: nothing is compared byte by byte -/
theorem code_word {y : MethodName} {bytes : ByteArray} {mx : Nat} {rt : Option FieldType} {a : Array Value} {s : State} {m : MethodId} {meth : Method} {c : Code} (h1 : s.methodNamed? y = some m) (h2 : s.vm.method? m = some meth) (h3 : meth.code = some c) (h4 : c.code = bytes)
    (h5 : (c.maxLocals == mx && c.exceptionTable.isEmpty && decide (c.maxStack ≤ mostOperands) && decide (meth.sig.returnType = rt) && !meth.locks && decide (parseMethodDescriptor y.desc = some meth.sig)) = true) : (Jvm.Cond.code y bytes mx rt).before a s = true := by
  simp only [Bool.and_eq_true, beq_iff_eq, Bool.not_eq_true', decide_eq_true_eq] at h5
  obtain ⟨⟨⟨⟨⟨g1, g2⟩, g3⟩, g4⟩, g5⟩, g6⟩ := h5
  simp [Cond.before, Cond.holds, Cond.value, h1, h2, h3, h4, g1, g2, g3, g4, g5, g6]
def isCode : Jvm.Cond → Bool
  | .code _ _ _ _ => true
  | _ => false
theorem all_split {L : List Jvm.Cond} {P : Jvm.Cond → Bool} (h1 : L.all (fun c => isCode c || P c) = true) (h2 : ∀ c ∈ L.filter isCode, P c = true) : L.all P = true := by
  refine List.all_eq_true.mpr fun c hc => ?_
  have h := List.all_eq_true.mp h1 c hc
  rcases Bool.eq_false_or_eq_true (isCode c) with hi | hi
  · exact h2 c (List.mem_filter.mpr ⟨hc, hi⟩)
  · simpa [hi] using h
set_option maxRecDepth 65536 in
theorem w_c0 : (Jvm.Cond.code x code maxLocals ret).before args0 about1 = true := code_word (m := ⟨1, 1⟩) (meth := k1m1) (c := k1c1) (by decide +kernel) rfl rfl rfl (by decide +kernel)
set_option maxRecDepth 65536 in
theorem w_c1 : (Jvm.Cond.code ({ cls := "com/example/rowcast/rowcast/Histogram$CountedEndpoint", name := "<init>", desc := "(DDZD)V" } : Jvm.MethodName) prog_19_method_1_code (8 : Nat) (Option.none : Option Jvm.ClassFile.FieldType)).before args0 about1 = true := code_word (m := ⟨3, 0⟩) (meth := k3m0) (c := k3c0) (by decide +kernel) rfl rfl rfl (by decide +kernel)
set_option maxRecDepth 65536 in
theorem w_c2 : (Jvm.Cond.code ({ cls := "java/lang/Record", name := "<init>", desc := "()V" } : Jvm.MethodName) jdk_30_method_1_code (1 : Nat) (Option.none : Option Jvm.ClassFile.FieldType)).before args0 about1 = true := code_word (m := ⟨2, 0⟩) (meth := k2m0) (c := k2c0) (by decide +kernel) rfl rfl rfl (by decide +kernel)
set_option maxRecDepth 65536 in
theorem w_c3 : (Jvm.Cond.code ({ cls := "java/lang/Object", name := "<init>", desc := "()V" } : Jvm.MethodName) object_method_1_code (1 : Nat) (Option.none : Option Jvm.ClassFile.FieldType)).before args0 about1 = true := code_word (m := ⟨0, 0⟩) (meth := k0m0) (c := k0c0) (by decide +kernel) rfl rfl rfl (by decide +kernel)
set_option maxRecDepth 65536 in
theorem w_c4 : (Jvm.Cond.code ({ cls := "com/example/rowcast/rowcast/JoinValue", name := "<init>", desc := "(DLcom/example/rowcast/rowcast/Histogram$CountedEndpoint;Lcom/example/rowcast/rowcast/Histogram$CountedEndpoint;)V" } : Jvm.MethodName) prog_32_method_1_code (5 : Nat) (Option.none : Option Jvm.ClassFile.FieldType)).before args0 about1 = true := code_word (m := ⟨4, 0⟩) (meth := k4m0) (c := k4c0) (by decide +kernel) rfl rfl rfl (by decide +kernel)
set_option maxRecDepth 65536 in
theorem w_c5 : (Jvm.Cond.code ({ cls := "com/example/rowcast/rowcast/JoinValue", name := "matching", desc := "()Z" } : Jvm.MethodName) prog_32_method_3_code (1 : Nat) (Option.some Jvm.ClassFile.FieldType.boolean)).before args0 about1 = true := code_word (m := ⟨4, 2⟩) (meth := k4m2) (c := k4c2) (by decide +kernel) rfl rfl rfl (by decide +kernel)
set_option maxRecDepth 65536 in
theorem w_c6 : (Jvm.Cond.code ({ cls := "java/util/ArrayList", name := "<init>", desc := "()V" } : Jvm.MethodName) jdk_38_method_2_code (1 : Nat) (Option.none : Option Jvm.ClassFile.FieldType)).before args0 about1 = true := code_word (m := ⟨14, 1⟩) (meth := k14m1) (c := k14c1) (by decide +kernel) rfl rfl rfl (by decide +kernel)
set_option maxRecDepth 65536 in
theorem w_c7 : (Jvm.Cond.code ({ cls := "java/util/AbstractList", name := "<init>", desc := "()V" } : Jvm.MethodName) jdk_39_method_1_code (1 : Nat) (Option.none : Option Jvm.ClassFile.FieldType)).before args0 about1 = true := code_word (m := ⟨10, 0⟩) (meth := k10m0) (c := k10c0) (by decide +kernel) rfl rfl rfl (by decide +kernel)
set_option maxRecDepth 65536 in
theorem w_c8 : (Jvm.Cond.code ({ cls := "java/util/AbstractCollection", name := "<init>", desc := "()V" } : Jvm.MethodName) jdk_22_method_1_code (1 : Nat) (Option.none : Option Jvm.ClassFile.FieldType)).before args0 about1 = true := code_word (m := ⟨7, 0⟩) (meth := k7m0) (c := k7c0) (by decide +kernel) rfl rfl rfl (by decide +kernel)
set_option maxRecDepth 65536 in
theorem w_c9 : (Jvm.Cond.code ({ cls := "java/util/ArrayList", name := "add", desc := "(Ljava/lang/Object;)Z" } : Jvm.MethodName) jdk_38_method_25_code (2 : Nat) (Option.some Jvm.ClassFile.FieldType.boolean)).before args0 about1 = true := code_word (m := ⟨14, 8⟩) (meth := k14m8) (c := k14c8) (by decide +kernel) rfl rfl rfl (by decide +kernel)
set_option maxRecDepth 65536 in
theorem w_c10 : (Jvm.Cond.code ({ cls := "java/util/ArrayList", name := "add", desc := "(Ljava/lang/Object;[Ljava/lang/Object;I)V" } : Jvm.MethodName) jdk_38_method_24_code (4 : Nat) (Option.none : Option Jvm.ClassFile.FieldType)).before args0 about1 = true := code_word (m := ⟨14, 7⟩) (meth := k14m7) (c := k14c7) (by decide +kernel) rfl rfl rfl (by decide +kernel)
set_option maxRecDepth 65536 in
theorem w_c11 : (Jvm.Cond.code ({ cls := "java/util/ArrayList", name := "grow", desc := "()[Ljava/lang/Object;" } : Jvm.MethodName) jdk_38_method_7_code (1 : Nat) (Option.some (Jvm.ClassFile.FieldType.array (Jvm.ClassFile.FieldType.object "java/lang/Object")))).before args0 about1 = true := code_word (m := ⟨14, 3⟩) (meth := k14m3) (c := k14c3) (by decide +kernel) rfl rfl rfl (by decide +kernel)
set_option maxRecDepth 65536 in
theorem w_c12 : (Jvm.Cond.code ({ cls := "java/util/ArrayList", name := "grow", desc := "(I)[Ljava/lang/Object;" } : Jvm.MethodName) jdk_38_method_6_code (4 : Nat) (Option.some (Jvm.ClassFile.FieldType.array (Jvm.ClassFile.FieldType.object "java/lang/Object")))).before args0 about1 = true := code_word (m := ⟨14, 2⟩) (meth := k14m2) (c := k14c2) (by decide +kernel) rfl rfl rfl (by decide +kernel)
set_option maxRecDepth 65536 in
theorem w_c13 : (Jvm.Cond.code ({ cls := "java/lang/Math", name := "max", desc := "(II)I" } : Jvm.MethodName) jdk_29_method_65_code (2 : Nat) (Option.some Jvm.ClassFile.FieldType.int)).before args0 about1 = true := code_word (m := ⟨15, 1⟩) (meth := k15m1) (c := k15c1) (by decide +kernel) rfl rfl rfl (by decide +kernel)
set_option maxRecDepth 65536 in
theorem w_c14 : (Jvm.Cond.code ({ cls := "com/example/rowcast/rowcast/JoinValue", name := "joinHistogram", desc := "(Ljava/util/List;Ljava/util/List;)Ljava/util/List;" } : Jvm.MethodName) prog_32_method_2_code (7 : Nat) (Option.some (Jvm.ClassFile.FieldType.object "java/util/List"))).before args0 about1 = true := code_word (m := ⟨4, 1⟩) (meth := k4m1) (c := k4c1) (by decide +kernel) rfl rfl rfl (by decide +kernel)
set_option maxRecDepth 65536 in
theorem w_c15 : (Jvm.Cond.code ({ cls := "java/util/ArrayList", name := "size", desc := "()I" } : Jvm.MethodName) jdk_38_method_8_code (1 : Nat) (Option.some Jvm.ClassFile.FieldType.int)).before args0 about1 = true := code_word (m := ⟨14, 4⟩) (meth := k14m4) (c := k14c4) (by decide +kernel) rfl rfl rfl (by decide +kernel)
set_option maxRecDepth 65536 in
theorem w_c16 : (Jvm.Cond.code ({ cls := "java/util/ArrayList", name := "<init>", desc := "(I)V" } : Jvm.MethodName) jdk_38_method_1_code (2 : Nat) (Option.none : Option Jvm.ClassFile.FieldType)).before args0 about1 = true := code_word (m := ⟨14, 0⟩) (meth := k14m0) (c := k14c0) (by decide +kernel) rfl rfl rfl (by decide +kernel)
set_option maxRecDepth 65536 in
theorem w_c17 : (Jvm.Cond.code ({ cls := "java/util/ArrayList", name := "get", desc := "(I)Ljava/lang/Object;" } : Jvm.MethodName) jdk_38_method_20_code (2 : Nat) (Option.some (Jvm.ClassFile.FieldType.object "java/lang/Object"))).before args0 about1 = true := code_word (m := ⟨14, 6⟩) (meth := k14m6) (c := k14c6) (by decide +kernel) rfl rfl rfl (by decide +kernel)
set_option maxRecDepth 65536 in
theorem w_c18 : (Jvm.Cond.code ({ cls := "java/util/Objects", name := "checkIndex", desc := "(II)I" } : Jvm.MethodName) jdk_31_method_17_code (2 : Nat) (Option.some Jvm.ClassFile.FieldType.int)).before args0 about1 = true := code_word (m := ⟨16, 1⟩) (meth := k16m1) (c := k16c1) (by decide +kernel) rfl rfl rfl (by decide +kernel)
set_option maxRecDepth 65536 in
theorem w_c19 : (Jvm.Cond.code ({ cls := "jdk/internal/util/Preconditions", name := "checkIndex", desc := "(IILjava/util/function/BiFunction;)I" } : Jvm.MethodName) jdk_41_method_11_code (3 : Nat) (Option.some Jvm.ClassFile.FieldType.int)).before args0 about1 = true := code_word (m := ⟨17, 1⟩) (meth := k17m1) (c := k17c1) (by decide +kernel) rfl rfl rfl (by decide +kernel)
set_option maxRecDepth 65536 in
theorem w_c20 : (Jvm.Cond.code ({ cls := "java/util/ArrayList", name := "elementData", desc := "(I)Ljava/lang/Object;" } : Jvm.MethodName) jdk_38_method_18_code (2 : Nat) (Option.some (Jvm.ClassFile.FieldType.object "java/lang/Object"))).before args0 about1 = true := code_word (m := ⟨14, 5⟩) (meth := k14m5) (c := k14c5) (by decide +kernel) rfl rfl rfl (by decide +kernel)
set_option maxRecDepth 65536 in
theorem w_c21 : (Jvm.Cond.code ({ cls := "com/example/rowcast/rowcast/Histogram$CountedEndpoint", name := "value", desc := "()D" } : Jvm.MethodName) prog_19_method_6_code (1 : Nat) (Option.some Jvm.ClassFile.FieldType.double)).before args0 about1 = true := code_word (m := ⟨3, 1⟩) (meth := k3m1) (c := k3c1) (by decide +kernel) rfl rfl rfl (by decide +kernel)
def codes1 : List Jvm.Cond := [Jvm.Cond.code x code maxLocals ret, Jvm.Cond.code ({ cls := "com/example/rowcast/rowcast/Histogram$CountedEndpoint", name := "<init>", desc := "(DDZD)V" } : Jvm.MethodName) prog_19_method_1_code (8 : Nat) (Option.none : Option Jvm.ClassFile.FieldType), Jvm.Cond.code ({ cls := "java/lang/Record", name := "<init>", desc := "()V" } : Jvm.MethodName) jdk_30_method_1_code (1 : Nat) (Option.none : Option Jvm.ClassFile.FieldType), Jvm.Cond.code ({ cls := "java/lang/Object", name := "<init>", desc := "()V" } : Jvm.MethodName) object_method_1_code (1 : Nat) (Option.none : Option Jvm.ClassFile.FieldType), Jvm.Cond.code ({ cls := "com/example/rowcast/rowcast/JoinValue", name := "<init>", desc := "(DLcom/example/rowcast/rowcast/Histogram$CountedEndpoint;Lcom/example/rowcast/rowcast/Histogram$CountedEndpoint;)V" } : Jvm.MethodName) prog_32_method_1_code (5 : Nat) (Option.none : Option Jvm.ClassFile.FieldType), Jvm.Cond.code ({ cls := "com/example/rowcast/rowcast/JoinValue", name := "matching", desc := "()Z" } : Jvm.MethodName) prog_32_method_3_code (1 : Nat) (Option.some Jvm.ClassFile.FieldType.boolean), Jvm.Cond.code ({ cls := "java/util/ArrayList", name := "<init>", desc := "()V" } : Jvm.MethodName) jdk_38_method_2_code (1 : Nat) (Option.none : Option Jvm.ClassFile.FieldType), Jvm.Cond.code ({ cls := "java/util/AbstractList", name := "<init>", desc := "()V" } : Jvm.MethodName) jdk_39_method_1_code (1 : Nat) (Option.none : Option Jvm.ClassFile.FieldType), Jvm.Cond.code ({ cls := "java/util/AbstractCollection", name := "<init>", desc := "()V" } : Jvm.MethodName) jdk_22_method_1_code (1 : Nat) (Option.none : Option Jvm.ClassFile.FieldType), Jvm.Cond.code ({ cls := "java/util/ArrayList", name := "add", desc := "(Ljava/lang/Object;)Z" } : Jvm.MethodName) jdk_38_method_25_code (2 : Nat) (Option.some Jvm.ClassFile.FieldType.boolean), Jvm.Cond.code ({ cls := "java/util/ArrayList", name := "add", desc := "(Ljava/lang/Object;[Ljava/lang/Object;I)V" } : Jvm.MethodName) jdk_38_method_24_code (4 : Nat) (Option.none : Option Jvm.ClassFile.FieldType), Jvm.Cond.code ({ cls := "java/util/ArrayList", name := "grow", desc := "()[Ljava/lang/Object;" } : Jvm.MethodName) jdk_38_method_7_code (1 : Nat) (Option.some (Jvm.ClassFile.FieldType.array (Jvm.ClassFile.FieldType.object "java/lang/Object"))), Jvm.Cond.code ({ cls := "java/util/ArrayList", name := "grow", desc := "(I)[Ljava/lang/Object;" } : Jvm.MethodName) jdk_38_method_6_code (4 : Nat) (Option.some (Jvm.ClassFile.FieldType.array (Jvm.ClassFile.FieldType.object "java/lang/Object"))), Jvm.Cond.code ({ cls := "java/lang/Math", name := "max", desc := "(II)I" } : Jvm.MethodName) jdk_29_method_65_code (2 : Nat) (Option.some Jvm.ClassFile.FieldType.int), Jvm.Cond.code ({ cls := "com/example/rowcast/rowcast/JoinValue", name := "joinHistogram", desc := "(Ljava/util/List;Ljava/util/List;)Ljava/util/List;" } : Jvm.MethodName) prog_32_method_2_code (7 : Nat) (Option.some (Jvm.ClassFile.FieldType.object "java/util/List")), Jvm.Cond.code ({ cls := "java/util/ArrayList", name := "size", desc := "()I" } : Jvm.MethodName) jdk_38_method_8_code (1 : Nat) (Option.some Jvm.ClassFile.FieldType.int), Jvm.Cond.code ({ cls := "java/util/ArrayList", name := "<init>", desc := "(I)V" } : Jvm.MethodName) jdk_38_method_1_code (2 : Nat) (Option.none : Option Jvm.ClassFile.FieldType), Jvm.Cond.code ({ cls := "java/util/ArrayList", name := "get", desc := "(I)Ljava/lang/Object;" } : Jvm.MethodName) jdk_38_method_20_code (2 : Nat) (Option.some (Jvm.ClassFile.FieldType.object "java/lang/Object")), Jvm.Cond.code ({ cls := "java/util/Objects", name := "checkIndex", desc := "(II)I" } : Jvm.MethodName) jdk_31_method_17_code (2 : Nat) (Option.some Jvm.ClassFile.FieldType.int), Jvm.Cond.code ({ cls := "jdk/internal/util/Preconditions", name := "checkIndex", desc := "(IILjava/util/function/BiFunction;)I" } : Jvm.MethodName) jdk_41_method_11_code (3 : Nat) (Option.some Jvm.ClassFile.FieldType.int), Jvm.Cond.code ({ cls := "java/util/ArrayList", name := "elementData", desc := "(I)Ljava/lang/Object;" } : Jvm.MethodName) jdk_38_method_18_code (2 : Nat) (Option.some (Jvm.ClassFile.FieldType.object "java/lang/Object")), Jvm.Cond.code ({ cls := "com/example/rowcast/rowcast/Histogram$CountedEndpoint", name := "value", desc := "()D" } : Jvm.MethodName) prog_19_method_6_code (1 : Nat) (Option.some Jvm.ClassFile.FieldType.double)]
set_option maxRecDepth 65536 in
theorem codes_eq : words1.filter isCode = codes1 := rfl
theorem w_codes : ∀ c ∈ words1.filter isCode, c.before args0 about1 = true := by
  rw [codes_eq]
  intro c hc
  simp only [codes1, List.mem_cons, List.not_mem_nil, or_false] at hc
  rcases hc with rfl | rfl | rfl | rfl | rfl | rfl | rfl | rfl | rfl | rfl | rfl | rfl | rfl | rfl | rfl | rfl | rfl | rfl | rfl | rfl | rfl | rfl
  · exact w_c0
  · exact w_c1
  · exact w_c2
  · exact w_c3
  · exact w_c4
  · exact w_c5
  · exact w_c6
  · exact w_c7
  · exact w_c8
  · exact w_c9
  · exact w_c10
  · exact w_c11
  · exact w_c12
  · exact w_c13
  · exact w_c14
  · exact w_c15
  · exact w_c16
  · exact w_c17
  · exact w_c18
  · exact w_c19
  · exact w_c20
  · exact w_c21
set_option maxRecDepth 65536 in
theorem w_t1 : (words1.take 24).all (fun c => isCode c || c.before args0 about1) = true := by decide +kernel
set_option maxRecDepth 65536 in
theorem w_t2 : ((words1.drop 24).take 24).all (fun c => isCode c || c.before args0 about1) = true := by decide +kernel
set_option maxRecDepth 65536 in
theorem w_t3 : (((words1.drop 24).drop 24).take 24).all (fun c => isCode c || c.before args0 about1) = true := by decide +kernel
set_option maxRecDepth 65536 in
theorem w_t4 : ((((words1.drop 24).drop 24).drop 24).take 24).all (fun c => isCode c || c.before args0 about1) = true := by decide +kernel
set_option maxRecDepth 65536 in
theorem w_t5 : (((((words1.drop 24).drop 24).drop 24).drop 24).take 24).all (fun c => isCode c || c.before args0 about1) = true := by decide +kernel
set_option maxRecDepth 65536 in
theorem w_t6 : ((((((words1.drop 24).drop 24).drop 24).drop 24).drop 24).take 24).all (fun c => isCode c || c.before args0 about1) = true := by decide +kernel
set_option maxRecDepth 65536 in
theorem w_t7 : ((((((words1.drop 24).drop 24).drop 24).drop 24).drop 24).drop 24).all (fun c => isCode c || c.before args0 about1) = true := by decide +kernel
theorem w_tables : (allAtoms (Jvm.Cond.code x code maxLocals ret :: tables_1)).before args0 about1 = true := by
  rw [allAtoms_all]
  show words1.all (fun c => c.before args0 about1) = true
  refine all_split ?_ w_codes
  rw [← List.take_append_drop 24 words1, List.all_append, w_t1, ← List.take_append_drop 24 (words1.drop 24), List.all_append, w_t2, ← List.take_append_drop 24 ((words1.drop 24).drop 24), List.all_append, w_t3, ← List.take_append_drop 24 (((words1.drop 24).drop 24).drop 24), List.all_append, w_t4, ← List.take_append_drop 24 ((((words1.drop 24).drop 24).drop 24).drop 24), List.all_append, w_t5, ← List.take_append_drop 24 (((((words1.drop 24).drop 24).drop 24).drop 24).drop 24), List.all_append, w_t6, w_t7]
  rfl
set_option maxRecDepth 65536 in
theorem w_rest : rest_1_c.before args0 about1 = true := by decide +kernel
set_option maxRecDepth 65536 in
theorem w_case : (Jvm.Cond.and given_1 narrow_1).before args0 about1 = true := by decide +kernel
theorem w_applies : (headSpec (Jvm.Cond.code x code maxLocals ret :: tables_1) room_1).applies x e0.platform about1 = true :=
  (Spec.applies_iff w_frames).mpr ⟨w_running, w_runnable, w_alone, w_named, w_hears, w_ripe, w_room, w_tables⟩
theorem atStart : AtStart classFile x code maxLocals ret World_1 tables_1 room_1 Calls_1 rest_1 Pre_1 launch0 p0 e0 about1 theMethod args0 below0 :=
  ⟨lists_1, trivial, launch0.admits_env _ _ _, launch0.least_env, fairChoices_fair.cas, fairChoices_fair.clock, w_frames, w_args, w_heap, w_applies, trivial, w_rest, w_case⟩
end start1
theorem witness_1 : WitnessClaimed_1 := ⟨start1.p0, start1.e0, start1.about1, start1.theMethod, start1.args0, start1.below0, start1.atStart⟩
end Jvm.Pilot.@@N@@
