import JvmDerived
import JvmDerived.Pilot.@@N@@Statement
import JvmDerived.Pilot.@@N@@Code
set_option linter.unusedVariables false
set_option linter.unusedSimpArgs false
@@BLOCK:NumsL.lean.txt@@
namespace Jvm.Own
open Jvm Jvm.ClassFile Sem Op Lib Jvm.Free Jvm.Stand Jvm.LawKit Jvm.RoadKit
/-- from A the run comes to the invocation's end, where P holds -/
def Go (p : Program) (e : Env) (below : List Frame) (P : Outcome → State → Prop) (A : State) : Prop := ∃ s₂ o, Steps p.tables e below A s₂ ∧ s₂.status = .running ∧ Ended s₂ below o ∧ P o s₂
def Gf (p : Program) (e : Env) (below : List Frame) (P : Outcome → State → Prop) (T : State) (m : MethodId) (pc : Nat) (Ls : Array Slot) (st : List Value) : Prop := Go p e below P (T.setTop (mkF m pc Ls st))
theorem Go.step {p : Program} {e : Env} {below : List Frame} {P : Outcome → State → Prop} {A B : State} (h : ∀ t, Steps p.tables e below B t → Steps p.tables e below A t) (g : Go p e below P B) : Go p e below P A := by
  obtain ⟨s2, o, h1, h2⟩ := g
  exact ⟨s2, o, h _ h1, h2⟩
section Steps1
variable {p : Program} {l : Launch} {e : Env} {R : Room} {s : State} {m : MethodId} {args : Array Value} {below : List Frame} {meth : Method} {c : Code} {T : State} {locs : List Loc} {cells slots : Nat} {P : Outcome → State → Prop} {code : ByteArray} {pc pc' : Nat} {Ls Ls' : Array Slot} {st st' : List Value}
theorem g_iloadN (X : Stand p l e R s m args below meth c T locs cells slots) (hx : p.tables.exec = Jvm.exec) (hby : c.code = code) {k : Fin 4} {v : Int32} (hd : decode code pc = .ok (.iload_n k, 1)) (hl : Ls[k.val]? = some (.val (.int v))) (hp : pc + 1 = pc') (g : Gf p e below P T m pc' Ls (.int v :: st)) : Gf p e below P T m pc Ls st := by
  subst hp
  exact Go.step (fun t k => XS.iloadN X.here hx rfl (hb hby hd) hl k) g
theorem g_iload (X : Stand p l e R s m args below meth c T locs cells slots) (hx : p.tables.exec = Jvm.exec) (hby : c.code = code) {k : Nat} {v : Int32} (hd : decode code pc = .ok (.iload k, 2)) (hl : Ls[k]? = some (.val (.int v))) (hp : pc + 2 = pc') (g : Gf p e below P T m pc' Ls (.int v :: st)) : Gf p e below P T m pc Ls st := by
  subst hp
  exact Go.step (fun t k => XS.iload X.here hx rfl (hb hby hd) hl k) g
theorem g_istoreN (X : Stand p l e R s m args below meth c T locs cells slots) (hx : p.tables.exec = Jvm.exec) (hby : c.code = code) {k : Fin 4} {v : Int32} (hd : decode code pc = .ok (.istore_n k, 1)) (hst : st = .int v :: st') (hl : storeLocals Ls k.val (.int v) = some Ls') (hp : pc + 1 = pc') (g : Gf p e below P T m pc' Ls' st') : Gf p e below P T m pc Ls st := by
  subst hp hst
  exact Go.step (fun t k => XS.istoreN X.here hx rfl (hb hby hd) rfl hl k) g
theorem g_istore (X : Stand p l e R s m args below meth c T locs cells slots) (hx : p.tables.exec = Jvm.exec) (hby : c.code = code) {k : Nat} {v : Int32} (hd : decode code pc = .ok (.istore k, 2)) (hst : st = .int v :: st') (hl : storeLocals Ls k (.int v) = some Ls') (hp : pc + 2 = pc') (g : Gf p e below P T m pc' Ls' st') : Gf p e below P T m pc Ls st := by
  subst hp hst
  exact Go.step (fun t k => XS.istore X.here hx rfl (hb hby hd) rfl hl k) g
theorem g_lloadN (X : Stand p l e R s m args below meth c T locs cells slots) (hx : p.tables.exec = Jvm.exec) (hby : c.code = code) {k : Fin 4} {v : Int64} (hd : decode code pc = .ok (.lload_n k, 1)) (hl : Ls[k.val]? = some (.val (.long v))) (hp : pc + 1 = pc') (g : Gf p e below P T m pc' Ls (.long v :: st)) : Gf p e below P T m pc Ls st := by
  subst hp
  exact Go.step (fun t k => XS.lloadN X.here hx rfl (hb hby hd) hl k) g
theorem g_lload (X : Stand p l e R s m args below meth c T locs cells slots) (hx : p.tables.exec = Jvm.exec) (hby : c.code = code) {k : Nat} {v : Int64} (hd : decode code pc = .ok (.lload k, 2)) (hl : Ls[k]? = some (.val (.long v))) (hp : pc + 2 = pc') (g : Gf p e below P T m pc' Ls (.long v :: st)) : Gf p e below P T m pc Ls st := by
  subst hp
  exact Go.step (fun t k => XS.lload X.here hx rfl (hb hby hd) hl k) g
theorem g_lstoreN (X : Stand p l e R s m args below meth c T locs cells slots) (hx : p.tables.exec = Jvm.exec) (hby : c.code = code) {k : Fin 4} {v : Int64} (hd : decode code pc = .ok (.lstore_n k, 1)) (hst : st = .long v :: st') (hl : storeLocals Ls k.val (.long v) = some Ls') (hp : pc + 1 = pc') (g : Gf p e below P T m pc' Ls' st') : Gf p e below P T m pc Ls st := by
  subst hp hst
  exact Go.step (fun t k => XS.lstoreN X.here hx rfl (hb hby hd) rfl hl k) g
theorem g_lstore (X : Stand p l e R s m args below meth c T locs cells slots) (hx : p.tables.exec = Jvm.exec) (hby : c.code = code) {k : Nat} {v : Int64} (hd : decode code pc = .ok (.lstore k, 2)) (hst : st = .long v :: st') (hl : storeLocals Ls k (.long v) = some Ls') (hp : pc + 2 = pc') (g : Gf p e below P T m pc' Ls' st') : Gf p e below P T m pc Ls st := by
  subst hp hst
  exact Go.step (fun t k => XS.lstore X.here hx rfl (hb hby hd) rfl hl k) g
theorem g_dloadN (X : Stand p l e R s m args below meth c T locs cells slots) (hx : p.tables.exec = Jvm.exec) (hby : c.code = code) {k : Fin 4} {v : UInt64} (hd : decode code pc = .ok (.dload_n k, 1)) (hl : Ls[k.val]? = some (.val (.double v))) (hp : pc + 1 = pc') (g : Gf p e below P T m pc' Ls (.double v :: st)) : Gf p e below P T m pc Ls st := by
  subst hp
  exact Go.step (fun t k => XS.dloadN X.here hx rfl (hb hby hd) hl k) g
theorem g_dload (X : Stand p l e R s m args below meth c T locs cells slots) (hx : p.tables.exec = Jvm.exec) (hby : c.code = code) {k : Nat} {v : UInt64} (hd : decode code pc = .ok (.dload k, 2)) (hl : Ls[k]? = some (.val (.double v))) (hp : pc + 2 = pc') (g : Gf p e below P T m pc' Ls (.double v :: st)) : Gf p e below P T m pc Ls st := by
  subst hp
  exact Go.step (fun t k => XS.dload X.here hx rfl (hb hby hd) hl k) g
theorem g_dstoreN (X : Stand p l e R s m args below meth c T locs cells slots) (hx : p.tables.exec = Jvm.exec) (hby : c.code = code) {k : Fin 4} {v : UInt64} (hd : decode code pc = .ok (.dstore_n k, 1)) (hst : st = .double v :: st') (hl : storeLocals Ls k.val (.double v) = some Ls') (hp : pc + 1 = pc') (g : Gf p e below P T m pc' Ls' st') : Gf p e below P T m pc Ls st := by
  subst hp hst
  exact Go.step (fun t k => XS.dstoreN X.here hx rfl (hb hby hd) rfl hl k) g
theorem g_dstore (X : Stand p l e R s m args below meth c T locs cells slots) (hx : p.tables.exec = Jvm.exec) (hby : c.code = code) {k : Nat} {v : UInt64} (hd : decode code pc = .ok (.dstore k, 2)) (hst : st = .double v :: st') (hl : storeLocals Ls k (.double v) = some Ls') (hp : pc + 2 = pc') (g : Gf p e below P T m pc' Ls' st') : Gf p e below P T m pc Ls st := by
  subst hp hst
  exact Go.step (fun t k => XS.dstore X.here hx rfl (hb hby hd) rfl hl k) g
theorem g_aloadN (X : Stand p l e R s m args below meth c T locs cells slots) (hx : p.tables.exec = Jvm.exec) (hby : c.code = code) {k : Fin 4} {v : Value} (hd : decode code pc = .ok (.aload_n k, 1)) (hl : Ls[k.val]? = some (.val v)) (hv : v.isRef = true) (hp : pc + 1 = pc') (g : Gf p e below P T m pc' Ls (v :: st)) : Gf p e below P T m pc Ls st := by
  subst hp
  exact Go.step (fun t k => XS.aloadN X.here hx rfl (hb hby hd) hl hv k) g
theorem g_aload (X : Stand p l e R s m args below meth c T locs cells slots) (hx : p.tables.exec = Jvm.exec) (hby : c.code = code) {k : Nat} {v : Value} (hd : decode code pc = .ok (.aload k, 2)) (hl : Ls[k]? = some (.val v)) (hv : v.isRef = true) (hp : pc + 2 = pc') (g : Gf p e below P T m pc' Ls (v :: st)) : Gf p e below P T m pc Ls st := by
  subst hp
  exact Go.step (fun t k => XS.aload X.here hx rfl (hb hby hd) hl hv k) g
theorem g_astoreN (X : Stand p l e R s m args below meth c T locs cells slots) (hx : p.tables.exec = Jvm.exec) (hby : c.code = code) {k : Fin 4} {v : Value} (hd : decode code pc = .ok (.astore_n k, 1)) (hst : st = v :: st') (hv : v.isRef = true) (hl : storeLocals Ls k.val v = some Ls') (hp : pc + 1 = pc') (g : Gf p e below P T m pc' Ls' st') : Gf p e below P T m pc Ls st := by
  subst hp hst
  exact Go.step (fun t k => XS.astoreN X.here hx rfl (hb hby hd) rfl hv hl k) g
theorem g_astore (X : Stand p l e R s m args below meth c T locs cells slots) (hx : p.tables.exec = Jvm.exec) (hby : c.code = code) {k : Nat} {v : Value} (hd : decode code pc = .ok (.astore k, 2)) (hst : st = v :: st') (hv : v.isRef = true) (hl : storeLocals Ls k v = some Ls') (hp : pc + 2 = pc') (g : Gf p e below P T m pc' Ls' st') : Gf p e below P T m pc Ls st := by
  subst hp hst
  exact Go.step (fun t k => XS.astore X.here hx rfl (hb hby hd) rfl hv hl k) g
theorem g_iconst (X : Stand p l e R s m args below meth c T locs cells slots) (hx : p.tables.exec = Jvm.exec) (hby : c.code = code) {i : Int} {v : Int32} (hd : decode code pc = .ok (.iconst i, 1)) (hv : Int32.ofInt i = v) (hp : pc + 1 = pc') (g : Gf p e below P T m pc' Ls (.int v :: st)) : Gf p e below P T m pc Ls st := by
  subst hp
  exact Go.step (fun t k => XS.iconst X.here hx rfl (hb hby hd) (by subst hv; exact k)) g
theorem g_bipush (X : Stand p l e R s m args below meth c T locs cells slots) (hx : p.tables.exec = Jvm.exec) (hby : c.code = code) {i : Int} {v : Int32} (hd : decode code pc = .ok (.bipush i, 2)) (hv : (Int8.ofInt i).toInt32 = v) (hp : pc + 2 = pc') (g : Gf p e below P T m pc' Ls (.int v :: st)) : Gf p e below P T m pc Ls st := by
  subst hp
  exact Go.step (fun t k => XS.bipush X.here hx rfl (hb hby hd) (by subst hv; exact k)) g
theorem g_sipush (X : Stand p l e R s m args below meth c T locs cells slots) (hx : p.tables.exec = Jvm.exec) (hby : c.code = code) {i : Int} {v : Int32} (hd : decode code pc = .ok (.sipush i, 3)) (hv : (Int16.ofInt i).toInt32 = v) (hp : pc + 3 = pc') (g : Gf p e below P T m pc' Ls (.int v :: st)) : Gf p e below P T m pc Ls st := by
  subst hp
  exact Go.step (fun t k => XS.sipush X.here hx rfl (hb hby hd) (by subst hv; exact k)) g
theorem g_lconst (X : Stand p l e R s m args below meth c T locs cells slots) (hx : p.tables.exec = Jvm.exec) (hby : c.code = code) {i : Fin 2} {v : Int64} (hd : decode code pc = .ok (.lconst i, 1)) (hv : Int64.ofInt i.val = v) (hp : pc + 1 = pc') (g : Gf p e below P T m pc' Ls (.long v :: st)) : Gf p e below P T m pc Ls st := by
  subst hp
  exact Go.step (fun t k => XS.lconst X.here hx rfl (hb hby hd) (by subst hv; exact k)) g
theorem g_dconst0 (X : Stand p l e R s m args below meth c T locs cells slots) (hx : p.tables.exec = Jvm.exec) (hby : c.code = code) {v : UInt64} (hd : decode code pc = .ok (.dconst 0, 1)) (hv : FP.dconst0 = v) (hp : pc + 1 = pc') (g : Gf p e below P T m pc' Ls (.double v :: st)) : Gf p e below P T m pc Ls st := by
  subst hp
  exact Go.step (fun t k => XS.dconst0 X.here hx rfl (hb hby hd) hv k) g
theorem g_dconst1 (X : Stand p l e R s m args below meth c T locs cells slots) (hx : p.tables.exec = Jvm.exec) (hby : c.code = code) {v : UInt64} (hd : decode code pc = .ok (.dconst 1, 1)) (hv : FP.dconst1 = v) (hp : pc + 1 = pc') (g : Gf p e below P T m pc' Ls (.double v :: st)) : Gf p e below P T m pc Ls st := by
  subst hp
  exact Go.step (fun t k => XS.dconst1 X.here hx rfl (hb hby hd) hv k) g
theorem g_aconst_null (X : Stand p l e R s m args below meth c T locs cells slots) (hx : p.tables.exec = Jvm.exec) (hby : c.code = code)  (hd : decode code pc = .ok (.aconst_null, 1)) (hp : pc + 1 = pc') (g : Gf p e below P T m pc' Ls (.null :: st)) : Gf p e below P T m pc Ls st := by
  subst hp
  exact Go.step (fun t k => XS.aconstNull X.here hx rfl (hb hby hd) k) g
theorem g_ldcI (X : Stand p l e R s m args below meth c T locs cells slots) (hx : p.tables.exec = Jvm.exec) (hby : c.code = code) {own : String} {a0 : Array Value} {Z : State} (hZ : Z.Warmed39 s.vm) (hown : s.vm.findClass own = some m.cls) {i : Nat} {v : Int32} (w : (Cond.constant own i v).before a0 Z = true) (hd : decode code pc = .ok (.ldc i, 2)) (hp : pc + 2 = pc') (g : Gf p e below P T m pc' Ls (.int v :: st)) : Gf p e below P T m pc Ls st := by
  subst hp
  exact Go.step (fun t k => X.ldcInt hx hown (mvT hZ w) (g := mkF m pc Ls st) rfl (hb hby hd) t k) g
theorem g_ldcJ (X : Stand p l e R s m args below meth c T locs cells slots) (hx : p.tables.exec = Jvm.exec) (hby : c.code = code) {own : String} {a0 : Array Value} {Z : State} (hZ : Z.Warmed39 s.vm) (hown : s.vm.findClass own = some m.cls) {i : Nat} {v : Int64} (w : (Cond.constantLong own i v).before a0 Z = true) (hd : decode code pc = .ok (.ldc2_w i, 3)) (hp : pc + 3 = pc') (g : Gf p e below P T m pc' Ls (.long v :: st)) : Gf p e below P T m pc Ls st := by
  subst hp
  exact Go.step (fun t k => X.ldc2Long hx hown (mvT hZ w) (g := mkF m pc Ls st) rfl (hb hby hd) t k) g
theorem g_ldcD (X : Stand p l e R s m args below meth c T locs cells slots) (hx : p.tables.exec = Jvm.exec) (hby : c.code = code) {own : String} {a0 : Array Value} {Z : State} (hZ : Z.Warmed39 s.vm) (hown : s.vm.findClass own = some m.cls) {i : Nat} {v : UInt64} (w : (Cond.constantDouble own i v).before a0 Z = true) (hd : decode code pc = .ok (.ldc2_w i, 3)) (hp : pc + 3 = pc') (g : Gf p e below P T m pc' Ls (.double v :: st)) : Gf p e below P T m pc Ls st := by
  subst hp
  exact Go.step (fun t k => X.ldc2DoubleC hx hown (mvT hZ w) (g := mkF m pc Ls st) rfl (hb hby hd) t k) g
theorem g_iadd (X : Stand p l e R s m args below meth c T locs cells slots) (hx : p.tables.exec = Jvm.exec) (hby : c.code = code) {x y v : Int32} (hd : decode code pc = .ok (.iadd, 1)) (hst : st = .int y :: .int x :: st') (hv : x + y = v) (hp : pc + 1 = pc') (g : Gf p e below P T m pc' Ls (.int v :: st')) : Gf p e below P T m pc Ls st := by
  subst hp hst
  exact Go.step (fun t k => XS.iadd X.here hx rfl (hb hby hd) rfl (by subst hv; exact k)) g
theorem g_isub (X : Stand p l e R s m args below meth c T locs cells slots) (hx : p.tables.exec = Jvm.exec) (hby : c.code = code) {x y v : Int32} (hd : decode code pc = .ok (.isub, 1)) (hst : st = .int y :: .int x :: st') (hv : x - y = v) (hp : pc + 1 = pc') (g : Gf p e below P T m pc' Ls (.int v :: st')) : Gf p e below P T m pc Ls st := by
  subst hp hst
  exact Go.step (fun t k => XS.isub X.here hx rfl (hb hby hd) rfl (by subst hv; exact k)) g
theorem g_imul (X : Stand p l e R s m args below meth c T locs cells slots) (hx : p.tables.exec = Jvm.exec) (hby : c.code = code) {x y v : Int32} (hd : decode code pc = .ok (.imul, 1)) (hst : st = .int y :: .int x :: st') (hv : x * y = v) (hp : pc + 1 = pc') (g : Gf p e below P T m pc' Ls (.int v :: st')) : Gf p e below P T m pc Ls st := by
  subst hp hst
  exact Go.step (fun t k => XS.imul X.here hx rfl (hb hby hd) rfl (by subst hv; exact k)) g
theorem g_iand (X : Stand p l e R s m args below meth c T locs cells slots) (hx : p.tables.exec = Jvm.exec) (hby : c.code = code) {x y v : Int32} (hd : decode code pc = .ok (.iand, 1)) (hst : st = .int y :: .int x :: st') (hv : x &&& y = v) (hp : pc + 1 = pc') (g : Gf p e below P T m pc' Ls (.int v :: st')) : Gf p e below P T m pc Ls st := by
  subst hp hst
  exact Go.step (fun t k => XS.iand X.here hx rfl (hb hby hd) rfl (by subst hv; exact k)) g
theorem g_ior (X : Stand p l e R s m args below meth c T locs cells slots) (hx : p.tables.exec = Jvm.exec) (hby : c.code = code) {x y v : Int32} (hd : decode code pc = .ok (.ior, 1)) (hst : st = .int y :: .int x :: st') (hv : x ||| y = v) (hp : pc + 1 = pc') (g : Gf p e below P T m pc' Ls (.int v :: st')) : Gf p e below P T m pc Ls st := by
  subst hp hst
  exact Go.step (fun t k => XS.ior X.here hx rfl (hb hby hd) rfl (by subst hv; exact k)) g
theorem g_ixor (X : Stand p l e R s m args below meth c T locs cells slots) (hx : p.tables.exec = Jvm.exec) (hby : c.code = code) {x y v : Int32} (hd : decode code pc = .ok (.ixor, 1)) (hst : st = .int y :: .int x :: st') (hv : x ^^^ y = v) (hp : pc + 1 = pc') (g : Gf p e below P T m pc' Ls (.int v :: st')) : Gf p e below P T m pc Ls st := by
  subst hp hst
  exact Go.step (fun t k => XS.ixor X.here hx rfl (hb hby hd) rfl (by subst hv; exact k)) g
theorem g_ishl (X : Stand p l e R s m args below meth c T locs cells slots) (hx : p.tables.exec = Jvm.exec) (hby : c.code = code) {x y v : Int32} (hd : decode code pc = .ok (.ishl, 1)) (hst : st = .int y :: .int x :: st') (hv : x <<< (y &&& 31) = v) (hp : pc + 1 = pc') (g : Gf p e below P T m pc' Ls (.int v :: st')) : Gf p e below P T m pc Ls st := by
  subst hp hst
  exact Go.step (fun t k => XS.ishl X.here hx rfl (hb hby hd) rfl (by subst hv; exact k)) g
theorem g_ishr (X : Stand p l e R s m args below meth c T locs cells slots) (hx : p.tables.exec = Jvm.exec) (hby : c.code = code) {x y v : Int32} (hd : decode code pc = .ok (.ishr, 1)) (hst : st = .int y :: .int x :: st') (hv : x >>> (y &&& 31) = v) (hp : pc + 1 = pc') (g : Gf p e below P T m pc' Ls (.int v :: st')) : Gf p e below P T m pc Ls st := by
  subst hp hst
  exact Go.step (fun t k => XS.ishr X.here hx rfl (hb hby hd) rfl (by subst hv; exact k)) g
theorem g_iushr (X : Stand p l e R s m args below meth c T locs cells slots) (hx : p.tables.exec = Jvm.exec) (hby : c.code = code) {x y v : Int32} (hd : decode code pc = .ok (.iushr, 1)) (hst : st = .int y :: .int x :: st') (hv : (x.toUInt32 >>> (y &&& 31).toUInt32).toInt32 = v) (hp : pc + 1 = pc') (g : Gf p e below P T m pc' Ls (.int v :: st')) : Gf p e below P T m pc Ls st := by
  subst hp hst
  exact Go.step (fun t k => XS.iushr X.here hx rfl (hb hby hd) rfl (by subst hv; exact k)) g
theorem g_ladd (X : Stand p l e R s m args below meth c T locs cells slots) (hx : p.tables.exec = Jvm.exec) (hby : c.code = code) {x y v : Int64} (hd : decode code pc = .ok (.ladd, 1)) (hst : st = .long y :: .long x :: st') (hv : x + y = v) (hp : pc + 1 = pc') (g : Gf p e below P T m pc' Ls (.long v :: st')) : Gf p e below P T m pc Ls st := by
  subst hp hst
  exact Go.step (fun t k => XS.ladd X.here hx rfl (hb hby hd) rfl (by subst hv; exact k)) g
theorem g_lsub (X : Stand p l e R s m args below meth c T locs cells slots) (hx : p.tables.exec = Jvm.exec) (hby : c.code = code) {x y v : Int64} (hd : decode code pc = .ok (.lsub, 1)) (hst : st = .long y :: .long x :: st') (hv : x - y = v) (hp : pc + 1 = pc') (g : Gf p e below P T m pc' Ls (.long v :: st')) : Gf p e below P T m pc Ls st := by
  subst hp hst
  exact Go.step (fun t k => XS.lsub X.here hx rfl (hb hby hd) rfl (by subst hv; exact k)) g
theorem g_lmul (X : Stand p l e R s m args below meth c T locs cells slots) (hx : p.tables.exec = Jvm.exec) (hby : c.code = code) {x y v : Int64} (hd : decode code pc = .ok (.lmul, 1)) (hst : st = .long y :: .long x :: st') (hv : x * y = v) (hp : pc + 1 = pc') (g : Gf p e below P T m pc' Ls (.long v :: st')) : Gf p e below P T m pc Ls st := by
  subst hp hst
  exact Go.step (fun t k => XS.lmul X.here hx rfl (hb hby hd) rfl (by subst hv; exact k)) g
theorem g_land (X : Stand p l e R s m args below meth c T locs cells slots) (hx : p.tables.exec = Jvm.exec) (hby : c.code = code) {x y v : Int64} (hd : decode code pc = .ok (.land, 1)) (hst : st = .long y :: .long x :: st') (hv : x &&& y = v) (hp : pc + 1 = pc') (g : Gf p e below P T m pc' Ls (.long v :: st')) : Gf p e below P T m pc Ls st := by
  subst hp hst
  exact Go.step (fun t k => XS.land X.here hx rfl (hb hby hd) rfl (by subst hv; exact k)) g
theorem g_lor (X : Stand p l e R s m args below meth c T locs cells slots) (hx : p.tables.exec = Jvm.exec) (hby : c.code = code) {x y v : Int64} (hd : decode code pc = .ok (.lor, 1)) (hst : st = .long y :: .long x :: st') (hv : x ||| y = v) (hp : pc + 1 = pc') (g : Gf p e below P T m pc' Ls (.long v :: st')) : Gf p e below P T m pc Ls st := by
  subst hp hst
  exact Go.step (fun t k => XS.lor X.here hx rfl (hb hby hd) rfl (by subst hv; exact k)) g
theorem g_lxor (X : Stand p l e R s m args below meth c T locs cells slots) (hx : p.tables.exec = Jvm.exec) (hby : c.code = code) {x y v : Int64} (hd : decode code pc = .ok (.lxor, 1)) (hst : st = .long y :: .long x :: st') (hv : x ^^^ y = v) (hp : pc + 1 = pc') (g : Gf p e below P T m pc' Ls (.long v :: st')) : Gf p e below P T m pc Ls st := by
  subst hp hst
  exact Go.step (fun t k => XS.lxor X.here hx rfl (hb hby hd) rfl (by subst hv; exact k)) g
theorem g_lshl (X : Stand p l e R s m args below meth c T locs cells slots) (hx : p.tables.exec = Jvm.exec) (hby : c.code = code) {x v : Int64} {y : Int32} (hd : decode code pc = .ok (.lshl, 1)) (hst : st = .int y :: .long x :: st') (hv : x <<< (y &&& 0x3f).toInt64 = v) (hp : pc + 1 = pc') (g : Gf p e below P T m pc' Ls (.long v :: st')) : Gf p e below P T m pc Ls st := by
  subst hp hst
  exact Go.step (fun t k => XS.lshl X.here hx rfl (hb hby hd) rfl (by subst hv; exact k)) g
theorem g_lshr (X : Stand p l e R s m args below meth c T locs cells slots) (hx : p.tables.exec = Jvm.exec) (hby : c.code = code) {x v : Int64} {y : Int32} (hd : decode code pc = .ok (.lshr, 1)) (hst : st = .int y :: .long x :: st') (hv : x >>> (y &&& 0x3f).toInt64 = v) (hp : pc + 1 = pc') (g : Gf p e below P T m pc' Ls (.long v :: st')) : Gf p e below P T m pc Ls st := by
  subst hp hst
  exact Go.step (fun t k => XS.lshr X.here hx rfl (hb hby hd) rfl (by subst hv; exact k)) g
theorem g_lushr (X : Stand p l e R s m args below meth c T locs cells slots) (hx : p.tables.exec = Jvm.exec) (hby : c.code = code) {x v : Int64} {y : Int32} (hd : decode code pc = .ok (.lushr, 1)) (hst : st = .int y :: .long x :: st') (hv : (x.toUInt64 >>> (y &&& 0x3f).toInt64.toUInt64).toInt64 = v) (hp : pc + 1 = pc') (g : Gf p e below P T m pc' Ls (.long v :: st')) : Gf p e below P T m pc Ls st := by
  subst hp hst
  exact Go.step (fun t k => XS.lushr X.here hx rfl (hb hby hd) rfl (by subst hv; exact k)) g
theorem g_irem (X : Stand p l e R s m args below meth c T locs cells slots) (hx : p.tables.exec = Jvm.exec) (hby : c.code = code) {x y v : Int32} (hd : decode code pc = .ok (.irem, 1)) (hst : st = .int y :: .int x :: st') (hy : y ≠ 0) (hv : x % y = v) (hp : pc + 1 = pc') (g : Gf p e below P T m pc' Ls (.int v :: st')) : Gf p e below P T m pc Ls st := by
  subst hp hst
  exact Go.step (fun t k => iremM X hx (g := mkF m pc Ls _) rfl (hb hby hd) rfl hy (by subst hv; exact k)) g
theorem g_idiv (X : Stand p l e R s m args below meth c T locs cells slots) (hx : p.tables.exec = Jvm.exec) (hby : c.code = code) {x y v : Int32} (hd : decode code pc = .ok (.idiv, 1)) (hst : st = .int y :: .int x :: st') (hy : y ≠ 0) (hv : x / y = v) (hp : pc + 1 = pc') (g : Gf p e below P T m pc' Ls (.int v :: st')) : Gf p e below P T m pc Ls st := by
  subst hp hst
  exact Go.step (fun t k => XS.idiv X.here hx rfl (hb hby hd) rfl hy (by subst hv; exact k)) g
theorem g_ineg (X : Stand p l e R s m args below meth c T locs cells slots) (hx : p.tables.exec = Jvm.exec) (hby : c.code = code) {x : Int32} {v : Int32} (hd : decode code pc = .ok (.ineg, 1)) (hst : st = .int x :: st') (hv : -x = v) (hp : pc + 1 = pc') (g : Gf p e below P T m pc' Ls (.int v :: st')) : Gf p e below P T m pc Ls st := by
  subst hp hst
  exact Go.step (fun t k => XS.ineg X.here hx rfl (hb hby hd) rfl (by subst hv; exact k)) g
theorem g_lneg (X : Stand p l e R s m args below meth c T locs cells slots) (hx : p.tables.exec = Jvm.exec) (hby : c.code = code) {x : Int64} {v : Int64} (hd : decode code pc = .ok (.lneg, 1)) (hst : st = .long x :: st') (hv : -x = v) (hp : pc + 1 = pc') (g : Gf p e below P T m pc' Ls (.long v :: st')) : Gf p e below P T m pc Ls st := by
  subst hp hst
  exact Go.step (fun t k => XS.lneg X.here hx rfl (hb hby hd) rfl (by subst hv; exact k)) g
theorem g_i2l (X : Stand p l e R s m args below meth c T locs cells slots) (hx : p.tables.exec = Jvm.exec) (hby : c.code = code) {x : Int32} {v : Int64} (hd : decode code pc = .ok (.i2l, 1)) (hst : st = .int x :: st') (hv : x.toInt64 = v) (hp : pc + 1 = pc') (g : Gf p e below P T m pc' Ls (.long v :: st')) : Gf p e below P T m pc Ls st := by
  subst hp hst
  exact Go.step (fun t k => XS.i2l X.here hx rfl (hb hby hd) rfl (by subst hv; exact k)) g
theorem g_l2i (X : Stand p l e R s m args below meth c T locs cells slots) (hx : p.tables.exec = Jvm.exec) (hby : c.code = code) {x : Int64} {v : Int32} (hd : decode code pc = .ok (.l2i, 1)) (hst : st = .long x :: st') (hv : x.toInt32 = v) (hp : pc + 1 = pc') (g : Gf p e below P T m pc' Ls (.int v :: st')) : Gf p e below P T m pc Ls st := by
  subst hp hst
  exact Go.step (fun t k => XS.l2i X.here hx rfl (hb hby hd) rfl (by subst hv; exact k)) g
theorem g_i2b (X : Stand p l e R s m args below meth c T locs cells slots) (hx : p.tables.exec = Jvm.exec) (hby : c.code = code) {x : Int32} {v : Int32} (hd : decode code pc = .ok (.i2b, 1)) (hst : st = .int x :: st') (hv : x.toInt8.toInt32 = v) (hp : pc + 1 = pc') (g : Gf p e below P T m pc' Ls (.int v :: st')) : Gf p e below P T m pc Ls st := by
  subst hp hst
  exact Go.step (fun t k => XS.i2b X.here hx rfl (hb hby hd) rfl (by subst hv; exact k)) g
theorem g_i2s (X : Stand p l e R s m args below meth c T locs cells slots) (hx : p.tables.exec = Jvm.exec) (hby : c.code = code) {x : Int32} {v : Int32} (hd : decode code pc = .ok (.i2s, 1)) (hst : st = .int x :: st') (hv : x.toInt16.toInt32 = v) (hp : pc + 1 = pc') (g : Gf p e below P T m pc' Ls (.int v :: st')) : Gf p e below P T m pc Ls st := by
  subst hp hst
  exact Go.step (fun t k => XS.i2s X.here hx rfl (hb hby hd) rfl (by subst hv; exact k)) g
theorem g_i2c (X : Stand p l e R s m args below meth c T locs cells slots) (hx : p.tables.exec = Jvm.exec) (hby : c.code = code) {x : Int32} {v : Int32} (hd : decode code pc = .ok (.i2c, 1)) (hst : st = .int x :: st') (hv : x.toUInt32.toUInt16.toUInt32.toInt32 = v) (hp : pc + 1 = pc') (g : Gf p e below P T m pc' Ls (.int v :: st')) : Gf p e below P T m pc Ls st := by
  subst hp hst
  exact Go.step (fun t k => XS.i2c X.here hx rfl (hb hby hd) rfl (by subst hv; exact k)) g
theorem g_lcmp (X : Stand p l e R s m args below meth c T locs cells slots) (hx : p.tables.exec = Jvm.exec) (hby : c.code = code) {x y : Int64} {v : Int32} (hd : decode code pc = .ok (.lcmp, 1)) (hst : st = .long y :: .long x :: st') (hv : lcmpW x y = v) (hp : pc + 1 = pc') (g : Gf p e below P T m pc' Ls (.int v :: st')) : Gf p e below P T m pc Ls st := by
  subst hp hst
  exact Go.step (fun t k => XS.lcmp X.here hx rfl (hb hby hd) rfl (by subst hv; exact k)) g
theorem g_i2d (X : Stand p l e R s m args below meth c T locs cells slots) (hx : p.tables.exec = Jvm.exec) (hby : c.code = code) {x : Int32} {v : UInt64} (hd : decode code pc = .ok (.i2d, 1)) (hst : st = .int x :: st') (hv : FP.i2d x = v) (hp : pc + 1 = pc') (g : Gf p e below P T m pc' Ls (.double v :: st')) : Gf p e below P T m pc Ls st := by
  subst hp hst
  exact Go.step (fun t k => XS.i2dS X.here hx rfl (hb hby hd) rfl hv k) g
theorem g_l2d (X : Stand p l e R s m args below meth c T locs cells slots) (hx : p.tables.exec = Jvm.exec) (hby : c.code = code) {x : Int64} {v : UInt64} (hd : decode code pc = .ok (.l2d, 1)) (hst : st = .long x :: st') (hv : FP.l2d x = v) (hp : pc + 1 = pc') (g : Gf p e below P T m pc' Ls (.double v :: st')) : Gf p e below P T m pc Ls st := by
  subst hp hst
  exact Go.step (fun t k => XS.l2dS X.here hx rfl (hb hby hd) rfl hv k) g
theorem g_d2i (X : Stand p l e R s m args below meth c T locs cells slots) (hx : p.tables.exec = Jvm.exec) (hby : c.code = code) {x : UInt64} {v : Int32} (hd : decode code pc = .ok (.d2i, 1)) (hst : st = .double x :: st') (hv : FP.d2i x = v) (hp : pc + 1 = pc') (g : Gf p e below P T m pc' Ls (.int v :: st')) : Gf p e below P T m pc Ls st := by
  subst hp hst
  exact Go.step (fun t k => XS.d2iS X.here hx rfl (hb hby hd) rfl hv k) g
theorem g_d2l (X : Stand p l e R s m args below meth c T locs cells slots) (hx : p.tables.exec = Jvm.exec) (hby : c.code = code) {x : UInt64} {v : Int64} (hd : decode code pc = .ok (.d2l, 1)) (hst : st = .double x :: st') (hv : FP.d2l x = v) (hp : pc + 1 = pc') (g : Gf p e below P T m pc' Ls (.long v :: st')) : Gf p e below P T m pc Ls st := by
  subst hp hst
  exact Go.step (fun t k => XS.d2lS X.here hx rfl (hb hby hd) rfl hv k) g
theorem g_dneg (X : Stand p l e R s m args below meth c T locs cells slots) (hx : p.tables.exec = Jvm.exec) (hby : c.code = code) {x : UInt64} {v : UInt64} (hd : decode code pc = .ok (.dneg, 1)) (hst : st = .double x :: st') (hv : FP.dneg x = v) (hp : pc + 1 = pc') (g : Gf p e below P T m pc' Ls (.double v :: st')) : Gf p e below P T m pc Ls st := by
  subst hp hst
  exact Go.step (fun t k => XS.dnegS X.here hx rfl (hb hby hd) rfl hv k) g
theorem g_dadd (X : Stand p l e R s m args below meth c T locs cells slots) (hx : p.tables.exec = Jvm.exec) (hby : c.code = code) {x y v : UInt64} (hd : decode code pc = .ok (.dadd, 1)) (hst : st = .double y :: .double x :: st') (hn : Jvm.Free.Fl.NoNaN64 (FP.dadd x y)) (hv : FP.dadd x y = v) (hp : pc + 1 = pc') (g : Gf p e below P T m pc' Ls (.double v :: st')) : Gf p e below P T m pc Ls st := by
  subst hp hst
  exact Go.step (fun t k => XS.daddS X.here hx rfl (hb hby hd) rfl hn hv k) g
theorem g_dsub (X : Stand p l e R s m args below meth c T locs cells slots) (hx : p.tables.exec = Jvm.exec) (hby : c.code = code) {x y v : UInt64} (hd : decode code pc = .ok (.dsub, 1)) (hst : st = .double y :: .double x :: st') (hn : Jvm.Free.Fl.NoNaN64 (FP.dsub x y)) (hv : FP.dsub x y = v) (hp : pc + 1 = pc') (g : Gf p e below P T m pc' Ls (.double v :: st')) : Gf p e below P T m pc Ls st := by
  subst hp hst
  exact Go.step (fun t k => XS.dsubS X.here hx rfl (hb hby hd) rfl hn hv k) g
theorem g_dmul (X : Stand p l e R s m args below meth c T locs cells slots) (hx : p.tables.exec = Jvm.exec) (hby : c.code = code) {x y v : UInt64} (hd : decode code pc = .ok (.dmul, 1)) (hst : st = .double y :: .double x :: st') (hn : Jvm.Free.Fl.NoNaN64 (FP.dmul x y)) (hv : FP.dmul x y = v) (hp : pc + 1 = pc') (g : Gf p e below P T m pc' Ls (.double v :: st')) : Gf p e below P T m pc Ls st := by
  subst hp hst
  exact Go.step (fun t k => XS.dmulS X.here hx rfl (hb hby hd) rfl hn hv k) g
theorem g_ddiv (X : Stand p l e R s m args below meth c T locs cells slots) (hx : p.tables.exec = Jvm.exec) (hby : c.code = code) {x y v : UInt64} (hd : decode code pc = .ok (.ddiv, 1)) (hst : st = .double y :: .double x :: st') (hn : Jvm.Free.Fl.NoNaN64 (FP.ddiv x y)) (hv : FP.ddiv x y = v) (hp : pc + 1 = pc') (g : Gf p e below P T m pc' Ls (.double v :: st')) : Gf p e below P T m pc Ls st := by
  subst hp hst
  exact Go.step (fun t k => XS.ddivS X.here hx rfl (hb hby hd) rfl hn hv k) g
theorem g_dcmp (X : Stand p l e R s m args below meth c T locs cells slots) (hx : p.tables.exec = Jvm.exec) (hby : c.code = code) {o : CmpOp} {x y : UInt64} {v : Int32} (hd : decode code pc = .ok (.dcmp o, 1)) (hst : st = .double y :: .double x :: st') (hv : cmpValue (FP.dcmp x y) o = v) (hp : pc + 1 = pc') (g : Gf p e below P T m pc' Ls (.int v :: st')) : Gf p e below P T m pc Ls st := by
  subst hp hst
  exact Go.step (fun t k => XS.dcmpS X.here hx rfl (hb hby hd) rfl hv k) g
theorem g_dup (X : Stand p l e R s m args below meth c T locs cells slots) (hx : p.tables.exec = Jvm.exec) (hby : c.code = code) {x : Value} (hd : decode code pc = .ok (.dup, 1)) (hst : st = x :: st') (hc : x.category = 1) (hp : pc + 1 = pc') (g : Gf p e below P T m pc' Ls (x :: x :: st')) : Gf p e below P T m pc Ls st := by
  subst hp hst
  exact Go.step (fun t k => XS.dup X.here hx rfl (hb hby hd) rfl hc k) g
theorem g_pop (X : Stand p l e R s m args below meth c T locs cells slots) (hx : p.tables.exec = Jvm.exec) (hby : c.code = code) {x : Value} (hd : decode code pc = .ok (.pop, 1)) (hst : st = x :: st') (hc : x.category = 1) (hp : pc + 1 = pc') (g : Gf p e below P T m pc' Ls st') : Gf p e below P T m pc Ls st := by
  subst hp hst
  exact Go.step (fun t k => XS.pop X.here hx rfl (hb hby hd) rfl hc k) g
theorem g_iinc (X : Stand p l e R s m args below meth c T locs cells slots) (hx : p.tables.exec = Jvm.exec) (hby : c.code = code) {n : Nat} {i : Int} {x : Int32} (hd : decode code pc = .ok (.iinc n i, 3)) (hl : Ls[n]? = some (.val (.int x))) (hl' : storeLocals Ls n (.int (x + Int32.ofInt i)) = some Ls') (hp : pc + 3 = pc') (g : Gf p e below P T m pc' Ls' st) : Gf p e below P T m pc Ls st := by
  subst hp
  exact Go.step (fun t k => XS.iinc X.here hx rfl (hb hby hd) hl hl' k) g
theorem g_goto (X : Stand p l e R s m args below meth c T locs cells slots) (hx : p.tables.exec = Jvm.exec) (hby : c.code = code) {o : Int} (hd : decode code pc = .ok (.goto o, 3)) (ho : 0 ≤ (pc : Int) + o) (hp : ((pc : Int) + o).toNat = pc') (g : Gf p e below P T m pc' Ls st) : Gf p e below P T m pc Ls st := Go.step (fun t k => XS.goto X.here hx rfl (pc0 := pc) (pc' := pc') rfl (hb hby hd) ho hp k) g
theorem g_ifY (X : Stand p l e R s m args below meth c T locs cells slots) (hx : p.tables.exec = Jvm.exec) (hby : c.code = code) {cd : ClassFile.Cond} {o : Int} {x : Int32} (hd : decode code pc = .ok (.ifCond cd o, 3)) (hst : st = .int x :: st') (hc : if_icmp.holds cd x 0 = true) (ho : 0 ≤ (pc : Int) + o) (hp : ((pc : Int) + o).toNat = pc') (g : Gf p e below P T m pc' Ls st') : Gf p e below P T m pc Ls st := by
  subst hst
  exact Go.step (fun t k => XS.ifYes X.here hx rfl (pc0 := pc) (pc' := pc') rfl (hb hby hd) rfl ((if0 _ _).trans hc) ho hp k) g
theorem g_ifN (X : Stand p l e R s m args below meth c T locs cells slots) (hx : p.tables.exec = Jvm.exec) (hby : c.code = code) {cd : ClassFile.Cond} {o : Int} {x : Int32} (hd : decode code pc = .ok (.ifCond cd o, 3)) (hst : st = .int x :: st') (hc : if_icmp.holds cd x 0 = false) (hp : pc + 3 = pc') (g : Gf p e below P T m pc' Ls st') : Gf p e below P T m pc Ls st := by
  subst hst hp
  exact Go.step (fun t k => XS.ifNo X.here hx rfl (hb hby hd) rfl ((if0 _ _).trans hc) k) g
theorem g_icY (X : Stand p l e R s m args below meth c T locs cells slots) (hx : p.tables.exec = Jvm.exec) (hby : c.code = code) {cd : ClassFile.Cond} {o : Int} {x y : Int32} (hd : decode code pc = .ok (.if_icmp cd o, 3)) (hst : st = .int y :: .int x :: st') (hc : if_icmp.holds cd x y = true) (ho : 0 ≤ (pc : Int) + o) (hp : ((pc : Int) + o).toNat = pc') (g : Gf p e below P T m pc' Ls st') : Gf p e below P T m pc Ls st := by
  subst hst
  exact Go.step (fun t k => XS.icmpYes X.here hx rfl (pc0 := pc) (pc' := pc') rfl (hb hby hd) rfl hc ho hp k) g
theorem g_icN (X : Stand p l e R s m args below meth c T locs cells slots) (hx : p.tables.exec = Jvm.exec) (hby : c.code = code) {cd : ClassFile.Cond} {o : Int} {x y : Int32} (hd : decode code pc = .ok (.if_icmp cd o, 3)) (hst : st = .int y :: .int x :: st') (hc : if_icmp.holds cd x y = false) (hp : pc + 3 = pc') (g : Gf p e below P T m pc' Ls st') : Gf p e below P T m pc Ls st := by
  subst hst hp
  exact Go.step (fun t k => XS.icmpNo X.here hx rfl (hb hby hd) rfl hc k) g
theorem g_nullY (X : Stand p l e R s m args below meth c T locs cells slots) (hx : p.tables.exec = Jvm.exec) (hby : c.code = code) {o : Int} (hd : decode code pc = .ok (.ifnull o, 3)) (hst : st = .null :: st') (ho : 0 ≤ (pc : Int) + o) (hp : ((pc : Int) + o).toNat = pc') (g : Gf p e below P T m pc' Ls st') : Gf p e below P T m pc Ls st := by
  subst hst
  exact Go.step (fun t k => XS.ifnullYes X.here hx rfl (pc0 := pc) (pc' := pc') rfl (hb hby hd) rfl ho hp k) g
theorem g_nullN (X : Stand p l e R s m args below meth c T locs cells slots) (hx : p.tables.exec = Jvm.exec) (hby : c.code = code) {o : Int} {b : Addr} (hd : decode code pc = .ok (.ifnull o, 3)) (hst : st = .ref b :: st') (hp : pc + 3 = pc') (g : Gf p e below P T m pc' Ls st') : Gf p e below P T m pc Ls st := by
  subst hst hp
  exact Go.step (fun t k => XS.ifnullNo X.here hx rfl (hb hby hd) rfl k) g
theorem g_nnY (X : Stand p l e R s m args below meth c T locs cells slots) (hx : p.tables.exec = Jvm.exec) (hby : c.code = code) {o : Int} {b : Addr} (hd : decode code pc = .ok (.ifnonnull o, 3)) (hst : st = .ref b :: st') (ho : 0 ≤ (pc : Int) + o) (hp : ((pc : Int) + o).toNat = pc') (g : Gf p e below P T m pc' Ls st') : Gf p e below P T m pc Ls st := by
  subst hst
  exact Go.step (fun t k => XS.ifnonnullYes X.here hx rfl (pc0 := pc) (pc' := pc') rfl (hb hby hd) rfl ho hp k) g
theorem g_nnN (X : Stand p l e R s m args below meth c T locs cells slots) (hx : p.tables.exec = Jvm.exec) (hby : c.code = code) {o : Int} (hd : decode code pc = .ok (.ifnonnull o, 3)) (hst : st = .null :: st') (hp : pc + 3 = pc') (g : Gf p e below P T m pc' Ls st') : Gf p e below P T m pc Ls st := by
  subst hst hp
  exact Go.step (fun t k => XS.ifnonnullNo X.here hx rfl (hb hby hd) rfl k) g
theorem g_acmp (X : Stand p l e R s m args below meth c T locs cells slots) (hx : p.tables.exec = Jvm.exec) (hby : c.code = code) {cd : ACond} {o : Int} {x y : Value} {same : Bool} (hd : decode code pc = .ok (.if_acmp cd o, 3)) (hst : st = y :: x :: st') (h1 : x.isRef = true) (h2 : y.isRef = true) (hq : decide (x = y) = same) (ho : 0 ≤ (pc : Int) + o) (hp : pc' = if acV cd same = true then ((pc : Int) + o).toNat else pc + 3) (g : Gf p e below P T m pc' Ls st') : Gf p e below P T m pc Ls st := by
  subst hst
  exact Go.step (fun t k => Jvm.RoadKit.acmp (g := mkF m pc Ls _) X hx rfl h1 h2 (pc0 := pc) (pc' := pc') rfl (hb hby hd) rfl hq ho hp k) g
/-! the returns -/
variable {Q : Option Value → Heap → List Loc → Prop} {rm : Room} {h : Heap}
def FinR (l : Launch) (s : State) (rm : Room) (Q : Option Value → Heap → List Loc → Prop) (P : Outcome → State → Prop) : Prop := ∀ o U, (∃ v L, o = .returned v ∧ Q v U.heap L ∧ FrameEnd s o U L rm.cells rm.slots) → P o U
theorem g_retV (X : Stand p l e R s m args below meth c T locs cells slots) (hx : p.tables.exec = Jvm.exec) (hby : c.code = code) (hf : FinR l s rm Q P) (hlk : meth.locks = false) {t : FieldType} {i : Instr} {w : Value} (hret : meth.sig.returnType = some t) (hd : decode code pc = .ok (i, 1)) (hst : st = w :: st') (hn : narrow t w = w)
    (hi : (i = .ireturn ∧ (t = .int ∨ t = .boolean ∨ t = .byte ∨ t = .char ∨ t = .short) ∧ ∃ z, w = .int z) ∨ (i = .lreturn ∧ t = .long ∧ ∃ z, w = .long z) ∨ (i = .dreturn ∧ t = .double ∧ ∃ z, w = .double z) ∨ (i = .freturn ∧ t = .float ∧ ∃ z, w = .float z) ∨ (i = .areturn ∧ t.isReference = true ∧ w.isRef = true))
    (hc : cells ≤ rm.cells) (hs : slots ≤ rm.slots) (eT : T.heap = h) (q : Q (some w) h locs) : Gf p e below P T m pc Ls st := by
  subst hst
  obtain ⟨fs, hr, hrun, hended, hW, hsame⟩ := X.leave (v := some w) (fun q => by rw [hret] at q; cases q) hlk
  exact ⟨_, _, retOut X hx hret hn hi (hb hby hd) hr, hrun, hended, hf _ _ ⟨_, _, rfl, by show Q (some w) T.heap locs; rw [eT]; exact q, ⟨_, rfl⟩, hW, hsame.mono hc hs⟩⟩
theorem g_retZ (X : Stand p l e R s m args below meth c T locs cells slots) (hx : p.tables.exec = Jvm.exec) (hby : c.code = code) (hf : FinR l s rm Q P) (hlk : meth.locks = false) {t : FieldType} {z w : Int32} (hret : meth.sig.returnType = some t) (hd : decode code pc = .ok (.ireturn, 1)) (hst : st = .int z :: st') (ht : t = .boolean ∨ t = .byte ∨ t = .char ∨ t = .short)
    (hw : nar t z = w) (hc : cells ≤ rm.cells) (hs : slots ≤ rm.slots) (eT : T.heap = h) (q : Q (some (.int w)) h locs) : Gf p e below P T m pc Ls st := by
  subst hst hw
  obtain ⟨fs, hr, hrun, hended, hW, hsame⟩ := X.leave (v := some (.int (nar t z))) (fun q => by rw [hret] at q; cases q) hlk
  exact ⟨_, _, retN X hx hret ht (hb hby hd) hr, hrun, hended, hf _ _ ⟨_, _, rfl, by show Q (some (.int (nar t z))) T.heap locs; rw [eT]; exact q, ⟨_, rfl⟩, hW, hsame.mono hc hs⟩⟩
theorem g_ret (X : Stand p l e R s m args below meth c T locs cells slots) (hx : p.tables.exec = Jvm.exec) (hby : c.code = code) (hf : FinR l s rm Q P) (hlk : meth.locks = false) (hret : meth.sig.returnType = none) (hd : decode code pc = .ok (.return_, 1)) (hst : st = [])
    (hc : cells ≤ rm.cells) (hs : slots ≤ rm.slots) (eT : T.heap = h) (q : Q none h locs) : Gf p e below P T m pc Ls st := by
  subst hst
  obtain ⟨fs, hr, hrun, hended, hW, hsame⟩ := X.leave (v := none) (fun _ => rfl) hlk
  exact ⟨_, _, X.returnOut hx hret (hb hby hd) hr, hrun, hended, hf _ _ ⟨_, _, rfl, by show Q none T.heap locs; rw [eT]; exact q, ⟨_, rfl⟩, hW, hsame.mono hc hs⟩⟩
/-! the heap -/
variable {Z : State} {a0 : Array Value} {own : String} {a : Addr}
theorem g_new (X : Stand p l e R s m args below meth c T locs cells slots) (hx : p.tables.exec = Jvm.exec) (hby : c.code = code) (hZ : Z.Warmed39 s.vm) (hown : s.vm.findClass own = some m.cls) {C : String} {i n : Nat} (w : (Cond.classLink own i C).before a0 Z = true) (wi : (Cond.instantiable C n).before a0 Z = true) (wz : (Cond.initialized C).before a0 Z = true) (eT : T.heap = h)
    (hd : decode code pc = .ok (.new i, 3)) (hp : pc + 3 = pc') (hc : cells + 1 ≤ R.cells) (hl : slots + n ≤ R.slots)
    (g : ∀ (T' : State) (h' : Heap) (a : Addr), Stand p l e R s m args below meth c T' locs (cells + 1) (slots + n) → T'.heap = h' → Ext h h' → Exa Z h' a C → (∀ {O nm d : String} {ty : FieldType}, Laid Z a0 C O nm d → parseFieldDescriptor d = some ty → Fld Z h' a O nm d (defaultValue ty)) → a = h.size → Gf p e below P T' m pc' Ls (.ref a :: st)) : Gf p e below P T m pc Ls st := by
  subst hp
  obtain ⟨T', h', X', e', E', A', D', -, st'⟩ := newO X hx hZ hown w wi wz eT (g := mkF m pc Ls st) rfl (hb hby hd) hc hl
  exact Go.step st' (g T' h' h.size X' e' E' A' D' rfl)
theorem g_initO (X : Stand p l e R s m args below meth c T locs cells slots) (hx : p.tables.exec = Jvm.exec) (hby : c.code = code) (hZ : Z.Warmed39 s.vm) (hown : s.vm.findClass own = some m.cls) {i : Nat} (w1 : (Cond.methodLink own i Lib.objectInit).before a0 Z = true) (w2 : (Cond.instanceMethod Lib.objectInit).before a0 Z = true) (w3 : (Cond.code Lib.objectInit ⟨#[0xb1]⟩ 1 none).before a0 Z = true) (eT : T.heap = h)
    (hsize : Ls.size = c.maxLocals) (hst : st = .ref a :: st') (hd : decode code pc = .ok (.invokespecial i, 3)) (hp : pc + 3 = pc') (hf : 1 ≤ R.frames) {W : Nat} (hW : 2 * 0 + (st'.map fun v => v.category).sum = W) (hl : W + 12 ≤ R.locals)
    (g : ∀ (T' : State), Stand p l e R s m args below meth c T' locs cells slots → T'.heap = h → Gf p e below P T' m pc' Ls st') : Gf p e below P T m pc Ls st := by
  subst hp hst
  obtain ⟨T', X', e', k⟩ := initO X hx hZ hown w1 w2 w3 eT (g := mkF m pc Ls _) rfl hsize rfl (hb hby hd) hf (W := W) (Nat.le_of_eq hW) hl
  exact Go.step k (g T' X' e')
theorem g_getF (X : Stand p l e R s m args below meth c T locs cells slots) (hx : p.tables.exec = Jvm.exec) (hby : c.code = code) (hZ : Z.Warmed39 s.vm) (hown : s.vm.findClass own = some m.cls) {R0 O n d host : String} {i : Nat} {v : Value} (w : (Cond.fieldLink own i R0 n d).before a0 Z = true ∨ (Cond.fieldLinkNest own i R0 n d host).before a0 Z = true) (via : Via Z R0 O n d) (eT : T.heap = h) (F : Fld Z h a O n d v)
    (hst : st = .ref a :: st') (hd : decode code pc = .ok (.getfield i, 3)) (hp : pc + 3 = pc') (g : ∀ (T' : State), Stand p l e R s m args below meth c T' locs cells slots → T'.heap = h → Gf p e below P T' m pc' Ls (v :: st')) : Gf p e below P T m pc Ls st := by
  subst hp hst
  obtain ⟨T', X', e', k⟩ := getF X hx hZ hown w via eT F (g := mkF m pc Ls _) rfl rfl (hb hby hd)
  exact Go.step k (g T' X' e')
theorem g_getS (X : Stand p l e R s m args below meth c T locs cells slots) (hx : p.tables.exec = Jvm.exec) (hby : c.code = code) (hZ : Z.Warmed39 s.vm) (hown : s.vm.findClass own = some m.cls) {R0 O n d host : String} {i : Nat} {v : Value} (w : (Cond.fieldLink own i R0 n d).before a0 Z = true ∨ (Cond.fieldLinkNest own i R0 n d host).before a0 Z = true) (via : Via Z R0 O n d) (eT : T.heap = h) (F : Sta Z h O n d v)
    (hd : decode code pc = .ok (.getstatic i, 3)) (hp : pc + 3 = pc') (g : ∀ (T' : State), Stand p l e R s m args below meth c T' locs cells slots → T'.heap = h → Gf p e below P T' m pc' Ls (v :: st)) : Gf p e below P T m pc Ls st := by
  subst hp
  obtain ⟨T', X', e', k⟩ := getS2 X hx hZ hown w via eT F (g := mkF m pc Ls st) rfl (hb hby hd)
  exact Go.step k (g T' X' e')
theorem g_putF (X : Stand p l e R s m args below meth c T locs cells slots) (hx : p.tables.exec = Jvm.exec) (hby : c.code = code) (hZ : Z.Warmed39 s.vm) (hown : s.vm.findClass own = some m.cls) {R0 O n d host C : String} {i kk : Nat} {ty : FieldType} {v old : Value} (w : (Cond.fieldLink own i R0 n d).before a0 Z = true ∨ (Cond.fieldLinkNest own i R0 n d host).before a0 Z = true) (via : Via Z R0 O n d) (eT : T.heap = h) (F : Fld Z h a O n d old) (E : Exa Z h a C)
    (L : (Cond.lays C O n d).before a0 Z = true ∨ ((Cond.laysFinal C O n d).before a0 Z = true ∧ own = O ∧ meth.name = "<init>")) (wi : (Cond.instantiable C kk).before a0 Z = true) (hty : parseFieldDescriptor d = some ty) (hn : narrow ty v = v) (hf : fits ty v = true)
    (hst : st = v :: .ref a :: st') (hd : decode code pc = .ok (.putfield i, 3)) (hp : pc + 3 = pc') {k0 : Nat} (N : Fr k0 locs) (q : k0 ≤ a)
    (g : ∀ (T' : State) (h' : Heap), Stand p l e R s m args below meth c T' (locs ++ [⟨a, Jvm.RoadKit.slotOf Z O n d⟩]) cells slots → T'.heap = h' → Wr h h' a (Jvm.RoadKit.slotOf Z O n d) v → Fr k0 (locs ++ [⟨a, Jvm.RoadKit.slotOf Z O n d⟩]) → Gf p e below P T' m pc' Ls st') : Gf p e below P T m pc Ls st := by
  subst hp hst
  obtain ⟨T', h', X', e', W', k⟩ := putF X hx hZ hown w via eT F E L wi hty hn hf (g := mkF m pc Ls _) rfl rfl (hb hby hd)
  exact Go.step k (g T' h' X' e' W' (Fr.snoc X' N q))
/-! the calls, by a callee's contract -/
def Con (l : Launch) (Z : State) (y : MethodName) (bytes : ByteArray) (maxL : Nat) (ret : Option FieldType) (ws : List Cond) (rm : Room) (as : Array Value) (h : Heap) (Q : Option Value → Heap → List Loc → Prop) : Prop :=
  MetFree l y (head1 (Cond.code y bytes maxL ret :: ws) rm) (fun a U => a = as ∧ Z.Warmed39 U.vm ∧ U.heap = h) (fun _ _ _ _ _ => True) (fun _ U o U' => ∃ v L, o = .returned v ∧ Q v U'.heap L ∧ FrameEnd U o U' L rm.cells rm.slots)
theorem Con.start {y : MethodName} {bytes : ByteArray} {maxL : Nat} {ret : Option FieldType} {ws : List Cond} {as : Array Value} (Ls : Array Slot) (hn : plainFor y = true) (hef : ∀ m, entryFrame m as maxL = mkF m 0 Ls [])
    (k : ∀ (p : Program) (e : Env) (s : State) (m : MethodId) (below : List Frame) (meth : Method) (c : Code) (s₁ : State) (P : Outcome → State → Prop), Stand p l e rm s m as below meth c s₁ [] 0 0 → p.tables.exec = Jvm.exec → c.code = bytes → c.maxLocals = maxL → meth.sig.returnType = ret → meth.locks = false → s.vm.findClass y.cls = some m.cls → meth.name = y.name → Z.Warmed39 s.vm → s₁.heap = h → FinR l s rm Q P → Gf p e below P s₁ m 0 Ls []) :
    Con l Z y bytes maxL ret ws rm as h Q := by
  refine MetFree.of_bodySF hn hisR ?_
  intro p e s m args below meth c s₁ Bd hml0 hP hK
  obtain ⟨rfl, hZ, hh⟩ := hP
  have e0 : s₁.heap = h := by rw [← hh, Bd.state]; rfl
  obtain ⟨s2, o, h1, h2⟩ := k p e s m below meth c s₁ _ (Stand.of_body Bd) Bd.exec Bd.bytes hml0 Bd.returns (BodyLoose.notSynchronized Bd) (findClass_of_methodNamed Bd.named) (name_of_methodNamed Bd.named Bd.method).1 hZ e0 (fun o U q => q)
  exact ⟨s2, o, castTop (hef m) h1, h2⟩
theorem g_callS (X : Stand p l e R s m args below meth c T locs cells slots) (hx : p.tables.exec = Jvm.exec) (hby : c.code = code) (hml : Ls.size = c.maxLocals) (hZ : Z.Warmed39 s.vm) (hown : s.vm.findClass own = some m.cls) {i : Nat} {y : MethodName} {bytes : ByteArray} {maxL W : Nat} {ret : Option FieldType} {ps : List FieldType} {argsL : List Value} (eT : T.heap = h)
    (hM : Con l Z y bytes maxL ret [] rm argsL.toArray h Q) (w1 : (Cond.methodLink own i y).before a0 Z = true) (w2 : (Cond.static y).before a0 Z = true) (w3 : (Cond.initialized y.cls).before a0 Z = true) (w4 : (Cond.code y bytes maxL ret).before a0 Z = true) (hy : y.cls ≠ "java/lang/invoke/MethodHandle" ∧ y.cls ≠ "java/lang/invoke/VarHandle")
    (hpd : parseMethodDescriptor y.desc = some ⟨ps, ret⟩) (hlen : argsL.length = ps.length) (hst : st = argsL.reverse ++ st') (hW : 2 * 0 + (st'.map fun v => v.category).sum = W) (hf : rm.frames + 1 ≤ R.frames) (hl : W + (maxL + 11) + rm.locals ≤ R.locals) (hc : cells + rm.cells ≤ R.cells) (hs : slots + rm.slots ≤ R.slots)
    (hd : decode code pc = .ok (.invokestatic i, 3)) (hp : pc + 3 = pc')
    (g : ∀ (T' : State) (v : Option Value) (L : List Loc), Stand p l e R s m args below meth c T' (locs ++ L) (cells + rm.cells) (slots + rm.slots) → Q v T'.heap L → Gf p e below P T' m pc' Ls (v.toList ++ st')) : Gf p e below P T m pc Ls st := by
  subst hp hst
  obtain ⟨v, _, ⟨T', L', k', n'⟩, -, X', ⟨Lc, hQ, hl', hy', hz'⟩, k⟩ := Jvm.LawKit.callS X hx (y := y) hown (mvT hZ w1) (mvT hZ w2) (mvT hZ w3) (mvT hZ w4) hy (backOf (W := W) hM hZ w4 w3 hf hl) (g := mkF m pc Ls _) rfl hml (argsL := argsL) (rest := st') (lenOf hpd hlen) rfl (Nat.le_of_eq hW) (hb hby hd) (fun _ _ => ⟨rfl, eT, hc, hs⟩)
  dsimp only [Pt.U, Pt.locs, Pt.cells, Pt.slots] at X' hl' hy' hz' k hQ
  subst hl' hy' hz'
  exact Go.step k (g T' v Lc X' hQ)
theorem g_init (X : Stand p l e R s m args below meth c T locs cells slots) (hx : p.tables.exec = Jvm.exec) (hby : c.code = code) (hml : Ls.size = c.maxLocals) (hZ : Z.Warmed39 s.vm) (hown : s.vm.findClass own = some m.cls) {i : Nat} {y : MethodName} {bytes : ByteArray} {maxL W : Nat} {ps : List FieldType} {argsL : List Value} (hy1 : y.name = "<init>") (eT : T.heap = h)
    (hM : Con l Z y bytes maxL none [] rm (.ref a :: argsL).toArray h Q) (w1 : (Cond.methodLink own i y).before a0 Z = true) (w2 : (Cond.instanceMethod y).before a0 Z = true) (w3 : (Cond.initialized y.cls).before a0 Z = true) (w4 : (Cond.code y bytes maxL none).before a0 Z = true) (hy : y.cls ≠ "java/lang/invoke/MethodHandle" ∧ y.cls ≠ "java/lang/invoke/VarHandle")
    (hpd : parseMethodDescriptor y.desc = some ⟨ps, none⟩) (hlen : argsL.length = ps.length) (hst : st = argsL.reverse ++ .ref a :: st') (hW : 2 * 0 + (st'.map fun v => v.category).sum = W) (hf : rm.frames + 1 ≤ R.frames) (hl : W + (maxL + 11) + rm.locals ≤ R.locals) (hc : cells + rm.cells ≤ R.cells) (hs : slots + rm.slots ≤ R.slots)
    (hd : decode code pc = .ok (.invokespecial i, 3)) (hp : pc + 3 = pc')
    (g : ∀ (T' : State) (v : Option Value) (L : List Loc), Stand p l e R s m args below meth c T' (locs ++ L) (cells + rm.cells) (slots + rm.slots) → Q v T'.heap L → Gf p e below P T' m pc' Ls (v.toList ++ st')) : Gf p e below P T m pc Ls st := by
  subst hp hst
  obtain ⟨v, _, ⟨T', L', k', n'⟩, -, X', ⟨Lc, hQ, hl', hy', hz'⟩, k⟩ := X.specialBack hx (y := y) hy1 hown (mvT hZ w1) (mvT hZ w2) (mvT hZ w4) hy (backOf (W := W) hM hZ w4 w3 hf hl) (g := mkF m pc Ls _) rfl hml (Steps.refl _) (a := a) (argsL := argsL) (rest := st') (lenOf hpd hlen) rfl (Nat.le_of_eq hW) (hb hby hd) (fun _ _ => ⟨rfl, eT, hc, hs⟩)
  dsimp only [Pt.U, Pt.locs, Pt.cells, Pt.slots] at X' hl' hy' hz' k hQ
  subst hl' hy' hz'
  exact Go.step (fun t k2 => k.trans k2) (g T' v Lc X' hQ)
theorem g_virt (X : Stand p l e R s m args below meth c T locs cells slots) (hx : p.tables.exec = Jvm.exec) (hby : c.code = code) (hml : Ls.size = c.maxLocals) (hZ : Z.Warmed39 s.vm) (hown : s.vm.findClass own = some m.cls) {i : Nat} {y : MethodName} {bytes : ByteArray} {maxL W : Nat} {ret : Option FieldType} {ps : List FieldType} {argsL : List Value} {C : String} (eT : T.heap = h)
    (hM : Con l Z y bytes maxL ret [] rm (.ref a :: argsL).toArray h Q) (w1 : (Cond.methodLink own i y).before a0 Z = true) (wd : (Cond.declares y).before a0 Z = true) (ws : (Cond.selects C y y).before a0 Z = true) (w2 : (Cond.instanceMethod y).before a0 Z = true) (w3 : (Cond.initialized y.cls).before a0 Z = true) (w4 : (Cond.code y bytes maxL ret).before a0 Z = true) (hy : y.cls ≠ "java/lang/invoke/MethodHandle" ∧ y.cls ≠ "java/lang/invoke/VarHandle") (E : Exa Z h a C)
    (hpd : parseMethodDescriptor y.desc = some ⟨ps, ret⟩) (hlen : argsL.length = ps.length) (hst : st = argsL.reverse ++ .ref a :: st') (hW : 2 * 0 + (st'.map fun v => v.category).sum = W) (hf : rm.frames + 1 ≤ R.frames) (hl : W + (maxL + 11) + rm.locals ≤ R.locals) (hc : cells + rm.cells ≤ R.cells) (hs : slots + rm.slots ≤ R.slots)
    (hd : decode code pc = .ok (.invokevirtual i, 3)) (hp : pc + 3 = pc')
    (g : ∀ (T' : State) (v : Option Value) (L : List Loc), Stand p l e R s m args below meth c T' (locs ++ L) (cells + rm.cells) (slots + rm.slots) → Q v T'.heap L → Gf p e below P T' m pc' Ls (v.toList ++ st')) : Gf p e below P T m pc Ls st := by
  subst hp hst
  obtain ⟨cq, kq, qa, qb, qc⟩ := isOf hZ eT E
  obtain ⟨v, _, ⟨T', L', k', n'⟩, -, X', ⟨Lc, hQ, hl', hy', hz'⟩, k⟩ := X.virtualBack hx (y := y) (z := y) hown (mvT hZ w1) (mvT hZ wd) (notFace_of_selects (args := #[]) (mvT hZ ws)) (mvT hZ ws) (mvT hZ w2) hy (backOf (W := W) hM hZ w4 w3 hf hl) qa qc (g := mkF m pc Ls _) rfl hml (Steps.refl _) (argsL := argsL) (rest := st') (lenOf hpd hlen) rfl (Nat.le_of_eq hW) (hb hby hd) (fun _ _ => ⟨rfl, eT, hc, hs⟩)
  dsimp only [Pt.U, Pt.locs, Pt.cells, Pt.slots] at X' hl' hy' hz' k hQ
  subst hl' hy' hz'
  exact Go.step (fun t k2 => k.trans k2) (g T' v Lc X' hQ)
theorem g_newA (X : Stand p l e R s m args below meth c T locs cells slots) (hx : p.tables.exec = Jvm.exec) (hby : c.code = code) (hZ : Z.Warmed39 s.vm) {aty : ArrayType} {n : Int32} {cap : Nat} (w : (Cond.arrayClass (newarray.typeOf aty)).before a0 Z = true) (eT : T.heap = h) (hst : st = .int n :: st') (hn : ¬ n < 0) (hcap : n.toNatClampNeg ≤ cap) (hb8 : cap * 8 ≤ 536870912)
    (hc : cells + 1 ≤ R.cells) (hl : slots + cap ≤ R.slots) (hd : decode code pc = .ok (.newarray aty, 2)) (hp : pc + 2 = pc') (k : Nat)
    (g : ∀ (T' : State) (h' : Heap) (cA : ClassId) (a : Addr), Stand p l e R s m args below meth c T' locs (cells + 1) (slots + cap) → T'.heap = h' → Ext h h' → Arv Z h' a cA (newarray.typeOf aty) n ([] ++ List.replicate k (defaultValue (newarray.typeOf aty))) (defaultValue (newarray.typeOf aty)) → a = h.size → Gf p e below P T' m pc' Ls (.ref a :: st')) : Gf p e below P T m pc Ls st := by
  subst hp hst
  obtain ⟨T', h', cA, X', e', E', A', k'⟩ := newP X hx hZ w eT (g := mkF m pc Ls _) rfl (hb hby hd) rfl hn hcap hb8 hc hl
  exact Go.step k' (g T' h' cA h.size X' e' E' ((Arv.new A' hn).pad (pad_rep [] _ k)) rfl)
theorem g_stC (X : Stand p l e R s m args below meth c T locs cells slots) (hx : p.tables.exec = Jvm.exec) (hby : c.code = code) (hZ : Z.Warmed39 s.vm) {cA : ClassId} {n j x : Int32} {vs : List Value} {dv : Value} (eT : T.heap = h) (V : Arv Z h a cA .char n vs dv) (hj : ¬ j < 0 ∧ j < n) (i : Nat) (hi : j.toNatClampNeg = i) (hl : i < vs.length) (hst : st = .int x :: .int j :: .ref a :: st') (hd : decode code pc = .ok (.castore, 1)) (hp : pc + 1 = pc') {k0 : Nat} (N : Fr k0 locs) (q : k0 ≤ a)
    (g : ∀ (T' : State) (h' : Heap), Stand p l e R s m args below meth c T' (locs ++ [⟨a, j.toNatClampNeg⟩]) cells slots → T'.heap = h' → Wr h h' a j.toNatClampNeg (.int (nar .char x)) → Fr k0 (locs ++ [⟨a, j.toNatClampNeg⟩]) → Arv Z h' a cA .char n (vs.set i (.int (nar .char x))) dv → Gf p e below P T' m pc' Ls st') : Gf p e below P T m pc Ls st := by
  subst hp hst
  obtain ⟨c1, A1, q1, S1, M1, H1, U1⟩ := id V
  obtain ⟨T', h', X', e', W', k'⟩ := stC X hx hZ eT A1 (inb_of S1 hj) (g := mkF m pc Ls _) rfl rfl (hb hby hd)
  exact Go.step k' (g T' h' X' e' W' (Fr.snoc X' N q) (Arv.set A1 q1 S1 M1 H1 U1 (fits_nar_char _) W' i hi hl))
theorem g_stD (X : Stand p l e R s m args below meth c T locs cells slots) (hx : p.tables.exec = Jvm.exec) (hby : c.code = code) (hZ : Z.Warmed39 s.vm) {cA : ClassId} {n j : Int32} {x : UInt64} {vs : List Value} {dv : Value} (eT : T.heap = h) (V : Arv Z h a cA .double n vs dv) (hj : ¬ j < 0 ∧ j < n) (i : Nat) (hi : j.toNatClampNeg = i) (hl : i < vs.length) (hst : st = .double x :: .int j :: .ref a :: st') (hd : decode code pc = .ok (.dastore, 1)) (hp : pc + 1 = pc') {k0 : Nat} (N : Fr k0 locs) (q : k0 ≤ a)
    (g : ∀ (T' : State) (h' : Heap), Stand p l e R s m args below meth c T' (locs ++ [⟨a, j.toNatClampNeg⟩]) cells slots → T'.heap = h' → Wr h h' a j.toNatClampNeg (.double x) → Fr k0 (locs ++ [⟨a, j.toNatClampNeg⟩]) → Arv Z h' a cA .double n (vs.set i (.double x)) dv → Gf p e below P T' m pc' Ls st') : Gf p e below P T m pc Ls st := by
  subst hp hst
  obtain ⟨c1, A1, q1, S1, M1, H1, U1⟩ := id V
  obtain ⟨T', h', X', e', W', k'⟩ := stD X hx hZ eT A1 (inb_of S1 hj) (g := mkF m pc Ls _) rfl rfl (hb hby hd)
  exact Go.step k' (g T' h' X' e' W' (Fr.snoc X' N q) (Arv.set A1 q1 S1 M1 H1 U1 rfl W' i hi hl))
theorem g_ldD (X : Stand p l e R s m args below meth c T locs cells slots) (hx : p.tables.exec = Jvm.exec) (hby : c.code = code) (hZ : Z.Warmed39 s.vm) {cA : ClassId} {n j : Int32} {v : UInt64} {vs : List Value} {dv : Value} (eT : T.heap = h) (V : Arv Z h a cA .double n vs dv) (hj : ¬ j < 0 ∧ j < n) (hv : vs.getD j.toNatClampNeg dv = .double v) (hst : st = .int j :: .ref a :: st') (hd : decode code pc = .ok (.daload, 1)) (hp : pc + 1 = pc')
    (g : Gf p e below P T m pc' Ls (.double v :: st')) : Gf p e below P T m pc Ls st := by
  subst hp hst
  obtain ⟨c1, A1, q1, S1, M1, H1, U1⟩ := id V
  have hj' := inb_of S1 hj
  exact Go.step (fun t k => X.daload hx (a := a) (cell := c1) (j := j) (v := .double v) (by rw [eT]; exact A1.1) (State.isArrayOf_alike hZ.alike A1.2.1) A1.2.2 hj' (Has.at H1 hj' hv) (g := mkF m pc Ls _) rfl rfl (hb hby hd) t k) g
theorem g_absD (X : Stand p l e R s m args below meth c T locs cells slots) (hx : p.tables.exec = Jvm.exec) (hby : c.code = code) (hml : Ls.size = c.maxLocals) (hZ : Z.Warmed39 s.vm) (hown : s.vm.findClass own = some m.cls) {i : Nat} {x v : UInt64} (eT : T.heap = h) (w1 : (Cond.methodLink own i Jvm.Free.Fl.Abs.absDN).before a0 Z = true) (w2 : (Cond.static Jvm.Free.Fl.Abs.absDN).before a0 Z = true) (w3 : (Cond.initialized "java/lang/Math").before a0 Z = true) (w4 : (Cond.code Jvm.Free.Fl.Abs.absDN Jvm.Free.Fl.Abs.absDCode 2 (some .double)).before a0 Z = true)
    (hn : Jvm.Free.Fl.NoNaN64 x) (hv : x &&& 0x7fffffffffffffff = v) (hst : st = .double x :: st') {W : Nat} (hW : 2 * 0 + (st'.map fun v => v.category).sum = W) (hf : 1 ≤ R.frames) (hl : W + 13 ≤ R.locals) (hc : cells ≤ R.cells) (hs : slots ≤ R.slots) (hd : decode code pc = .ok (.invokestatic i, 3)) (hp : pc + 3 = pc')
    (g : ∀ (T' : State), Stand p l e R s m args below meth c T' locs cells slots → T'.heap = h → Gf p e below P T' m pc' Ls (.double v :: st')) : Gf p e below P T m pc Ls st := by
  subst hp hst hv
  obtain ⟨T', X', e', k⟩ := natS X hx hZ hown w1 w2 w3 w4 (by decide) eT (F := fun a' => a' = #[.double x] ∧ Jvm.Free.Fl.NoNaN64 x) (fun hcode => Jvm.Free.Fl.Abs.absD_pays x hcode hf hl) (g := mkF m pc Ls _) rfl hml (argsL := [.double x]) (rest := st') (lenOf (ps := [.double]) (r := some .double) (by decide +kernel) rfl) rfl (Nat.le_of_eq hW) (hb hby hd) hc hs ⟨rfl, hn⟩ rfl
  exact Go.step k (g T' X' e')
theorem g_maxD (X : Stand p l e R s m args below meth c T locs cells slots) (hx : p.tables.exec = Jvm.exec) (hby : c.code = code) (hml : Ls.size = c.maxLocals) (hZ : Z.Warmed39 s.vm) (hown : s.vm.findClass own = some m.cls) {i : Nat} {x y v : UInt64} (eT : T.heap = h) (w1 : (Cond.methodLink own i Jvm.Free.Fl.Abs.maxDN).before a0 Z = true) (w2 : (Cond.static Jvm.Free.Fl.Abs.maxDN).before a0 Z = true) (w3 : (Cond.initialized "java/lang/Math").before a0 Z = true) (w4 : (Cond.code Jvm.Free.Fl.Abs.maxDN Jvm.Free.Fl.Abs.maxDCode 4 (some .double)).before a0 Z = true)
    (hn : Jvm.Free.Fl.NoNaN64 x) (hm : Jvm.Free.Fl.NoNaN64 y) (hv : Jvm.Native.java_lang_Math.nans.pick64 true x y = v) (hst : st = .double y :: .double x :: st') {W : Nat} (hW : 2 * 0 + (st'.map fun v => v.category).sum = W) (hf : 1 ≤ R.frames) (hl : W + 15 ≤ R.locals) (hc : cells ≤ R.cells) (hs : slots ≤ R.slots) (hd : decode code pc = .ok (.invokestatic i, 3)) (hp : pc + 3 = pc')
    (g : ∀ (T' : State), Stand p l e R s m args below meth c T' locs cells slots → T'.heap = h → Gf p e below P T' m pc' Ls (.double v :: st')) : Gf p e below P T m pc Ls st := by
  subst hp hst hv
  obtain ⟨T', X', e', k⟩ := natS X hx hZ hown w1 w2 w3 w4 (by decide) eT (F := fun a' => a' = #[.double x, .double y] ∧ Jvm.Free.Fl.NoNaN64 x ∧ Jvm.Free.Fl.NoNaN64 y) (fun hcode => Jvm.Free.Fl.Abs.maxD_pays x y hcode hf hl) (g := mkF m pc Ls _) rfl hml (argsL := [.double x, .double y]) (rest := st') (lenOf (ps := [.double, .double]) (r := some .double) (by decide +kernel) rfl) rfl (Nat.le_of_eq hW) (hb hby hd) hc hs ⟨rfl, hn, hm⟩ rfl
  exact Go.step k (g T' X' e')
theorem g_pop2D (X : Stand p l e R s m args below meth c T locs cells slots) (hx : p.tables.exec = Jvm.exec) (hby : c.code = code) {x : UInt64} (hd : decode code pc = .ok (.pop2, 1)) (hst : st = .double x :: st') (hp : pc + 1 = pc') (g : Gf p e below P T m pc' Ls st') : Gf p e below P T m pc Ls st := by
  subst hp hst
  have hd' := hb hby hd
  refine Go.step (fun t k => ?_) g
  show Steps p.tables e below (T.setTop { method := m, pc := pc, locals := Ls, stack := .double x :: st', locked := none }) t
  jvm_step X.here [X.here.top, hx, hd', Value.category]
  exact k
/-! where a String constant may be loaded for the first time: the Stand lies over (s.setVm vm0) -/
theorem g_ldcS {vm0 : Vm} (X : Stand p l e R (s.setVm vm0) m args below meth c T locs cells slots) (hx : p.tables.exec = Jvm.exec) (hby : c.code = code) (hZ : Z.Warmed39 vm0) (hown : vm0.findClass own = some m.cls) {i n : Nat} {text : String} (w : (Cond.stringLink own i text).before a0 Z = true) (wS : ∀ a ∈ Bundle.stringAtoms, a.before a0 Z = true) (eT : T.heap = h) {k0 : Nat} (hS : s.Since vm0 k0) (hk : k0 ≤ h.size)
    (hd : decode code pc = .ok (.ldc i, 2)) (hp : pc + 2 = pc') (hn : 4 * text.toList.length ≤ n) (hbig : n ≤ 536870912) (hc : cells + 2 ≤ R.cells) (hl : slots + (n + 4) ≤ R.slots)
    (g : ∀ (a : Addr) (T' : State) (h' : Heap) (k1 : Nat), Stand p l e R (s.setVm T'.vm) m args below meth c T' locs (cells + 2) (slots + (n + 4)) → T'.heap = h' → Ext h h' → s.Since T'.vm k1 → k1 ≤ h'.size → Z.Warmed39 (s.setVm T'.vm).vm → (s.setVm T'.vm).vm.findClass own = some m.cls → Gf p e below P T' m pc' Ls (.ref a :: st)) : Gf p e below P T m pc Ls st := by
  subst hp
  obtain ⟨a, T', h', k1, X', e', E', hS', hk', hZ', hown', k⟩ := ldcS X hx hZ hown w wS eT hS hk (g := mkF m pc Ls st) rfl (hb hby hd) hn hbig hc hl
  exact Go.step k (g a T' h' k1 X' e' E' hS' hk' hZ' hown')
def ConW (l : Launch) (Z : State) (y : MethodName) (bytes : ByteArray) (maxL : Nat) (ret : Option FieldType) (ws : List Cond) (rm : Room) (as : Array Value) (h : Heap) (Q : Option Value → Heap → List Loc → Prop) : Prop :=
  MetFree l y (head1 (Cond.code y bytes maxL ret :: ws) rm) (fun a U => a = as ∧ Z.Warmed39 U.vm ∧ U.heap = h) (fun _ _ _ _ _ => True) (fun _ U o U' => ∃ v L, o = .returned v ∧ Q v U'.heap L ∧ ReturnedEndW U o U' L rm.cells rm.slots)
def FinW (l : Launch) (s : State) (rm : Room) (Q : Option Value → Heap → List Loc → Prop) (P : Outcome → State → Prop) : Prop := ∀ o U, (∃ v L, o = .returned v ∧ Q v U.heap L ∧ ReturnedEndW s o U L rm.cells rm.slots) → P o U
theorem ConW.start {y : MethodName} {bytes : ByteArray} {maxL : Nat} {ret : Option FieldType} {ws : List Cond} {as : Array Value} (Ls : Array Slot) (hn : plainFor y = true) (hef : ∀ m, entryFrame m as maxL = mkF m 0 Ls [])
    (k : ∀ (p : Program) (e : Env) (s : State) (m : MethodId) (below : List Frame) (meth : Method) (c : Code) (s₁ : State) (P : Outcome → State → Prop), Stand p l e rm (s.setVm s.vm) m as below meth c s₁ [] 0 0 → p.tables.exec = Jvm.exec → c.code = bytes → c.maxLocals = maxL → meth.sig.returnType = ret → meth.locks = false → (s.setVm s.vm).vm.findClass y.cls = some m.cls → meth.name = y.name → Z.Warmed39 (s.setVm s.vm).vm → s₁.heap = h → FinW l s rm Q P → s.Since s.vm 0 → Gf p e below P s₁ m 0 Ls []) :
    ConW l Z y bytes maxL ret ws rm as h Q := by
  refine MetFree.of_bodySF hn hisR ?_
  intro p e s m args below meth c s₁ Bd hml0 hP hK
  obtain ⟨rfl, hZ, hh⟩ := hP
  have e0 : s₁.heap = h := by rw [← hh, Bd.state]; rfl
  obtain ⟨s2, o, h1, h2⟩ := k p e s m below meth c s₁ _ (Stand.of_body Bd) Bd.exec Bd.bytes hml0 Bd.returns (BodyLoose.notSynchronized Bd) (findClass_of_methodNamed Bd.named) (name_of_methodNamed Bd.named Bd.method).1 hZ e0 (fun o U q => q) ((State.WarmedH.refl s).since 0)
  exact ⟨s2, o, castTop (hef m) h1, h2⟩
theorem own_endW {s t : State} {o : Outcome} {L : List Loc} {k n k' n' : Nat} (h : ReturnedEndW s o t L k n) (hk : k ≤ k') (hn : n ≤ n') : ReturnedEndW s o t L k' n' := ⟨h.1, h.2.1, h.2.2.1, h.2.2.2.mono hk hn⟩
theorem g_retVW {vm0 : Vm} (X : Stand p l e R (s.setVm vm0) m args below meth c T locs cells slots) (hx : p.tables.exec = Jvm.exec) (hby : c.code = code) {k0 : Nat} (hS : s.Since vm0 k0) (hk : k0 ≤ h.size) (hf : FinW l s rm Q P) (hlk : meth.locks = false) {t : FieldType} {i : Instr} {w : Value} (hret : meth.sig.returnType = some t) (hd : decode code pc = .ok (i, 1)) (hst : st = w :: st') (hn : narrow t w = w)
    (hi : (i = .ireturn ∧ (t = .int ∨ t = .boolean ∨ t = .byte ∨ t = .char ∨ t = .short) ∧ ∃ z, w = .int z) ∨ (i = .lreturn ∧ t = .long ∧ ∃ z, w = .long z) ∨ (i = .dreturn ∧ t = .double ∧ ∃ z, w = .double z) ∨ (i = .freturn ∧ t = .float ∧ ∃ z, w = .float z) ∨ (i = .areturn ∧ t.isReference = true ∧ w.isRef = true))
    (hc : cells ≤ rm.cells) (hs : slots ≤ rm.slots) (eT : T.heap = h) (q : Q (some w) h locs) : Gf p e below P T m pc Ls st := by
  subst hst
  obtain ⟨fs, hr, hrun, hended, hE⟩ := X.leaveW hS (by rw [eT]; exact hk) (v := some w) (fun q => by rw [hret] at q; cases q) hlk
  exact ⟨_, _, retOut X hx hret hn hi (hb hby hd) hr, hrun, hended, hf _ _ ⟨_, _, rfl, by show Q (some w) T.heap locs; rw [eT]; exact q, own_endW hE hc hs⟩⟩
theorem g_retZW {vm0 : Vm} (X : Stand p l e R (s.setVm vm0) m args below meth c T locs cells slots) (hx : p.tables.exec = Jvm.exec) (hby : c.code = code) {k0 : Nat} (hS : s.Since vm0 k0) (hk : k0 ≤ h.size) (hf : FinW l s rm Q P) (hlk : meth.locks = false) {t : FieldType} {z w : Int32} (hret : meth.sig.returnType = some t) (hd : decode code pc = .ok (.ireturn, 1)) (hst : st = .int z :: st') (ht : t = .boolean ∨ t = .byte ∨ t = .char ∨ t = .short)
    (hw : nar t z = w) (hc : cells ≤ rm.cells) (hs : slots ≤ rm.slots) (eT : T.heap = h) (q : Q (some (.int w)) h locs) : Gf p e below P T m pc Ls st := by
  subst hst hw
  obtain ⟨fs, hr, hrun, hended, hE⟩ := X.leaveW hS (by rw [eT]; exact hk) (v := some (.int (nar t z))) (fun q => by rw [hret] at q; cases q) hlk
  exact ⟨_, _, retN X hx hret ht (hb hby hd) hr, hrun, hended, hf _ _ ⟨_, _, rfl, by show Q (some (.int (nar t z))) T.heap locs; rw [eT]; exact q, own_endW hE hc hs⟩⟩
theorem g_retW {vm0 : Vm} (X : Stand p l e R (s.setVm vm0) m args below meth c T locs cells slots) (hx : p.tables.exec = Jvm.exec) (hby : c.code = code) {k0 : Nat} (hS : s.Since vm0 k0) (hk : k0 ≤ h.size) (hf : FinW l s rm Q P) (hlk : meth.locks = false) (hret : meth.sig.returnType = none) (hd : decode code pc = .ok (.return_, 1)) (hst : st = [])
    (hc : cells ≤ rm.cells) (hs : slots ≤ rm.slots) (eT : T.heap = h) (q : Q none h locs) : Gf p e below P T m pc Ls st := by
  subst hst
  obtain ⟨fs, hr, hrun, hended, hE⟩ := X.leaveW hS (by rw [eT]; exact hk) (v := none) (fun _ => rfl) hlk
  exact ⟨_, _, X.returnOut hx hret (hb hby hd) hr, hrun, hended, hf _ _ ⟨_, _, rfl, by show Q none T.heap locs; rw [eT]; exact q, own_endW hE hc hs⟩⟩
theorem g_initW {vm0 : Vm} (X : Stand p l e R (s.setVm vm0) m args below meth c T locs cells slots) (hx : p.tables.exec = Jvm.exec) (hby : c.code = code) (hml : Ls.size = c.maxLocals) (hZ : Z.Warmed39 (s.setVm vm0).vm) (hown : (s.setVm vm0).vm.findClass own = some m.cls) {k0 : Nat} (hS : s.Since vm0 k0) (hk : k0 ≤ h.size) {i : Nat} {y : MethodName} {bytes : ByteArray} {maxL W : Nat} {ps : List FieldType} {argsL : List Value} (hy1 : y.name = "<init>") (eT : T.heap = h)
    (hM : ConW l Z y bytes maxL none [] rm (.ref a :: argsL).toArray h Q) (w1 : (Cond.methodLink own i y).before a0 Z = true) (w2 : (Cond.instanceMethod y).before a0 Z = true) (w3 : (Cond.initialized y.cls).before a0 Z = true) (w4 : (Cond.code y bytes maxL none).before a0 Z = true) (hy : y.cls ≠ "java/lang/invoke/MethodHandle" ∧ y.cls ≠ "java/lang/invoke/VarHandle")
    (hpd : parseMethodDescriptor y.desc = some ⟨ps, none⟩) (hlen : argsL.length = ps.length) (hst : st = argsL.reverse ++ .ref a :: st') (hW : 2 * 0 + (st'.map fun v => v.category).sum = W) (hf : rm.frames + 1 ≤ R.frames) (hl : W + (maxL + 11) + rm.locals ≤ R.locals) (hc : cells + rm.cells ≤ R.cells) (hs : slots + rm.slots ≤ R.slots)
    (hd : decode code pc = .ok (.invokespecial i, 3)) (hp : pc + 3 = pc')
    (g : ∀ (T' : State) (v : Option Value) (L : List Loc), Stand p l e R (s.setVm T'.vm) m args below meth c T' (locs ++ L) (cells + rm.cells) (slots + rm.slots) → Q v T'.heap L → s.Since T'.vm T'.heap.size → Z.Warmed39 (s.setVm T'.vm).vm → (s.setVm T'.vm).vm.findClass own = some m.cls → Gf p e below P T' m pc' Ls (v.toList ++ st')) : Gf p e below P T m pc Ls st := by
  subst hp hst
  obtain ⟨v, _, ⟨T', L', k', n'⟩, -, X', hS', hgr, ⟨Lc, hQ, hl', hy', hz'⟩, k⟩ := X.specialBackS hx (y := y) hy1 hown (mvT hZ w1) (mvT hZ w2) (mvT hZ w4) hy (backOfS (W := W) hM hZ w4 w3 hf hl) (g := mkF m pc Ls _) rfl hml (Steps.refl _) (a := a) (argsL := argsL) (rest := st') (lenOf hpd hlen) rfl (Nat.le_of_eq hW) (hb hby hd) (fun _ _ => ⟨rfl, eT, hc, hs⟩)
  dsimp only [Pt.U, Pt.locs, Pt.cells, Pt.slots] at X' hl' hy' hz' k hQ hS' hgr
  subst hl' hy' hz'
  have hZ' : Z.Warmed39 (s.setVm T'.vm).vm := State.Warmed39.trans (t := s.setVm vm0) hZ hS'.1
  exact Go.step (fun t k2 => k.trans k2) (g T' v Lc X' hQ (foldS hS (by rw [eT]; exact hk) hS' hgr) hZ' (by rw [show (s.setVm T'.vm).vm = T'.vm from rfl, hS'.1.alike.findClass]; exact hown))
theorem own_join {G : Prop} (P : Outcome → State → Prop) (X : Stand p l e R s m args below meth c T locs cells slots) (eT : T.heap = h) (pc : Nat) (Ls : Array Slot) (st : List Value) (J : ∀ T', Stand p l e R s m args below meth c T' locs cells slots → T'.heap = h → Gf p e below P T' m pc Ls st)
    (k : (∀ T', Stand p l e R s m args below meth c T' locs cells slots → T'.heap = h → Gf p e below P T' m pc Ls st) → G) : G := k J
end Steps1
theorem own_sta_keep {Z : State} {h h' : Heap} {ws : List Addr} {C n d : String} {v : Value} (F : Sta Z h C n d v) (K : Keep h h' ws) (q : ∀ x ∈ ws, ∃ C', Exa Z h x C') : Sta Z h' C n d v := by
  obtain ⟨cf, i, k, f, st, cell, h1, h2, h3, h4, h5, h6, h7⟩ := F
  refine ⟨cf, i, k, f, st, cell, h1, h2, h3, h4, K.2.1 st cell h5 fun hm => ?_, h6, h7⟩
  obtain ⟨C', cell', _, g1, -, -, g4, -⟩ := q st hm
  cases h5.symm.trans g1
  rw [g4] at h6
  cases h6
theorem own_ef {m : MethodId} {as : Array Value} {n : Nat} {Ls : Array Slot} (h : Jvm.Sym.laidSlots as.toList ++ List.replicate (n - (Jvm.Sym.laidSlots as.toList).length) .unset = Ls.toList) : entryFrame m as n = mkF m 0 Ls [] := by
  have e : argsToLocals as n = Ls := Array.toList_inj.mp (by rw [Jvm.Sym.argsToLocals_toList]; exact h)
  first | exact congrArg (fun L => mkF m 0 L []) e | (show mkF m 0 (argsToLocals as n) [] = mkF m 0 Ls []; rw [e])
theorem own_fitZ {z : Int32} (h : z = 0 ∨ z = 1) : fits .boolean (.int z) = true := by rcases h with rfl | rfl <;> rfl
theorem own_narZ {z : Int32} (h : z = 0 ∨ z = 1) : narrow .boolean (.int z) = .int z := by rcases h with rfl | rfl <;> rfl
theorem own_nar {z : Int32} (h : z = 0 ∨ z = 1) : nar .boolean z = z := by rcases h with rfl | rfl <;> rfl
theorem own_01 {c : Prop} [Decidable c] {z : Int32} (h : z = if c then 0 else 1) : z = 0 ∨ z = 1 := by subst h; split <;> simp
theorem own_10 {c : Prop} [Decidable c] {z : Int32} (h : z = if c then 1 else 0) : z = 0 ∨ z = 1 := by subst h; split <;> simp
end Jvm.Own
namespace Jvm.Own
open Jvm.FP Jvm.FP.Core
/-- a double's value in units of 2^(-1074) -/
abbrev zv (a : UInt64) : Int := zval b64 (val64 a)
theorem own_qmin : b64.qmin = -1074 := by decide +kernel
theorem own_qmax : b64.qmax = 971 := by decide +kernel
theorem ring1 {za zb d d' n n' o zV : Int} (h1 : za * d = n * o) (h2 : zb * d' = n' * o) (h3 : zV * (d * d') = n * n' * o) : za * zb * (d * d') = zV * o * (d * d') := by
  calc za * zb * (d * d') = (za * d) * (zb * d') := by ac_rfl
    _ = n * o * (n' * o) := by rw [h1, h2]
    _ = (n * n' * o) * o := by ac_rfl
    _ = zV * o * (d * d') := by rw [← h3]; ac_rfl
theorem ring2 {za zb d d' k n n' m o zV : Int} (h1 : za * d = n * o) (h2 : zb * d' = n' * o) (h3 : zV * k = m * o) (h : m * (d * n') = n * (d' * k)) : za * o * (d * (d' * k)) = zV * zb * (d * (d' * k)) := by
  calc za * o * (d * (d' * k)) = (za * d) * (o * (d' * k)) := by ac_rfl
    _ = (n * (d' * k)) * (o * o) := by rw [h1]; ac_rfl
    _ = (m * (d * n')) * (o * o) := by rw [h]
    _ = (m * o) * ((n' * o) * d) := by ac_rfl
    _ = (zV * k) * ((zb * d') * d) := by rw [h2, h3]
    _ = zV * zb * (d * (d' * k)) := by ac_rfl
theorem ring3 {z d d' n o : Int} (h : z * d = n * o) : z * (d * d') = n * d' * o := by rw [← Int.mul_assoc, h]; ac_rfl
theorem ring4 {z d d' n o : Int} (h : z * d' = n * o) : z * (d * d') = n * d * o := by rw [Int.mul_comm d, ← Int.mul_assoc, h]; ac_rfl
theorem own_fin {a : UInt64} (h : DFin a) : ∃ s c q, val64 a = .fin s c q ∧ Jvm.FP.Core.fits b64 (.fin s c q) := by
  obtain ⟨s, c, q, h⟩ := h
  exact ⟨s, c, q, h, h ▸ val64_fits a⟩
/-- what has a finite number's value is finite -/
theorem own_fin_of {x V : UInt64} (hx : val64 x ≠ .nan) (hV : DFin V) (h : (zv x).natAbs ≤ (zv V).natAbs) : DFin x := by
  have h1 := hV.zval_lt
  cases hv : val64 x with
  | nan => exact absurd hv hx
  | fin s c q => exact ⟨s, c, q, hv⟩
  | inf s =>
    exfalso
    unfold zv zval at h
    rw [natAbs_signed, natAbs_signed, hv] at h
    have h2 : b64.tails * 2 ^ (b64.exps - 2) ≤ zmag b64 (val64 V) := h
    exact absurd h1 (Nat.not_lt.mpr h2)
/-- Rv a n d: a is finite and of the value n / d -/
def Rv (a : UInt64) (n : Int) (d : Nat) : Prop := DFin a ∧ zv a * (d : Int) = n * (one64 : Int)
theorem one_pos : 0 < (one64 : Int) := Int.natCast_pos.mpr one64_pos
theorem round_units {s : Bool} {c : Nat} {q e0 : Int} {V : UInt64} (hV : DFin V) (h0 : e0 ≤ b64.qmin) (h0e : e0 ≤ q) (h : signed s (inUnits c q e0) = zv V * ((2 ^ (b64.qmin - e0).toNat : Nat) : Int)) : zval b64 (round b64 (.fin s c q)) = zv V := by
  have h1 := zval_round_le good_b64 (V := val64 V) (val64_fits V) hV.ne_nan h0 h0e (Int.le_of_eq h)
  have h2 := zval_round_ge good_b64 (V := val64 V) (val64_fits V) hV.ne_nan h0 h0e (Int.le_of_eq h.symm)
  exact Int.le_antisymm h1 h2
theorem dadd_zv {a b V : UInt64} (ha : DFin a) (hb : DFin b) (hV : DFin V) (h : zv a + zv b = zv V) : DFin (FP.dadd a b) ∧ zv (FP.dadd a b) = zv V := by
  have hn : val64 (FP.dadd a b) ≠ .nan := (notNaN_iff _).mp (dadd_out ha.notNaN hb)
  obtain ⟨s, c, q, h1, f1⟩ := own_fin ha
  obtain ⟨t, d, r, h2, f2⟩ := own_fin hb
  obtain ⟨sg, n, e, p1, p2, p3⟩ := sum_units f1 f2
  have hz : zv (FP.dadd a b) = zv V := by
    show zval b64 (val64 (Core.dadd a b)) = _
    rw [val64_dadd, h1, h2, p1]
    refine round_units hV (Int.le_refl _) p2 ?_
    rw [p3, Int.sub_self, Int.toNat_zero, Nat.pow_zero, ← h, ← h1, ← h2]
    exact (Int.mul_one _).symm
  exact ⟨own_fin_of hn hV (Nat.le_of_eq (by rw [hz])), hz⟩
theorem zv_dneg (a : UInt64) : zv (FP.dneg a) = -zv a := by
  show zval b64 (val64 (FP.dneg a)) = _
  rw [Jvm.FP.val64_dneg, zval_negate]
theorem fin_dneg {a : UInt64} (h : DFin a) : DFin (FP.dneg a) := by
  obtain ⟨s, c, q, h⟩ := h
  exact ⟨!s, c, q, by rw [Jvm.FP.val64_dneg, h]; rfl⟩
theorem dsub_zv {a b V : UInt64} (ha : DFin a) (hb : DFin b) (hV : DFin V) (h : zv a - zv b = zv V) : DFin (FP.dsub a b) ∧ zv (FP.dsub a b) = zv V := by
  have e : FP.dsub a b = FP.dadd a (FP.dneg b) := by rw [Jvm.FP.dneg_core hb.notNaN]; exact dsub_eq a b
  rw [e]
  refine dadd_zv ha (fin_dneg hb) hV ?_
  rw [zv_dneg]; omega
theorem dmul_zv {a b V : UInt64} (ha : DFin a) (hb : DFin b) (hV : DFin V) (h : zv a * zv b = zv V * (one64 : Int)) : DFin (FP.dmul a b) ∧ zv (FP.dmul a b) = zv V := by
  have hn : val64 (FP.dmul a b) ≠ .nan := (notNaN_iff _).mp (dmul_out ha hb)
  obtain ⟨s, c, q, h1, f1⟩ := own_fin ha
  obtain ⟨t, d, r, h2, f2⟩ := own_fin hb
  obtain ⟨p1, p2, p3⟩ := product_units f1 f2
  have hz : zv (FP.dmul a b) = zv V := by
    show zval b64 (val64 (Core.dmul a b)) = _
    rw [val64_dmul, h1, h2, p1]
    refine round_units hV (by have := own_qmin; omega) p2 ?_
    rw [p3, signed_xor, show (b64.qmin - 2 * b64.qmin).toNat = (-b64.qmin).toNat by omega, pow_qmin64, ← h]
    show _ = zval b64 (val64 a) * zval b64 (val64 b)
    rw [h1, h2]; rfl
  exact ⟨own_fin_of hn hV (Nat.le_of_eq (by rw [hz])), hz⟩
/-- the quotient of two finite numbers, as a rounding -/
theorem ddiv_val {a b : UInt64} {s t : Bool} {c d : Nat} {q r : Int} (h1 : val64 a = .fin s c q) (h2 : val64 b = .fin t d r) (hd : d ≠ 0) : val64 (FP.ddiv a b) = roundRatio b64 (s != t) c d (q - r) := by
  show val64 (Core.ddiv a b) = _
  rw [val64_ddiv, h1, h2]
  simp only [quotient, if_neg hd]
theorem zero_of {b : UInt64} {t : Bool} {d : Nat} {r : Int} (h2 : val64 b = .fin t d r) (hz : zv b ≠ 0) : d ≠ 0 := by
  intro h0
  apply hz
  show zval b64 (val64 b) = 0
  rw [h2, h0]
  show signed t (inUnits 0 r b64.qmin) = 0
  unfold inUnits
  rw [Nat.zero_mul, signed_zero]
theorem zv_mag {a : UInt64} {s : Bool} {c : Nat} {q : Int} (h : val64 a = .fin s c q) : zv a = signed s (inUnits c q b64.qmin) := by
  show zval b64 (val64 a) = _
  rw [h]; rfl
theorem ddiv_units {a b : UInt64} {s t : Bool} {c d : Nat} {q r : Int} (f1 : Jvm.FP.Core.fits b64 (.fin s c q)) (f2 : Jvm.FP.Core.fits b64 (.fin t d r)) :
    (2 * b64.qmin - r ≤ b64.qmin ∧ 2 * b64.qmin - r ≤ q - r) ∧ inUnits c (q - r) (2 * b64.qmin - r) = inUnits c q b64.qmin * one64 ∧ ∀ V : Nat, V * 2 ^ (b64.qmin - (2 * b64.qmin - r)).toNat * d = V * inUnits d r b64.qmin := by
  have hx1 := f1.2.1
  have hy1 := f2.2.1
  refine ⟨⟨by omega, by have := own_qmin; omega⟩, ?_, fun V => ?_⟩
  · rw [← pow_qmin64]; unfold inUnits
    rw [Nat.mul_assoc, ← Nat.pow_add]; congr 2; have := own_qmin; omega
  · unfold inUnits
    rw [Nat.mul_assoc, Nat.mul_comm _ d]; congr 3; omega
theorem ddiv_zv_le {a b V : UInt64} (ha : DFin a) (hb : DFin b) (hz : zv b ≠ 0) (hV : DFin V) (h : (zv a).natAbs * one64 ≤ (zv V).natAbs * (zv b).natAbs) : (zv (FP.ddiv a b)).natAbs ≤ (zv V).natAbs := by
  obtain ⟨s, c, q, h1, f1⟩ := own_fin ha
  obtain ⟨t, d, r, h2, f2⟩ := own_fin hb
  obtain ⟨u, k, w, h3, f3⟩ := own_fin hV
  have hd := zero_of h2 hz
  obtain ⟨⟨p1, p2⟩, p3, p4⟩ := ddiv_units (a := a) (b := b) f1 f2
  have hv := ddiv_val h1 h2 hd
  rw [zv_mag h1, zv_mag h2, zv_mag h3, natAbs_signed, natAbs_signed, natAbs_signed] at h
  unfold zv zval
  rw [natAbs_signed, natAbs_signed, hv, h3]
  refine zmag_roundRatio_le good_b64 (Nat.pos_of_ne_zero hd) f3 (by simp) p1 p2 ?_
  rw [p3, p4]
  exact h
theorem ddiv_zv_ge {a b V : UInt64} (ha : DFin a) (hb : DFin b) (hz : zv b ≠ 0) (hV : DFin V) (h : (zv V).natAbs * (zv b).natAbs ≤ (zv a).natAbs * one64) : (zv V).natAbs ≤ (zv (FP.ddiv a b)).natAbs := by
  obtain ⟨s, c, q, h1, f1⟩ := own_fin ha
  obtain ⟨t, d, r, h2, f2⟩ := own_fin hb
  obtain ⟨u, k, w, h3, f3⟩ := own_fin hV
  have hd := zero_of h2 hz
  obtain ⟨⟨p1, p2⟩, p3, p4⟩ := ddiv_units (a := a) (b := b) f1 f2
  have hv := ddiv_val h1 h2 hd
  rw [zv_mag h1, zv_mag h2, zv_mag h3, natAbs_signed, natAbs_signed, natAbs_signed] at h
  unfold zv zval
  rw [natAbs_signed, natAbs_signed, hv, h3]
  refine zmag_roundRatio_ge good_b64 (Nat.pos_of_ne_zero hd) f3 p1 p2 ?_
  rw [p3, p4]
  exact h
/-- the sign of a quotient -/
theorem ddiv_sign {a b : UInt64} (ha : DFin a) (hb : DFin b) (hz : zv b ≠ 0) : (0 ≤ zv a → 0 < zv b → 0 ≤ zv (FP.ddiv a b)) ∧ (zv a ≤ 0 → 0 < zv b → zv (FP.ddiv a b) ≤ 0) ∧ (0 ≤ zv a → zv b < 0 → zv (FP.ddiv a b) ≤ 0) ∧ (zv a ≤ 0 → zv b < 0 → 0 ≤ zv (FP.ddiv a b)) := by
  obtain ⟨s, c, q, h1, f1⟩ := own_fin ha
  obtain ⟨t, d, r, h2, f2⟩ := own_fin hb
  have hd := zero_of h2 hz
  have hv := ddiv_val h1 h2 hd
  have e3 : zv (FP.ddiv a b) = signed (s != t) (zmag b64 (val64 (FP.ddiv a b))) := by
    show signed (sgn (val64 (FP.ddiv a b))) _ = _
    rw [hv, sgn_roundRatio]
  have k0 : zv a = 0 → zv (FP.ddiv a b) = 0 := fun e => by
    have := ddiv_zv_le ha hb hz ha (by rw [e]; simp)
    rw [e] at this; omega
  have e1 := zv_mag h1
  have e2 := zv_mag h2
  cases s <;> cases t <;> simp [signed] at e1 e2 e3 <;> refine ⟨fun x y => ?_, fun x y => ?_, fun x y => ?_, fun x y => ?_⟩ <;> first | omega | (have := k0 (by omega); omega)
theorem ddiv_nn {a b : UInt64} (ha : DFin a) (hb : DFin b) (hz : zv b ≠ 0) : val64 (FP.ddiv a b) ≠ .nan := by
  obtain ⟨s, c, q, h1, f1⟩ := own_fin ha
  obtain ⟨t, d, r, h2, f2⟩ := own_fin hb
  rw [ddiv_val h1 h2 (zero_of h2 hz)]
  exact roundRatio_ne_nan _ _ _ _ _
theorem ddiv_zv {a b V : UInt64} (ha : DFin a) (hb : DFin b) (hz : zv b ≠ 0) (hV : DFin V) (h : zv a * (one64 : Int) = zv V * zv b) : DFin (FP.ddiv a b) ∧ zv (FP.ddiv a b) = zv V := by
  have hm : (zv a).natAbs * one64 = (zv V).natAbs * (zv b).natAbs := by
    have := congrArg Int.natAbs h
    rw [Int.natAbs_mul, Int.natAbs_mul, Int.natAbs_natCast] at this
    exact this
  have l1 := ddiv_zv_le ha hb hz hV (Nat.le_of_eq hm)
  have l2 := ddiv_zv_ge ha hb hz hV (Nat.le_of_eq hm.symm)
  have hn := ddiv_nn ha hb hz
  obtain ⟨s1, s2, s3, s4⟩ := ddiv_sign ha hb hz
  have p := one_pos
  refine ⟨own_fin_of hn hV l1, ?_⟩
  rcases Int.lt_or_gt_of_ne hz with hb' | hb'
  · rcases Int.le_total 0 (zv a) with ha' | ha'
    · have := s3 ha' hb'
      have : zv V ≤ 0 := by
        apply Int.not_lt.mp; intro hv
        have h1 := Int.mul_neg_of_pos_of_neg hv hb'
        have h2 := Int.mul_nonneg ha' (Int.le_of_lt p)
        omega
      omega
    · have := s4 ha' hb'
      have : 0 ≤ zv V := by
        apply Int.not_lt.mp; intro hv
        have h1 := Int.mul_pos_of_neg_of_neg hv hb'
        have h2 := Int.mul_nonpos_of_nonpos_of_nonneg ha' (Int.le_of_lt p)
        omega
      omega
  · rcases Int.le_total 0 (zv a) with ha' | ha'
    · have := s1 ha' hb'
      have : 0 ≤ zv V := by
        apply Int.not_lt.mp; intro hv
        have h1 := Int.mul_neg_of_neg_of_pos hv hb'
        have h2 := Int.mul_nonneg ha' (Int.le_of_lt p)
        omega
      omega
    · have := s2 ha' hb'
      have : zv V ≤ 0 := by
        apply Int.not_lt.mp; intro hv
        have h1 := Int.mul_pos hv hb'
        have h2 := Int.mul_nonpos_of_nonpos_of_nonneg ha' (Int.le_of_lt p)
        omega
      omega
/-- there is a double of each value m * 2^(e - 1074) -/
theorem rep (m : Int) (e : Nat) (hm : m.natAbs < 2 ^ 53) (he : e ≤ 2045) : ∃ V : UInt64, DFin V ∧ zv V = m * ((2 ^ e : Nat) : Int) := by
  have hq := own_qmin
  obtain ⟨c', q', h1, h2⟩ := round_exact good_b64 (decide (m < 0)) (c := m.natAbs) (q := (e : Int) - 1074) hm (by omega) (by rw [own_qmax]; omega)
  have hf := round_fits good_b64 (.fin (decide (m < 0)) m.natAbs ((e : Int) - 1074))
  have hv : val64 (of64 (round b64 (.fin (decide (m < 0)) m.natAbs ((e : Int) - 1074)))) = .fin (decide (m < 0)) c' q' := (val64_of64 hf).trans h1
  refine ⟨_, ⟨_, _, _, hv⟩, ?_⟩
  rw [zv_mag hv, h2]
  unfold inUnits
  rw [show ((e : Int) - 1074 - b64.qmin).toNat = e by omega, signed_mul]
  congr 1
  unfold signed
  by_cases h : m < 0 <;> simp [h] <;> omega
theorem rv_fin {a : UInt64} {n : Int} {d : Nat} (h : Rv a n d) : DFin a := h.1
theorem ex_rv (n : Int) (k : Nat) (hn : n.natAbs < 2 ^ 53) (hk : k ≤ 1074) : ∃ V, Rv V n (2 ^ k) := by
  obtain ⟨V, h1, h2⟩ := rep n (1074 - k) hn (by omega)
  refine ⟨V, h1, ?_⟩
  rw [h2, Int.mul_assoc, ← Int.natCast_mul, ← Nat.pow_add, show 1074 - k + k = 1074 by omega]; rfl
theorem ex_rvU (n : Int) (j : Nat) (hn : n.natAbs < 2 ^ 53) (hk : j ≤ 971) : ∃ V, Rv V (n * ((2 ^ j : Nat) : Int)) 1 := by
  obtain ⟨V, h1, h2⟩ := rep n (1074 + j) hn (by omega)
  refine ⟨V, h1, ?_⟩
  rw [h2, Nat.pow_add, Int.natCast_mul, Int.mul_comm ((2 ^ 1074 : Nat) : Int), ← Int.mul_assoc]
  exact Int.mul_one _
theorem rv_unique {a b : UInt64} {n : Int} {d : Nat} (hd : 0 < d) (ha : Rv a n d) (hb : Rv b n d) : zv a = zv b := by
  have h := ha.2.trans hb.2.symm
  exact Int.eq_of_mul_eq_mul_right (by omega) h
theorem rv_scale {a : UInt64} {n : Int} {d : Nat} (k : Nat) (h : Rv a n d) : Rv a (n * (k : Int)) (d * k) := by
  refine ⟨h.1, ?_⟩
  rw [Int.natCast_mul, ← Int.mul_assoc, h.2, Int.mul_assoc, Int.mul_assoc, Int.mul_comm (k : Int)]
theorem rv_unscale {a : UInt64} {n : Int} {d : Nat} (k : Nat) (hk : 0 < k) (h : Rv a (n * (k : Int)) (d * k)) : Rv a n d := by
  refine ⟨h.1, ?_⟩
  have h2 := h.2
  rw [Int.natCast_mul, ← Int.mul_assoc, Int.mul_assoc n, Int.mul_comm (k : Int) (one64 : Int), ← Int.mul_assoc] at h2
  exact Int.eq_of_mul_eq_mul_right (by omega) h2
theorem rv_i2d (n : Int32) : Rv (FP.i2d n) n.toInt 1 := ⟨i2d_fin n, by rw [show ((1 : Nat) : Int) = 1 from rfl, Int.mul_one]; exact DInt_zval (i2d_int n)⟩
theorem rv_l2d {n : Int64} (h : n.toInt.natAbs ≤ 2 ^ 53) : Rv (FP.l2d n) n.toInt 1 := ⟨l2d_fin n, by rw [show ((1 : Nat) : Int) = 1 from rfl, Int.mul_one]; exact DInt_zval (l2d_int h)⟩
theorem rv_neg {a : UInt64} {n : Int} {d : Nat} (h : Rv a n d) : Rv (FP.dneg a) (-n) d := ⟨fin_dneg h.1, by rw [zv_dneg, Int.neg_mul, Int.neg_mul, h.2]⟩
theorem rv_add {a b V : UInt64} {n n' : Int} {d : Nat} (hd : 0 < d) (ha : Rv a n d) (hb : Rv b n' d) (hV : Rv V (n + n') d) : Rv (FP.dadd a b) (n + n') d := by
  have e : zv a + zv b = zv V := by
    refine Int.eq_of_mul_eq_mul_right (a := (d : Int)) (by omega) ?_
    rw [Int.add_mul, ha.2, hb.2, hV.2, Int.add_mul]
  obtain ⟨h1, h2⟩ := dadd_zv ha.1 hb.1 hV.1 e
  exact ⟨h1, by rw [h2]; exact hV.2⟩
theorem rv_sub {a b V : UInt64} {n n' : Int} {d : Nat} (hd : 0 < d) (ha : Rv a n d) (hb : Rv b n' d) (hV : Rv V (n - n') d) : Rv (FP.dsub a b) (n - n') d := by
  have e : zv a - zv b = zv V := by
    refine Int.eq_of_mul_eq_mul_right (a := (d : Int)) (by omega) ?_
    rw [Int.sub_mul, ha.2, hb.2, hV.2, Int.sub_mul]
  obtain ⟨h1, h2⟩ := dsub_zv ha.1 hb.1 hV.1 e
  exact ⟨h1, by rw [h2]; exact hV.2⟩
theorem rv_mul {a b V : UInt64} {n n' : Int} {d d' : Nat} (hd : 0 < d) (hd' : 0 < d') (ha : Rv a n d) (hb : Rv b n' d') (hV : Rv V (n * n') (d * d')) : Rv (FP.dmul a b) (n * n') (d * d') := by
  have e : zv a * zv b = zv V * (one64 : Int) := by
    refine Int.eq_of_mul_eq_mul_right (a := ((d * d' : Nat) : Int)) (by have := Nat.mul_pos hd hd'; omega) ?_
    have h3 := hV.2
    rw [Int.natCast_mul] at h3 ⊢
    exact ring1 ha.2 hb.2 h3
  obtain ⟨h1, h2⟩ := dmul_zv ha.1 hb.1 hV.1 e
  exact ⟨h1, by rw [h2]; exact hV.2⟩
theorem rv_nz {b : UInt64} {n : Int} {d : Nat} (hb : Rv b n d) (hn : n ≠ 0) : zv b ≠ 0 := by
  intro h
  have h1 := hb.2
  rw [h, Int.zero_mul] at h1
  rcases Int.mul_eq_zero.mp h1.symm with h2 | h2
  · exact hn h2
  · have := one_pos; omega
theorem rv_div {a b V : UInt64} {n n' m : Int} {d d' k : Nat} (hd : 0 < d) (hd' : 0 < d') (hk : 0 < k) (ha : Rv a n d) (hb : Rv b n' d') (hn : n' ≠ 0) (hV : Rv V m k) (h : m * ((d : Int) * n') = n * ((d' : Int) * (k : Int))) : Rv (FP.ddiv a b) m k := by
  have e : zv a * (one64 : Int) = zv V * zv b := by
    refine Int.eq_of_mul_eq_mul_right (a := ((d * (d' * k) : Nat) : Int)) (by have := Nat.mul_pos hd (Nat.mul_pos hd' hk); omega) ?_
    rw [Int.natCast_mul, Int.natCast_mul]
    exact ring2 ha.2 hb.2 hV.2 h
  obtain ⟨h1, h2⟩ := ddiv_zv ha.1 hb.1 (rv_nz hb hn) hV.1 e
  exact ⟨h1, by rw [h2]; exact hV.2⟩
theorem cmp_mul (x y : Int) {k : Int} (hk : 0 < k) : compare x y = compare (x * k) (y * k) := (compare_mul_pos x y k hk).symm
theorem rv_cmp {a b : UInt64} {n n' : Int} {d d' : Nat} (hd : 0 < d) (hd' : 0 < d') (ha : Rv a n d) (hb : Rv b n' d') : FP.dcmp a b = some (compare (n * (d' : Int)) (n' * (d : Int))) := by
  show Core.dcmp a b = _
  rw [dcmp_zval ha.1.ne_nan hb.1.ne_nan]
  congr 1
  have p := one_pos
  rw [cmp_mul (zval b64 (val64 a)) _ (show 0 < ((d * d' : Nat) : Int) by have := Nat.mul_pos hd hd'; omega), cmp_mul (n * (d' : Int)) _ p]
  have h1 : zval b64 (val64 a) * ((d * d' : Nat) : Int) = n * (d' : Int) * (one64 : Int) := by rw [Int.natCast_mul]; exact ring3 ha.2
  have h2 : zval b64 (val64 b) * ((d * d' : Nat) : Int) = n' * (d : Int) * (one64 : Int) := by rw [Int.natCast_mul]; exact ring4 hb.2
  rw [h1, h2]
theorem zv_cmp {a b : UInt64} (ha : val64 a ≠ .nan) (hb : val64 b ≠ .nan) : FP.dcmp a b = some (compare (zv a) (zv b)) := dcmp_zval ha hb
theorem rv_zero : Rv 0 0 1 := ⟨⟨_, _, _, val64_zero⟩, by rw [show zv 0 = 0 from zval64_zero]; simp⟩
theorem rv_one : Rv 4607182418800017408 1 1 := ⟨⟨_, _, _, val64_dconst1⟩, by rw [show zv 4607182418800017408 = 1 * (one64 : Int) from DInt_zval dint_one]; simp⟩
theorem nn64 {a : UInt64} (h : val64 a ≠ .nan) : Jvm.Free.Fl.NoNaN64 a := Jvm.Free.Fl.noNaN64_no.mpr ((notNaN_iff a).mpr h)
theorem rv_nn {a : UInt64} {n : Int} {d : Nat} (h : Rv a n d) : Jvm.Free.Fl.NoNaN64 a := nn64 h.1.ne_nan
theorem rcv {a b : UInt64} {n n' : Int} {d d' : Nat} (hd : 0 < d) (hd' : 0 < d') (ha : Rv a n d) (hb : Rv b n' d') (o : Jvm.ClassFile.CmpOp) :
    (Jvm.Op.cmpValue (FP.dcmp a b) o < 0 ↔ n * (d' : Int) < n' * (d : Int)) ∧ (0 < Jvm.Op.cmpValue (FP.dcmp a b) o ↔ n' * (d : Int) < n * (d' : Int)) ∧ (Jvm.Op.cmpValue (FP.dcmp a b) o = 0 ↔ n * (d' : Int) = n' * (d : Int)) := by
  rw [rv_cmp hd hd' ha hb, compare_ite]
  generalize n * (d' : Int) = x
  generalize n' * (d : Int) = y
  split
  · exact ⟨⟨fun _ => by omega, fun _ => by cases o <;> decide⟩, ⟨fun h => absurd h (by cases o <;> decide), fun h => by omega⟩, ⟨fun h => absurd h (by cases o <;> decide), fun h => by omega⟩⟩
  · split
    · exact ⟨⟨fun h => absurd h (by cases o <;> decide), fun h => by omega⟩, ⟨fun h => absurd h (by cases o <;> decide), fun h => by omega⟩, ⟨fun _ => by omega, fun _ => by cases o <;> decide⟩⟩
    · exact ⟨⟨fun h => absurd h (by cases o <;> decide), fun h => by omega⟩, ⟨fun _ => by omega, fun _ => by cases o <;> decide⟩, ⟨fun h => absurd h (by cases o <;> decide), fun h => by omega⟩⟩
theorem zcv {a b : UInt64} (ha : val64 a ≠ .nan) (hb : val64 b ≠ .nan) (o : Jvm.ClassFile.CmpOp) :
    (Jvm.Op.cmpValue (FP.dcmp a b) o < 0 ↔ zv a < zv b) ∧ (0 < Jvm.Op.cmpValue (FP.dcmp a b) o ↔ zv b < zv a) ∧ (Jvm.Op.cmpValue (FP.dcmp a b) o = 0 ↔ zv a = zv b) := by
  rw [zv_cmp ha hb, compare_ite]
  generalize zv a = x
  generalize zv b = y
  split
  · exact ⟨⟨fun _ => by omega, fun _ => by cases o <;> decide⟩, ⟨fun h => absurd h (by cases o <;> decide), fun h => by omega⟩, ⟨fun h => absurd h (by cases o <;> decide), fun h => by omega⟩⟩
  · split
    · exact ⟨⟨fun h => absurd h (by cases o <;> decide), fun h => by omega⟩, ⟨fun h => absurd h (by cases o <;> decide), fun h => by omega⟩, ⟨fun _ => by omega, fun _ => by cases o <;> decide⟩⟩
    · exact ⟨⟨fun h => absurd h (by cases o <;> decide), fun h => by omega⟩, ⟨fun _ => by omega, fun _ => by cases o <;> decide⟩, ⟨fun h => absurd h (by cases o <;> decide), fun h => by omega⟩⟩
theorem own_isfinO {d : UInt64} (h : DFin d) (o : Jvm.ClassFile.CmpOp) : ¬ (0 : Int32) < Jvm.Op.cmpValue (FP.dcmp (d &&& 0x7fffffffffffffff) 9218868437227405311) o := by
  have h1 := (fin_bits d).mp h
  have n1 := mask_ne_nan h.ne_nan
  have n2 : val64 9218868437227405311 ≠ .nan := by rw [ne_nan]; decide
  have e : FP.dcmp (d &&& 0x7fffffffffffffff) 9218868437227405311 = _ := dcmp_key n1 n2
  rw [e, mask_key, show dkey 9218868437227405311 = 9218868437227405311 from by decide, compare_ite]
  split
  · cases o <;> decide
  · split
    · cases o <;> decide
    · omega
theorem own_isfin {d : UInt64} (h : DFin d) : ¬ (0 : Int32) < Jvm.Op.cmpValue (FP.dcmp (d &&& 0x7fffffffffffffff) 9218868437227405311) .g := own_isfinO h .g
theorem own_inf {d : UInt64} (h : DFin d) : Jvm.Op.cmpValue (FP.dcmp d 9218868437227405312) .g < (0 : Int32) := by
  rw [Jvm.RoadKit.dcmp_pinf (Jvm.Free.Fl.fin64_core.mpr h) .g]; decide
theorem own_pos {mu : UInt64} {n : Int} {d : Nat} (hd : 0 < d) (h : Rv mu n d) (hn : 0 < n) : (0 : Int32) < Jvm.Op.cmpValue (FP.dcmp mu 0) .l := (rcv hd (by decide) h rv_zero .l).2.1.mpr (by simp; omega)
/-- two quotients of one value are one -/
theorem ddiv_congr {a b a' b' : UInt64} (ha : DFin a) (hb : DFin b) (ha' : DFin a') (hb' : DFin b') (pa : 0 < zv a) (pb : 0 < zv b) (pa' : 0 < zv a') (pb' : 0 < zv b') (h : zv a * zv b' = zv a' * zv b) : val64 (FP.ddiv a b) = val64 (FP.ddiv a' b') := by
  obtain ⟨s, c, q, h1, f1⟩ := own_fin ha
  obtain ⟨t, d, r, h2, f2⟩ := own_fin hb
  obtain ⟨s', c', q', h3, f3⟩ := own_fin ha'
  obtain ⟨t', d', r', h4, f4⟩ := own_fin hb'
  have d1 := zero_of h2 (by omega)
  have d2 := zero_of h4 (by omega)
  rw [ddiv_val h1 h2 d1, ddiv_val h3 h4 d2]
  rw [zv_mag h1] at pa h
  rw [zv_mag h2] at pb h
  rw [zv_mag h3] at pa' h
  rw [zv_mag h4] at pb' h
  have sg : ∀ (u : Bool) (x : Nat), 0 < signed u x → u = false := fun u x hp => by cases u <;> simp [signed] at hp ⊢; omega
  obtain rfl := sg _ _ pa
  obtain rfl := sg _ _ pb
  obtain rfl := sg _ _ pa'
  obtain rfl := sg _ _ pb'
  have g1 := f1.2.1
  have g2 := f2.2.1
  have g3 := f3.2.1
  have g4 := f4.2.1
  refine roundRatio_congr (Nat.pos_of_ne_zero d1) (Nat.pos_of_ne_zero d2) ?_
  have h' : inUnits c q b64.qmin * inUnits d' r' b64.qmin = inUnits c' q' b64.qmin * inUnits d r b64.qmin := by
    have : ((inUnits c q b64.qmin * inUnits d' r' b64.qmin : Nat) : Int) = ((inUnits c' q' b64.qmin * inUnits d r b64.qmin : Nat) : Int) := by rw [Int.natCast_mul, Int.natCast_mul]; exact h
    exact Int.ofNat.inj this
  unfold inUnits at h'
  have k1 : c * 2 ^ (q - b64.qmin).toNat * (d' * 2 ^ (r' - b64.qmin).toNat) = c * d' * 2 ^ ((q - b64.qmin).toNat + (r' - b64.qmin).toNat) := by rw [Nat.pow_add, Nat.mul_mul_mul_comm]
  have k2 : c' * 2 ^ (q' - b64.qmin).toNat * (d * 2 ^ (r - b64.qmin).toNat) = c' * d * 2 ^ ((q' - b64.qmin).toNat + (r - b64.qmin).toNat) := by rw [Nat.pow_add, Nat.mul_mul_mul_comm]
  rw [k1, k2] at h'
  rcases Int.le_total (q' - r') (q - r) with hl | hl
  · have e1 : (q - b64.qmin).toNat + (r' - b64.qmin).toNat = (q - r - (q' - r')).toNat + ((q' - b64.qmin).toNat + (r - b64.qmin).toNat) := by omega
    rw [e1, Nat.pow_add, ← Nat.mul_assoc] at h'
    rw [show (q' - r' - (q - r)).toNat = 0 by omega, Nat.pow_zero, Nat.mul_one]
    exact Nat.eq_of_mul_eq_mul_right (Nat.two_pow_pos _) h'
  · have e1 : (q' - b64.qmin).toNat + (r - b64.qmin).toNat = (q' - r' - (q - r)).toNat + ((q - b64.qmin).toNat + (r' - b64.qmin).toNat) := by omega
    rw [e1, Nat.pow_add 2 (q' - r' - (q - r)).toNat, ← Nat.mul_assoc (c' * d)] at h'
    rw [show (q - r - (q' - r')).toNat = 0 by omega, Nat.pow_zero, Nat.mul_one]
    exact Nat.eq_of_mul_eq_mul_right (Nat.two_pow_pos _) h'
theorem own_same {x y : UInt64} (h : val64 x = val64 y) (hn : val64 x ≠ .nan) (o : Jvm.ClassFile.CmpOp) : Jvm.Op.cmpValue (FP.dcmp x y) o = 0 := by
  have e : FP.dcmp x y = some .eq := by
    show order (val64 x) (val64 y) = _
    rw [← h]; exact order_self hn
  rw [e]; cases o <;> rfl
theorem own_t0 {te t0 : Int32} (h : te &&& (31 : Int32) = t0) : ∃ k : Fin 32, t0 = Int32.ofNat k.val := by
  have e := Jvm.Kit.i32_mask te 31 (k := 5) (by decide) (by decide)
  rw [h] at e
  have hk : (t0.toInt.toNat) < 32 := by omega
  refine ⟨⟨t0.toInt.toNat, hk⟩, ?_⟩
  apply Int32.toInt_inj.mp
  rw [Int32.toInt_ofNat_small (by show t0.toInt.toNat < _; omega)]
  show _ = ((t0.toInt.toNat : Nat) : Int)
  omega
theorem own_shl : ∀ k : Fin 32, ((1 : Int64) <<< ((Int32.ofNat k.val) &&& 0x3f).toInt64).toInt = ((2 ^ k.val : Nat) : Int) := by decide
/-- (double) (1L << e), e below 32 -/
theorem own_pow {te t0 : Int32} {sc : UInt64} (h : te &&& (31 : Int32) = t0) (hs : FP.l2d ((1 : Int64) <<< (t0 &&& 0x3f).toInt64) = sc) : ∃ k : Nat, k < 32 ∧ Rv sc ((2 ^ k : Nat) : Int) 1 := by
  obtain ⟨k, hk⟩ := own_t0 h
  have e : ((1 : Int64) <<< (t0 &&& 0x3f).toInt64).toInt = ((2 ^ k.val : Nat) : Int) := by rw [hk]; exact own_shl k
  have hp : 2 ^ k.val ≤ 2 ^ 31 := Nat.pow_le_pow_right (by decide) (by have := k.isLt; omega)
  have := rv_l2d (n := (1 : Int64) <<< (t0 &&& 0x3f).toInt64) (by rw [e, Int.natAbs_natCast]; exact Nat.le_trans hp (by decide))
  rw [e, hs] at this
  exact ⟨k.val, k.isLt, this⟩
end Jvm.Own
namespace Jvm.Pilot.@@N@@
open Jvm Jvm.ClassFile Sem Op Lib Jvm.Free Jvm.Stand Jvm.LawKit Jvm.RoadKit Bundle Jvm.Own Jvm.Pilot.@@N@@.Jvm.D
theorem own_fd0 : parseFieldDescriptor "D" = some .double := by decide +kernel
theorem own_nes0 : ("g" : String) ≠ "r" := by decide +kernel
theorem own_nes1 : ("b" : String) ≠ "r" := by decide +kernel
theorem own_nes2 : ("r" : String) ≠ "g" := by decide +kernel
theorem own_nes3 : ("b" : String) ≠ "g" := by decide +kernel
theorem own_nes4 : ("r" : String) ≠ "b" := by decide +kernel
theorem own_nes5 : ("g" : String) ≠ "b" := by decide +kernel
theorem own_nes6 : ("pointY" : String) ≠ "pointX" := by decide +kernel
theorem own_nes7 : ("pointZ" : String) ≠ "pointX" := by decide +kernel
theorem own_nes8 : ("normalX" : String) ≠ "pointX" := by decide +kernel
theorem own_nes9 : ("normalY" : String) ≠ "pointX" := by decide +kernel
theorem own_nes10 : ("normalZ" : String) ≠ "pointX" := by decide +kernel
theorem own_nes11 : ("radiance" : String) ≠ "pointX" := by decide +kernel
theorem own_fd1 : parseFieldDescriptor "Lcom/example/stochastic_ray_tracer/stochasticraytracer/Rgb;" = some (.object "com/example/stochastic_ray_tracer/stochasticraytracer/Rgb") := by decide +kernel
theorem own_nes12 : ("density" : String) ≠ "pointX" := by decide +kernel
theorem own_nes13 : ("distance" : String) ≠ "pointX" := by decide +kernel
theorem own_nes14 : ("pointX" : String) ≠ "pointY" := by decide +kernel
theorem own_nes15 : ("pointZ" : String) ≠ "pointY" := by decide +kernel
theorem own_nes16 : ("normalX" : String) ≠ "pointY" := by decide +kernel
theorem own_nes17 : ("normalY" : String) ≠ "pointY" := by decide +kernel
theorem own_nes18 : ("normalZ" : String) ≠ "pointY" := by decide +kernel
theorem own_nes19 : ("radiance" : String) ≠ "pointY" := by decide +kernel
theorem own_nes20 : ("density" : String) ≠ "pointY" := by decide +kernel
theorem own_nes21 : ("distance" : String) ≠ "pointY" := by decide +kernel
theorem own_nes22 : ("pointX" : String) ≠ "pointZ" := by decide +kernel
theorem own_nes23 : ("pointY" : String) ≠ "pointZ" := by decide +kernel
theorem own_nes24 : ("normalX" : String) ≠ "pointZ" := by decide +kernel
theorem own_nes25 : ("normalY" : String) ≠ "pointZ" := by decide +kernel
theorem own_nes26 : ("normalZ" : String) ≠ "pointZ" := by decide +kernel
theorem own_nes27 : ("radiance" : String) ≠ "pointZ" := by decide +kernel
theorem own_nes28 : ("density" : String) ≠ "pointZ" := by decide +kernel
theorem own_nes29 : ("distance" : String) ≠ "pointZ" := by decide +kernel
theorem own_nes30 : ("pointX" : String) ≠ "normalX" := by decide +kernel
theorem own_nes31 : ("pointY" : String) ≠ "normalX" := by decide +kernel
theorem own_nes32 : ("pointZ" : String) ≠ "normalX" := by decide +kernel
theorem own_nes33 : ("normalY" : String) ≠ "normalX" := by decide +kernel
theorem own_nes34 : ("normalZ" : String) ≠ "normalX" := by decide +kernel
theorem own_nes35 : ("radiance" : String) ≠ "normalX" := by decide +kernel
theorem own_nes36 : ("density" : String) ≠ "normalX" := by decide +kernel
theorem own_nes37 : ("distance" : String) ≠ "normalX" := by decide +kernel
theorem own_nes38 : ("pointX" : String) ≠ "normalY" := by decide +kernel
theorem own_nes39 : ("pointY" : String) ≠ "normalY" := by decide +kernel
theorem own_nes40 : ("pointZ" : String) ≠ "normalY" := by decide +kernel
theorem own_nes41 : ("normalX" : String) ≠ "normalY" := by decide +kernel
theorem own_nes42 : ("normalZ" : String) ≠ "normalY" := by decide +kernel
theorem own_nes43 : ("radiance" : String) ≠ "normalY" := by decide +kernel
theorem own_nes44 : ("density" : String) ≠ "normalY" := by decide +kernel
theorem own_nes45 : ("distance" : String) ≠ "normalY" := by decide +kernel
theorem own_nes46 : ("pointX" : String) ≠ "normalZ" := by decide +kernel
theorem own_nes47 : ("pointY" : String) ≠ "normalZ" := by decide +kernel
theorem own_nes48 : ("pointZ" : String) ≠ "normalZ" := by decide +kernel
theorem own_nes49 : ("normalX" : String) ≠ "normalZ" := by decide +kernel
theorem own_nes50 : ("normalY" : String) ≠ "normalZ" := by decide +kernel
theorem own_nes51 : ("radiance" : String) ≠ "normalZ" := by decide +kernel
theorem own_nes52 : ("density" : String) ≠ "normalZ" := by decide +kernel
theorem own_nes53 : ("distance" : String) ≠ "normalZ" := by decide +kernel
theorem own_nes54 : ("pointX" : String) ≠ "radiance" := by decide +kernel
theorem own_nes55 : ("pointY" : String) ≠ "radiance" := by decide +kernel
theorem own_nes56 : ("pointZ" : String) ≠ "radiance" := by decide +kernel
theorem own_nes57 : ("normalX" : String) ≠ "radiance" := by decide +kernel
theorem own_nes58 : ("normalY" : String) ≠ "radiance" := by decide +kernel
theorem own_nes59 : ("normalZ" : String) ≠ "radiance" := by decide +kernel
theorem own_nes60 : ("density" : String) ≠ "radiance" := by decide +kernel
theorem own_nes61 : ("distance" : String) ≠ "radiance" := by decide +kernel
theorem own_nes62 : ("pointX" : String) ≠ "density" := by decide +kernel
theorem own_nes63 : ("pointY" : String) ≠ "density" := by decide +kernel
theorem own_nes64 : ("pointZ" : String) ≠ "density" := by decide +kernel
theorem own_nes65 : ("normalX" : String) ≠ "density" := by decide +kernel
theorem own_nes66 : ("normalY" : String) ≠ "density" := by decide +kernel
theorem own_nes67 : ("normalZ" : String) ≠ "density" := by decide +kernel
theorem own_nes68 : ("radiance" : String) ≠ "density" := by decide +kernel
theorem own_nes69 : ("distance" : String) ≠ "density" := by decide +kernel
theorem own_nes70 : ("pointX" : String) ≠ "distance" := by decide +kernel
theorem own_nes71 : ("pointY" : String) ≠ "distance" := by decide +kernel
theorem own_nes72 : ("pointZ" : String) ≠ "distance" := by decide +kernel
theorem own_nes73 : ("normalX" : String) ≠ "distance" := by decide +kernel
theorem own_nes74 : ("normalY" : String) ≠ "distance" := by decide +kernel
theorem own_nes75 : ("normalZ" : String) ≠ "distance" := by decide +kernel
theorem own_nes76 : ("radiance" : String) ≠ "distance" := by decide +kernel
theorem own_nes77 : ("density" : String) ≠ "distance" := by decide +kernel
theorem own_pd0 : parseMethodDescriptor "(DDD)V" = some ⟨[.double, .double, .double], none⟩ := by decide +kernel
theorem own_pd1 : parseMethodDescriptor "()V" = some ⟨[], none⟩ := by decide +kernel
theorem own_pd2 : parseMethodDescriptor "(DDDDDDLcom/example/stochastic_ray_tracer/stochasticraytracer/Rgb;DD)V" = some ⟨[.double, .double, .double, .double, .double, .double, (.object "com/example/stochastic_ray_tracer/stochasticraytracer/Rgb"), .double, .double], none⟩ := by decide +kernel
theorem own_pd3 : parseMethodDescriptor "()D" = some ⟨[], some .double⟩ := by decide +kernel
theorem own_pd4 : parseMethodDescriptor "()Lcom/example/stochastic_ray_tracer/stochasticraytracer/Rgb;" = some ⟨[], some (.object "com/example/stochastic_ray_tracer/stochasticraytracer/Rgb")⟩ := by decide +kernel
theorem own_pn0 : plainName "com/example/stochastic_ray_tracer/stochasticraytracer/Rgb" = true := by first | (simp [plainName, overriddenIn]; done) | decide +kernel
theorem own_pn1 : plainName "com/example/stochastic_ray_tracer/stochasticraytracer/LightSample" = true := by first | (simp [plainName, overriddenIn]; done) | decide +kernel
theorem own_pn2 : plainName "com/example/stochastic_ray_tracer/stochasticraytracer/LightSampleSetPinLaw" = true := by first | (simp [plainName, overriddenIn]; done) | decide +kernel
theorem own_d1_0 : decode prog_57_method_1_code 0 = .ok (.aload_n 0, 1) := by decide +kernel
theorem own_d1_1 : decode prog_57_method_1_code 1 = .ok (.invokespecial 1, 3) := by decide +kernel
theorem own_d1_4 : decode prog_57_method_1_code 4 = .ok (.aload_n 0, 1) := by decide +kernel
theorem own_d1_5 : decode prog_57_method_1_code 5 = .ok (.dload_n 1, 1) := by decide +kernel
theorem own_d1_6 : decode prog_57_method_1_code 6 = .ok (.putfield 7, 3) := by decide +kernel
theorem own_d1_9 : decode prog_57_method_1_code 9 = .ok (.aload_n 0, 1) := by decide +kernel
theorem own_d1_10 : decode prog_57_method_1_code 10 = .ok (.dload_n 3, 1) := by decide +kernel
theorem own_d1_11 : decode prog_57_method_1_code 11 = .ok (.putfield 13, 3) := by decide +kernel
theorem own_d1_14 : decode prog_57_method_1_code 14 = .ok (.aload_n 0, 1) := by decide +kernel
theorem own_d1_15 : decode prog_57_method_1_code 15 = .ok (.dload 5, 2) := by decide +kernel
theorem own_d1_17 : decode prog_57_method_1_code 17 = .ok (.putfield 16, 3) := by decide +kernel
theorem own_d1_20 : decode prog_57_method_1_code 20 = .ok (.return_, 1) := by decide +kernel
def own_Q1 (Z : State) (a : Addr) (x : UInt64) (y : UInt64) (z : UInt64) (h0 : Heap) (n0 : Nat) (v : Option Value) (h : Heap) (L : List Loc) : Prop := v = none ∧ Fr n0 L ∧ Keep h0 h [a] ∧ Exa Z h a "com/example/stochastic_ray_tracer/stochasticraytracer/Rgb"
set_option maxRecDepth 65536 in
set_option maxHeartbeats 40000000 in
theorem own_rm1 (l : Launch) (Z : State) (a0 : Array Value) (hw : ∀ d ∈ tables_1, d.before a0 Z = true) (ws : List Jvm.Cond) (a : Addr) (x : UInt64) (y : UInt64) (z : UInt64) (h0 : Heap) (n0 : Nat) (Z0 : n0 ≤ h0.size) (c0 : Exa Z h0 a "com/example/stochastic_ray_tracer/stochasticraytracer/Rgb") (c1 : Fld Z h0 a "com/example/stochastic_ray_tracer/stochasticraytracer/Rgb" "r" "D" (.double (0 : UInt64))) (c2 : Fld Z h0 a "com/example/stochastic_ray_tracer/stochasticraytracer/Rgb" "g" "D" (.double (0 : UInt64))) (c3 : Fld Z h0 a "com/example/stochastic_ray_tracer/stochasticraytracer/Rgb" "b" "D" (.double (0 : UInt64))) (c4 : n0 ≤ a) :
    Con l Z (⟨"com/example/stochastic_ray_tracer/stochasticraytracer/Rgb", "<init>", "(DDD)V"⟩ : MethodName) prog_57_method_1_code 7 none ws ({ frames := 1, cells := 0, slots := 0, locals := 12 } : Room) #[(.ref a), (.double x), (.double y), (.double z)] h0 (own_Q1 Z a x y z h0 n0) := by
  refine Con.start #[.val (.ref a), .val (.double x), .second, .val (.double y), .second, .val (.double z), .second] (plainFor_of_name own_pn0) (fun m => by first | (refine own_ef ?_; exact rfl) | (simp [entryFrame, mkF, argsToLocals, Value.category]; done) | rfl) ?_
  intro p e s m below meth c s₁ P X0 hx hby hml hret hlk hown hnm hZ e0 hf
  have hml : c.maxLocals = 7 := hml
  have N0 := Fr.nil n0
  have K0 : Keep h0 h0 [a] := Keep.refl _ _
  refine g_aloadN (pc' := 1) X0 hx hby (v := (.ref a)) own_d1_0 rfl rfl rfl ?_
  refine g_initO (pc' := 4) X0 hx hby hZ hown (hw _ (List.mem_of_getElem? (i := 10) rfl)) (hw _ (List.mem_of_getElem? (i := 11) rfl)) (hw _ (List.mem_of_getElem? (i := 12) rfl)) e0 (by rw [hml]; rfl) rfl own_d1_1 rfl (by decide) (W := 0) rfl (by decide) ?_
  intro T1 X1 e1
  refine g_aloadN (pc' := 5) X1 hx hby (v := (.ref a)) own_d1_4 rfl rfl rfl ?_
  refine g_dloadN (pc' := 6) X1 hx hby (v := x) own_d1_5 rfl rfl ?_
  refine g_putF (pc' := 9) X1 hx hby hZ hown (host := "") (Or.inl (hw _ (List.mem_of_getElem? (i := 13) rfl))) Via.refl e1 c1 c0 (Or.inr ⟨(hw _ (List.mem_of_getElem? (i := 14) rfl)), rfl, hnm⟩) (hw _ (List.mem_of_getElem? (i := 3) rfl)) (ty := .double) own_fd0 rfl rfl rfl own_d1_6 rfl N0 c4 ?_
  intro T2 h2 X2 e2 W2 N2
  have f3 := c0.wr W2
  have f4 := c1.same W2
  have f5 := c2.other W2 (Or.inr (slot_ne (Or.inr (hw _ (List.mem_of_getElem? (i := 16) rfl))) (Or.inr (hw _ (List.mem_of_getElem? (i := 14) rfl))) own_nes0 own_fd0 own_fd0))
  have f6 := c3.other W2 (Or.inr (slot_ne (Or.inr (hw _ (List.mem_of_getElem? (i := 18) rfl))) (Or.inr (hw _ (List.mem_of_getElem? (i := 14) rfl))) own_nes1 own_fd0 own_fd0))
  have z2 := Nat.le_trans Z0 (Keep.of_wr W2).1
  have K2 := K0.wr W2 (Or.inl (List.mem_of_getElem? (i := 0) rfl))
  refine g_aloadN (pc' := 10) X2 hx hby (v := (.ref a)) own_d1_9 rfl rfl rfl ?_
  refine g_dloadN (pc' := 11) X2 hx hby (v := y) own_d1_10 rfl rfl ?_
  refine g_putF (pc' := 14) X2 hx hby hZ hown (host := "") (Or.inl (hw _ (List.mem_of_getElem? (i := 15) rfl))) Via.refl e2 f5 f3 (Or.inr ⟨(hw _ (List.mem_of_getElem? (i := 16) rfl)), rfl, hnm⟩) (hw _ (List.mem_of_getElem? (i := 3) rfl)) (ty := .double) own_fd0 rfl rfl rfl own_d1_11 rfl N2 c4 ?_
  intro T7 h7 X7 e7 W7 N7
  have f8 := f3.wr W7
  have f9 := f4.other W7 (Or.inr (slot_ne (Or.inr (hw _ (List.mem_of_getElem? (i := 14) rfl))) (Or.inr (hw _ (List.mem_of_getElem? (i := 16) rfl))) own_nes2 own_fd0 own_fd0))
  have f10 := f5.same W7
  have f11 := f6.other W7 (Or.inr (slot_ne (Or.inr (hw _ (List.mem_of_getElem? (i := 18) rfl))) (Or.inr (hw _ (List.mem_of_getElem? (i := 16) rfl))) own_nes3 own_fd0 own_fd0))
  have z7 := Nat.le_trans z2 (Keep.of_wr W7).1
  have K7 := K2.wr W7 (Or.inl (List.mem_of_getElem? (i := 0) rfl))
  refine g_aloadN (pc' := 15) X7 hx hby (v := (.ref a)) own_d1_14 rfl rfl rfl ?_
  refine g_dload (pc' := 17) X7 hx hby (v := z) own_d1_15 rfl rfl ?_
  refine g_putF (pc' := 20) X7 hx hby hZ hown (host := "") (Or.inl (hw _ (List.mem_of_getElem? (i := 17) rfl))) Via.refl e7 f11 f8 (Or.inr ⟨(hw _ (List.mem_of_getElem? (i := 18) rfl)), rfl, hnm⟩) (hw _ (List.mem_of_getElem? (i := 3) rfl)) (ty := .double) own_fd0 rfl rfl rfl own_d1_17 rfl N7 c4 ?_
  intro T12 h12 X12 e12 W12 N12
  have f13 := f8.wr W12
  have f14 := f9.other W12 (Or.inr (slot_ne (Or.inr (hw _ (List.mem_of_getElem? (i := 14) rfl))) (Or.inr (hw _ (List.mem_of_getElem? (i := 18) rfl))) own_nes4 own_fd0 own_fd0))
  have f15 := f10.other W12 (Or.inr (slot_ne (Or.inr (hw _ (List.mem_of_getElem? (i := 16) rfl))) (Or.inr (hw _ (List.mem_of_getElem? (i := 18) rfl))) own_nes5 own_fd0 own_fd0))
  have f16 := f11.same W12
  have z12 := Nat.le_trans z7 (Keep.of_wr W12).1
  have K12 := K7.wr W12 (Or.inl (List.mem_of_getElem? (i := 0) rfl))
  exact g_ret X12 hx hby hf hlk hret own_d1_20 rfl (by decide) (by decide) e12 ⟨rfl, N12, K12, f13⟩
theorem own_d3_0 : decode prog_34_method_1_code 0 = .ok (.aload_n 0, 1) := by decide +kernel
theorem own_d3_1 : decode prog_34_method_1_code 1 = .ok (.invokespecial 1, 3) := by decide +kernel
theorem own_d3_4 : decode prog_34_method_1_code 4 = .ok (.return_, 1) := by decide +kernel
def own_Q3 (Z : State) (a : Addr) (h0 : Heap) (n0 : Nat) (v : Option Value) (h : Heap) (L : List Loc) : Prop := v = none ∧ Fr n0 L ∧ h = h0
set_option maxRecDepth 65536 in
set_option maxHeartbeats 40000000 in
theorem own_rm3 (l : Launch) (Z : State) (a0 : Array Value) (hw : ∀ d ∈ tables_1, d.before a0 Z = true) (ws : List Jvm.Cond) (a : Addr) (h0 : Heap) (n0 : Nat) (Z0 : n0 ≤ h0.size) :
    Con l Z (⟨"com/example/stochastic_ray_tracer/stochasticraytracer/LightSample", "<init>", "()V"⟩ : MethodName) prog_34_method_1_code 1 none ws ({ frames := 1, cells := 0, slots := 0, locals := 12 } : Room) #[(.ref a)] h0 (own_Q3 Z a h0 n0) := by
  refine Con.start #[.val (.ref a)] (plainFor_of_name own_pn1) (fun m => by first | (refine own_ef ?_; exact rfl) | (simp [entryFrame, mkF, argsToLocals, Value.category]; done) | rfl) ?_
  intro p e s m below meth c s₁ P X0 hx hby hml hret hlk hown hnm hZ e0 hf
  have hml : c.maxLocals = 1 := hml
  have N0 := Fr.nil n0
  refine g_aloadN (pc' := 1) X0 hx hby (v := (.ref a)) own_d3_0 rfl rfl rfl ?_
  refine g_initO (pc' := 4) X0 hx hby hZ hown (hw _ (List.mem_of_getElem? (i := 25) rfl)) (hw _ (List.mem_of_getElem? (i := 11) rfl)) (hw _ (List.mem_of_getElem? (i := 12) rfl)) e0 (by rw [hml]; rfl) rfl own_d3_1 rfl (by decide) (W := 0) rfl (by decide) ?_
  intro T1 X1 e1
  exact g_ret X1 hx hby hf hlk hret own_d3_4 rfl (by decide) (by decide) e1 ⟨rfl, N0, rfl⟩
theorem own_d4_0 : decode prog_34_method_2_code 0 = .ok (.aload_n 0, 1) := by decide +kernel
theorem own_d4_1 : decode prog_34_method_2_code 1 = .ok (.dload_n 1, 1) := by decide +kernel
theorem own_d4_2 : decode prog_34_method_2_code 2 = .ok (.putfield 7, 3) := by decide +kernel
theorem own_d4_5 : decode prog_34_method_2_code 5 = .ok (.aload_n 0, 1) := by decide +kernel
theorem own_d4_6 : decode prog_34_method_2_code 6 = .ok (.dload_n 3, 1) := by decide +kernel
theorem own_d4_7 : decode prog_34_method_2_code 7 = .ok (.putfield 13, 3) := by decide +kernel
theorem own_d4_10 : decode prog_34_method_2_code 10 = .ok (.aload_n 0, 1) := by decide +kernel
theorem own_d4_11 : decode prog_34_method_2_code 11 = .ok (.dload 5, 2) := by decide +kernel
theorem own_d4_13 : decode prog_34_method_2_code 13 = .ok (.putfield 16, 3) := by decide +kernel
theorem own_d4_16 : decode prog_34_method_2_code 16 = .ok (.aload_n 0, 1) := by decide +kernel
theorem own_d4_17 : decode prog_34_method_2_code 17 = .ok (.dload 7, 2) := by decide +kernel
theorem own_d4_19 : decode prog_34_method_2_code 19 = .ok (.putfield 19, 3) := by decide +kernel
theorem own_d4_22 : decode prog_34_method_2_code 22 = .ok (.aload_n 0, 1) := by decide +kernel
theorem own_d4_23 : decode prog_34_method_2_code 23 = .ok (.dload 9, 2) := by decide +kernel
theorem own_d4_25 : decode prog_34_method_2_code 25 = .ok (.putfield 22, 3) := by decide +kernel
theorem own_d4_28 : decode prog_34_method_2_code 28 = .ok (.aload_n 0, 1) := by decide +kernel
theorem own_d4_29 : decode prog_34_method_2_code 29 = .ok (.dload 11, 2) := by decide +kernel
theorem own_d4_31 : decode prog_34_method_2_code 31 = .ok (.putfield 25, 3) := by decide +kernel
theorem own_d4_34 : decode prog_34_method_2_code 34 = .ok (.aload_n 0, 1) := by decide +kernel
theorem own_d4_35 : decode prog_34_method_2_code 35 = .ok (.aload 13, 2) := by decide +kernel
theorem own_d4_37 : decode prog_34_method_2_code 37 = .ok (.putfield 28, 3) := by decide +kernel
theorem own_d4_40 : decode prog_34_method_2_code 40 = .ok (.aload_n 0, 1) := by decide +kernel
theorem own_d4_41 : decode prog_34_method_2_code 41 = .ok (.dload 14, 2) := by decide +kernel
theorem own_d4_43 : decode prog_34_method_2_code 43 = .ok (.putfield 32, 3) := by decide +kernel
theorem own_d4_46 : decode prog_34_method_2_code 46 = .ok (.aload_n 0, 1) := by decide +kernel
theorem own_d4_47 : decode prog_34_method_2_code 47 = .ok (.dload 16, 2) := by decide +kernel
theorem own_d4_49 : decode prog_34_method_2_code 49 = .ok (.putfield 35, 3) := by decide +kernel
theorem own_d4_52 : decode prog_34_method_2_code 52 = .ok (.return_, 1) := by decide +kernel
def own_Q4 (Z : State) (a : Addr) (px : UInt64) (py : UInt64) (pz : UInt64) (nx : UInt64) (ny : UInt64) (nz : UInt64) (ra : Addr) (de : UInt64) (di : UInt64) (w0 : Value) (w1 : Value) (w2 : Value) (w3 : Value) (w4 : Value) (w5 : Value) (w6 : Value) (w7 : Value) (w8 : Value) (h0 : Heap) (n0 : Nat) (v : Option Value) (h : Heap) (L : List Loc) : Prop := v = none ∧ Fr n0 L ∧ Keep h0 h [a] ∧ Exa Z h a "com/example/stochastic_ray_tracer/stochasticraytracer/LightSample" ∧ Fld Z h a "com/example/stochastic_ray_tracer/stochasticraytracer/LightSample" "pointX" "D" (.double px) ∧ Fld Z h a "com/example/stochastic_ray_tracer/stochasticraytracer/LightSample" "pointY" "D" (.double py) ∧ Fld Z h a "com/example/stochastic_ray_tracer/stochasticraytracer/LightSample" "pointZ" "D" (.double pz) ∧ Fld Z h a "com/example/stochastic_ray_tracer/stochasticraytracer/LightSample" "normalX" "D" (.double nx) ∧ Fld Z h a "com/example/stochastic_ray_tracer/stochasticraytracer/LightSample" "normalY" "D" (.double ny) ∧ Fld Z h a "com/example/stochastic_ray_tracer/stochasticraytracer/LightSample" "normalZ" "D" (.double nz) ∧ Fld Z h a "com/example/stochastic_ray_tracer/stochasticraytracer/LightSample" "radiance" "Lcom/example/stochastic_ray_tracer/stochasticraytracer/Rgb;" (.ref ra) ∧ Fld Z h a "com/example/stochastic_ray_tracer/stochasticraytracer/LightSample" "density" "D" (.double de) ∧ Fld Z h a "com/example/stochastic_ray_tracer/stochasticraytracer/LightSample" "distance" "D" (.double di)
set_option maxRecDepth 65536 in
set_option maxHeartbeats 40000000 in
theorem own_rm4 (l : Launch) (Z : State) (a0 : Array Value) (hw : ∀ d ∈ tables_1, d.before a0 Z = true) (ws : List Jvm.Cond) (a : Addr) (px : UInt64) (py : UInt64) (pz : UInt64) (nx : UInt64) (ny : UInt64) (nz : UInt64) (ra : Addr) (de : UInt64) (di : UInt64) (w0 : Value) (w1 : Value) (w2 : Value) (w3 : Value) (w4 : Value) (w5 : Value) (w6 : Value) (w7 : Value) (w8 : Value) (h0 : Heap) (n0 : Nat) (Z0 : n0 ≤ h0.size) (c0 : Exa Z h0 a "com/example/stochastic_ray_tracer/stochasticraytracer/LightSample") (c1 : Fld Z h0 a "com/example/stochastic_ray_tracer/stochasticraytracer/LightSample" "pointX" "D" w0) (c2 : Fld Z h0 a "com/example/stochastic_ray_tracer/stochasticraytracer/LightSample" "pointY" "D" w1) (c3 : Fld Z h0 a "com/example/stochastic_ray_tracer/stochasticraytracer/LightSample" "pointZ" "D" w2) (c4 : Fld Z h0 a "com/example/stochastic_ray_tracer/stochasticraytracer/LightSample" "normalX" "D" w3) (c5 : Fld Z h0 a "com/example/stochastic_ray_tracer/stochasticraytracer/LightSample" "normalY" "D" w4) (c6 : Fld Z h0 a "com/example/stochastic_ray_tracer/stochasticraytracer/LightSample" "normalZ" "D" w5) (c7 : Fld Z h0 a "com/example/stochastic_ray_tracer/stochasticraytracer/LightSample" "radiance" "Lcom/example/stochastic_ray_tracer/stochasticraytracer/Rgb;" w6) (c8 : Fld Z h0 a "com/example/stochastic_ray_tracer/stochasticraytracer/LightSample" "density" "D" w7) (c9 : Fld Z h0 a "com/example/stochastic_ray_tracer/stochasticraytracer/LightSample" "distance" "D" w8) (c10 : n0 ≤ a) :
    Con l Z (⟨"com/example/stochastic_ray_tracer/stochasticraytracer/LightSample", "set", "(DDDDDDLcom/example/stochastic_ray_tracer/stochasticraytracer/Rgb;DD)V"⟩ : MethodName) prog_34_method_2_code 18 none ws ({ frames := 0, cells := 0, slots := 0, locals := 0 } : Room) #[(.ref a), (.double px), (.double py), (.double pz), (.double nx), (.double ny), (.double nz), (.ref ra), (.double de), (.double di)] h0 (own_Q4 Z a px py pz nx ny nz ra de di w0 w1 w2 w3 w4 w5 w6 w7 w8 h0 n0) := by
  refine Con.start #[.val (.ref a), .val (.double px), .second, .val (.double py), .second, .val (.double pz), .second, .val (.double nx), .second, .val (.double ny), .second, .val (.double nz), .second, .val (.ref ra), .val (.double de), .second, .val (.double di), .second] (plainFor_of_name own_pn1) (fun m => by first | (refine own_ef ?_; exact rfl) | (simp [entryFrame, mkF, argsToLocals, Value.category]; done) | rfl) ?_
  intro p e s m below meth c s₁ P X0 hx hby hml hret hlk hown hnm hZ e0 hf
  have hml : c.maxLocals = 18 := hml
  have N0 := Fr.nil n0
  have K0 : Keep h0 h0 [a] := Keep.refl _ _
  refine g_aloadN (pc' := 1) X0 hx hby (v := (.ref a)) own_d4_0 rfl rfl rfl ?_
  refine g_dloadN (pc' := 2) X0 hx hby (v := px) own_d4_1 rfl rfl ?_
  refine g_putF (pc' := 5) X0 hx hby hZ hown (host := "") (Or.inl (hw _ (List.mem_of_getElem? (i := 31) rfl))) Via.refl e0 c1 c0 (Or.inl (hw _ (List.mem_of_getElem? (i := 32) rfl))) (hw _ (List.mem_of_getElem? (i := 20) rfl)) (ty := .double) own_fd0 rfl rfl rfl own_d4_2 rfl N0 c10 ?_
  intro T1 h1 X1 e1 W1 N1
  have f2 := c0.wr W1
  have f3 := c1.same W1
  have f4 := c2.other W1 (Or.inr (slot_ne (Or.inl (hw _ (List.mem_of_getElem? (i := 34) rfl))) (Or.inl (hw _ (List.mem_of_getElem? (i := 32) rfl))) own_nes6 own_fd0 own_fd0))
  have f5 := c3.other W1 (Or.inr (slot_ne (Or.inl (hw _ (List.mem_of_getElem? (i := 36) rfl))) (Or.inl (hw _ (List.mem_of_getElem? (i := 32) rfl))) own_nes7 own_fd0 own_fd0))
  have f6 := c4.other W1 (Or.inr (slot_ne (Or.inl (hw _ (List.mem_of_getElem? (i := 38) rfl))) (Or.inl (hw _ (List.mem_of_getElem? (i := 32) rfl))) own_nes8 own_fd0 own_fd0))
  have f7 := c5.other W1 (Or.inr (slot_ne (Or.inl (hw _ (List.mem_of_getElem? (i := 40) rfl))) (Or.inl (hw _ (List.mem_of_getElem? (i := 32) rfl))) own_nes9 own_fd0 own_fd0))
  have f8 := c6.other W1 (Or.inr (slot_ne (Or.inl (hw _ (List.mem_of_getElem? (i := 42) rfl))) (Or.inl (hw _ (List.mem_of_getElem? (i := 32) rfl))) own_nes10 own_fd0 own_fd0))
  have f9 := c7.other W1 (Or.inr (slot_ne (Or.inl (hw _ (List.mem_of_getElem? (i := 44) rfl))) (Or.inl (hw _ (List.mem_of_getElem? (i := 32) rfl))) own_nes11 own_fd1 own_fd0))
  have f10 := c8.other W1 (Or.inr (slot_ne (Or.inl (hw _ (List.mem_of_getElem? (i := 46) rfl))) (Or.inl (hw _ (List.mem_of_getElem? (i := 32) rfl))) own_nes12 own_fd0 own_fd0))
  have f11 := c9.other W1 (Or.inr (slot_ne (Or.inl (hw _ (List.mem_of_getElem? (i := 48) rfl))) (Or.inl (hw _ (List.mem_of_getElem? (i := 32) rfl))) own_nes13 own_fd0 own_fd0))
  have z1 := Nat.le_trans Z0 (Keep.of_wr W1).1
  have K1 := K0.wr W1 (Or.inl (List.mem_of_getElem? (i := 0) rfl))
  refine g_aloadN (pc' := 6) X1 hx hby (v := (.ref a)) own_d4_5 rfl rfl rfl ?_
  refine g_dloadN (pc' := 7) X1 hx hby (v := py) own_d4_6 rfl rfl ?_
  refine g_putF (pc' := 10) X1 hx hby hZ hown (host := "") (Or.inl (hw _ (List.mem_of_getElem? (i := 33) rfl))) Via.refl e1 f4 f2 (Or.inl (hw _ (List.mem_of_getElem? (i := 34) rfl))) (hw _ (List.mem_of_getElem? (i := 20) rfl)) (ty := .double) own_fd0 rfl rfl rfl own_d4_7 rfl N1 c10 ?_
  intro T12 h12 X12 e12 W12 N12
  have f13 := f2.wr W12
  have f14 := f3.other W12 (Or.inr (slot_ne (Or.inl (hw _ (List.mem_of_getElem? (i := 32) rfl))) (Or.inl (hw _ (List.mem_of_getElem? (i := 34) rfl))) own_nes14 own_fd0 own_fd0))
  have f15 := f4.same W12
  have f16 := f5.other W12 (Or.inr (slot_ne (Or.inl (hw _ (List.mem_of_getElem? (i := 36) rfl))) (Or.inl (hw _ (List.mem_of_getElem? (i := 34) rfl))) own_nes15 own_fd0 own_fd0))
  have f17 := f6.other W12 (Or.inr (slot_ne (Or.inl (hw _ (List.mem_of_getElem? (i := 38) rfl))) (Or.inl (hw _ (List.mem_of_getElem? (i := 34) rfl))) own_nes16 own_fd0 own_fd0))
  have f18 := f7.other W12 (Or.inr (slot_ne (Or.inl (hw _ (List.mem_of_getElem? (i := 40) rfl))) (Or.inl (hw _ (List.mem_of_getElem? (i := 34) rfl))) own_nes17 own_fd0 own_fd0))
  have f19 := f8.other W12 (Or.inr (slot_ne (Or.inl (hw _ (List.mem_of_getElem? (i := 42) rfl))) (Or.inl (hw _ (List.mem_of_getElem? (i := 34) rfl))) own_nes18 own_fd0 own_fd0))
  have f20 := f9.other W12 (Or.inr (slot_ne (Or.inl (hw _ (List.mem_of_getElem? (i := 44) rfl))) (Or.inl (hw _ (List.mem_of_getElem? (i := 34) rfl))) own_nes19 own_fd1 own_fd0))
  have f21 := f10.other W12 (Or.inr (slot_ne (Or.inl (hw _ (List.mem_of_getElem? (i := 46) rfl))) (Or.inl (hw _ (List.mem_of_getElem? (i := 34) rfl))) own_nes20 own_fd0 own_fd0))
  have f22 := f11.other W12 (Or.inr (slot_ne (Or.inl (hw _ (List.mem_of_getElem? (i := 48) rfl))) (Or.inl (hw _ (List.mem_of_getElem? (i := 34) rfl))) own_nes21 own_fd0 own_fd0))
  have z12 := Nat.le_trans z1 (Keep.of_wr W12).1
  have K12 := K1.wr W12 (Or.inl (List.mem_of_getElem? (i := 0) rfl))
  refine g_aloadN (pc' := 11) X12 hx hby (v := (.ref a)) own_d4_10 rfl rfl rfl ?_
  refine g_dload (pc' := 13) X12 hx hby (v := pz) own_d4_11 rfl rfl ?_
  refine g_putF (pc' := 16) X12 hx hby hZ hown (host := "") (Or.inl (hw _ (List.mem_of_getElem? (i := 35) rfl))) Via.refl e12 f16 f13 (Or.inl (hw _ (List.mem_of_getElem? (i := 36) rfl))) (hw _ (List.mem_of_getElem? (i := 20) rfl)) (ty := .double) own_fd0 rfl rfl rfl own_d4_13 rfl N12 c10 ?_
  intro T23 h23 X23 e23 W23 N23
  have f24 := f13.wr W23
  have f25 := f14.other W23 (Or.inr (slot_ne (Or.inl (hw _ (List.mem_of_getElem? (i := 32) rfl))) (Or.inl (hw _ (List.mem_of_getElem? (i := 36) rfl))) own_nes22 own_fd0 own_fd0))
  have f26 := f15.other W23 (Or.inr (slot_ne (Or.inl (hw _ (List.mem_of_getElem? (i := 34) rfl))) (Or.inl (hw _ (List.mem_of_getElem? (i := 36) rfl))) own_nes23 own_fd0 own_fd0))
  have f27 := f16.same W23
  have f28 := f17.other W23 (Or.inr (slot_ne (Or.inl (hw _ (List.mem_of_getElem? (i := 38) rfl))) (Or.inl (hw _ (List.mem_of_getElem? (i := 36) rfl))) own_nes24 own_fd0 own_fd0))
  have f29 := f18.other W23 (Or.inr (slot_ne (Or.inl (hw _ (List.mem_of_getElem? (i := 40) rfl))) (Or.inl (hw _ (List.mem_of_getElem? (i := 36) rfl))) own_nes25 own_fd0 own_fd0))
  have f30 := f19.other W23 (Or.inr (slot_ne (Or.inl (hw _ (List.mem_of_getElem? (i := 42) rfl))) (Or.inl (hw _ (List.mem_of_getElem? (i := 36) rfl))) own_nes26 own_fd0 own_fd0))
  have f31 := f20.other W23 (Or.inr (slot_ne (Or.inl (hw _ (List.mem_of_getElem? (i := 44) rfl))) (Or.inl (hw _ (List.mem_of_getElem? (i := 36) rfl))) own_nes27 own_fd1 own_fd0))
  have f32 := f21.other W23 (Or.inr (slot_ne (Or.inl (hw _ (List.mem_of_getElem? (i := 46) rfl))) (Or.inl (hw _ (List.mem_of_getElem? (i := 36) rfl))) own_nes28 own_fd0 own_fd0))
  have f33 := f22.other W23 (Or.inr (slot_ne (Or.inl (hw _ (List.mem_of_getElem? (i := 48) rfl))) (Or.inl (hw _ (List.mem_of_getElem? (i := 36) rfl))) own_nes29 own_fd0 own_fd0))
  have z23 := Nat.le_trans z12 (Keep.of_wr W23).1
  have K23 := K12.wr W23 (Or.inl (List.mem_of_getElem? (i := 0) rfl))
  refine g_aloadN (pc' := 17) X23 hx hby (v := (.ref a)) own_d4_16 rfl rfl rfl ?_
  refine g_dload (pc' := 19) X23 hx hby (v := nx) own_d4_17 rfl rfl ?_
  refine g_putF (pc' := 22) X23 hx hby hZ hown (host := "") (Or.inl (hw _ (List.mem_of_getElem? (i := 37) rfl))) Via.refl e23 f28 f24 (Or.inl (hw _ (List.mem_of_getElem? (i := 38) rfl))) (hw _ (List.mem_of_getElem? (i := 20) rfl)) (ty := .double) own_fd0 rfl rfl rfl own_d4_19 rfl N23 c10 ?_
  intro T34 h34 X34 e34 W34 N34
  have f35 := f24.wr W34
  have f36 := f25.other W34 (Or.inr (slot_ne (Or.inl (hw _ (List.mem_of_getElem? (i := 32) rfl))) (Or.inl (hw _ (List.mem_of_getElem? (i := 38) rfl))) own_nes30 own_fd0 own_fd0))
  have f37 := f26.other W34 (Or.inr (slot_ne (Or.inl (hw _ (List.mem_of_getElem? (i := 34) rfl))) (Or.inl (hw _ (List.mem_of_getElem? (i := 38) rfl))) own_nes31 own_fd0 own_fd0))
  have f38 := f27.other W34 (Or.inr (slot_ne (Or.inl (hw _ (List.mem_of_getElem? (i := 36) rfl))) (Or.inl (hw _ (List.mem_of_getElem? (i := 38) rfl))) own_nes32 own_fd0 own_fd0))
  have f39 := f28.same W34
  have f40 := f29.other W34 (Or.inr (slot_ne (Or.inl (hw _ (List.mem_of_getElem? (i := 40) rfl))) (Or.inl (hw _ (List.mem_of_getElem? (i := 38) rfl))) own_nes33 own_fd0 own_fd0))
  have f41 := f30.other W34 (Or.inr (slot_ne (Or.inl (hw _ (List.mem_of_getElem? (i := 42) rfl))) (Or.inl (hw _ (List.mem_of_getElem? (i := 38) rfl))) own_nes34 own_fd0 own_fd0))
  have f42 := f31.other W34 (Or.inr (slot_ne (Or.inl (hw _ (List.mem_of_getElem? (i := 44) rfl))) (Or.inl (hw _ (List.mem_of_getElem? (i := 38) rfl))) own_nes35 own_fd1 own_fd0))
  have f43 := f32.other W34 (Or.inr (slot_ne (Or.inl (hw _ (List.mem_of_getElem? (i := 46) rfl))) (Or.inl (hw _ (List.mem_of_getElem? (i := 38) rfl))) own_nes36 own_fd0 own_fd0))
  have f44 := f33.other W34 (Or.inr (slot_ne (Or.inl (hw _ (List.mem_of_getElem? (i := 48) rfl))) (Or.inl (hw _ (List.mem_of_getElem? (i := 38) rfl))) own_nes37 own_fd0 own_fd0))
  have z34 := Nat.le_trans z23 (Keep.of_wr W34).1
  have K34 := K23.wr W34 (Or.inl (List.mem_of_getElem? (i := 0) rfl))
  refine g_aloadN (pc' := 23) X34 hx hby (v := (.ref a)) own_d4_22 rfl rfl rfl ?_
  refine g_dload (pc' := 25) X34 hx hby (v := ny) own_d4_23 rfl rfl ?_
  refine g_putF (pc' := 28) X34 hx hby hZ hown (host := "") (Or.inl (hw _ (List.mem_of_getElem? (i := 39) rfl))) Via.refl e34 f40 f35 (Or.inl (hw _ (List.mem_of_getElem? (i := 40) rfl))) (hw _ (List.mem_of_getElem? (i := 20) rfl)) (ty := .double) own_fd0 rfl rfl rfl own_d4_25 rfl N34 c10 ?_
  intro T45 h45 X45 e45 W45 N45
  have f46 := f35.wr W45
  have f47 := f36.other W45 (Or.inr (slot_ne (Or.inl (hw _ (List.mem_of_getElem? (i := 32) rfl))) (Or.inl (hw _ (List.mem_of_getElem? (i := 40) rfl))) own_nes38 own_fd0 own_fd0))
  have f48 := f37.other W45 (Or.inr (slot_ne (Or.inl (hw _ (List.mem_of_getElem? (i := 34) rfl))) (Or.inl (hw _ (List.mem_of_getElem? (i := 40) rfl))) own_nes39 own_fd0 own_fd0))
  have f49 := f38.other W45 (Or.inr (slot_ne (Or.inl (hw _ (List.mem_of_getElem? (i := 36) rfl))) (Or.inl (hw _ (List.mem_of_getElem? (i := 40) rfl))) own_nes40 own_fd0 own_fd0))
  have f50 := f39.other W45 (Or.inr (slot_ne (Or.inl (hw _ (List.mem_of_getElem? (i := 38) rfl))) (Or.inl (hw _ (List.mem_of_getElem? (i := 40) rfl))) own_nes41 own_fd0 own_fd0))
  have f51 := f40.same W45
  have f52 := f41.other W45 (Or.inr (slot_ne (Or.inl (hw _ (List.mem_of_getElem? (i := 42) rfl))) (Or.inl (hw _ (List.mem_of_getElem? (i := 40) rfl))) own_nes42 own_fd0 own_fd0))
  have f53 := f42.other W45 (Or.inr (slot_ne (Or.inl (hw _ (List.mem_of_getElem? (i := 44) rfl))) (Or.inl (hw _ (List.mem_of_getElem? (i := 40) rfl))) own_nes43 own_fd1 own_fd0))
  have f54 := f43.other W45 (Or.inr (slot_ne (Or.inl (hw _ (List.mem_of_getElem? (i := 46) rfl))) (Or.inl (hw _ (List.mem_of_getElem? (i := 40) rfl))) own_nes44 own_fd0 own_fd0))
  have f55 := f44.other W45 (Or.inr (slot_ne (Or.inl (hw _ (List.mem_of_getElem? (i := 48) rfl))) (Or.inl (hw _ (List.mem_of_getElem? (i := 40) rfl))) own_nes45 own_fd0 own_fd0))
  have z45 := Nat.le_trans z34 (Keep.of_wr W45).1
  have K45 := K34.wr W45 (Or.inl (List.mem_of_getElem? (i := 0) rfl))
  refine g_aloadN (pc' := 29) X45 hx hby (v := (.ref a)) own_d4_28 rfl rfl rfl ?_
  refine g_dload (pc' := 31) X45 hx hby (v := nz) own_d4_29 rfl rfl ?_
  refine g_putF (pc' := 34) X45 hx hby hZ hown (host := "") (Or.inl (hw _ (List.mem_of_getElem? (i := 41) rfl))) Via.refl e45 f52 f46 (Or.inl (hw _ (List.mem_of_getElem? (i := 42) rfl))) (hw _ (List.mem_of_getElem? (i := 20) rfl)) (ty := .double) own_fd0 rfl rfl rfl own_d4_31 rfl N45 c10 ?_
  intro T56 h56 X56 e56 W56 N56
  have f57 := f46.wr W56
  have f58 := f47.other W56 (Or.inr (slot_ne (Or.inl (hw _ (List.mem_of_getElem? (i := 32) rfl))) (Or.inl (hw _ (List.mem_of_getElem? (i := 42) rfl))) own_nes46 own_fd0 own_fd0))
  have f59 := f48.other W56 (Or.inr (slot_ne (Or.inl (hw _ (List.mem_of_getElem? (i := 34) rfl))) (Or.inl (hw _ (List.mem_of_getElem? (i := 42) rfl))) own_nes47 own_fd0 own_fd0))
  have f60 := f49.other W56 (Or.inr (slot_ne (Or.inl (hw _ (List.mem_of_getElem? (i := 36) rfl))) (Or.inl (hw _ (List.mem_of_getElem? (i := 42) rfl))) own_nes48 own_fd0 own_fd0))
  have f61 := f50.other W56 (Or.inr (slot_ne (Or.inl (hw _ (List.mem_of_getElem? (i := 38) rfl))) (Or.inl (hw _ (List.mem_of_getElem? (i := 42) rfl))) own_nes49 own_fd0 own_fd0))
  have f62 := f51.other W56 (Or.inr (slot_ne (Or.inl (hw _ (List.mem_of_getElem? (i := 40) rfl))) (Or.inl (hw _ (List.mem_of_getElem? (i := 42) rfl))) own_nes50 own_fd0 own_fd0))
  have f63 := f52.same W56
  have f64 := f53.other W56 (Or.inr (slot_ne (Or.inl (hw _ (List.mem_of_getElem? (i := 44) rfl))) (Or.inl (hw _ (List.mem_of_getElem? (i := 42) rfl))) own_nes51 own_fd1 own_fd0))
  have f65 := f54.other W56 (Or.inr (slot_ne (Or.inl (hw _ (List.mem_of_getElem? (i := 46) rfl))) (Or.inl (hw _ (List.mem_of_getElem? (i := 42) rfl))) own_nes52 own_fd0 own_fd0))
  have f66 := f55.other W56 (Or.inr (slot_ne (Or.inl (hw _ (List.mem_of_getElem? (i := 48) rfl))) (Or.inl (hw _ (List.mem_of_getElem? (i := 42) rfl))) own_nes53 own_fd0 own_fd0))
  have z56 := Nat.le_trans z45 (Keep.of_wr W56).1
  have K56 := K45.wr W56 (Or.inl (List.mem_of_getElem? (i := 0) rfl))
  refine g_aloadN (pc' := 35) X56 hx hby (v := (.ref a)) own_d4_34 rfl rfl rfl ?_
  refine g_aload (pc' := 37) X56 hx hby (v := (.ref ra)) own_d4_35 rfl rfl rfl ?_
  refine g_putF (pc' := 40) X56 hx hby hZ hown (host := "") (Or.inl (hw _ (List.mem_of_getElem? (i := 43) rfl))) Via.refl e56 f64 f57 (Or.inl (hw _ (List.mem_of_getElem? (i := 44) rfl))) (hw _ (List.mem_of_getElem? (i := 20) rfl)) (ty := (.object "com/example/stochastic_ray_tracer/stochasticraytracer/Rgb")) own_fd1 rfl rfl rfl own_d4_37 rfl N56 c10 ?_
  intro T67 h67 X67 e67 W67 N67
  have f68 := f57.wr W67
  have f69 := f58.other W67 (Or.inr (slot_ne (Or.inl (hw _ (List.mem_of_getElem? (i := 32) rfl))) (Or.inl (hw _ (List.mem_of_getElem? (i := 44) rfl))) own_nes54 own_fd0 own_fd1))
  have f70 := f59.other W67 (Or.inr (slot_ne (Or.inl (hw _ (List.mem_of_getElem? (i := 34) rfl))) (Or.inl (hw _ (List.mem_of_getElem? (i := 44) rfl))) own_nes55 own_fd0 own_fd1))
  have f71 := f60.other W67 (Or.inr (slot_ne (Or.inl (hw _ (List.mem_of_getElem? (i := 36) rfl))) (Or.inl (hw _ (List.mem_of_getElem? (i := 44) rfl))) own_nes56 own_fd0 own_fd1))
  have f72 := f61.other W67 (Or.inr (slot_ne (Or.inl (hw _ (List.mem_of_getElem? (i := 38) rfl))) (Or.inl (hw _ (List.mem_of_getElem? (i := 44) rfl))) own_nes57 own_fd0 own_fd1))
  have f73 := f62.other W67 (Or.inr (slot_ne (Or.inl (hw _ (List.mem_of_getElem? (i := 40) rfl))) (Or.inl (hw _ (List.mem_of_getElem? (i := 44) rfl))) own_nes58 own_fd0 own_fd1))
  have f74 := f63.other W67 (Or.inr (slot_ne (Or.inl (hw _ (List.mem_of_getElem? (i := 42) rfl))) (Or.inl (hw _ (List.mem_of_getElem? (i := 44) rfl))) own_nes59 own_fd0 own_fd1))
  have f75 := f64.same W67
  have f76 := f65.other W67 (Or.inr (slot_ne (Or.inl (hw _ (List.mem_of_getElem? (i := 46) rfl))) (Or.inl (hw _ (List.mem_of_getElem? (i := 44) rfl))) own_nes60 own_fd0 own_fd1))
  have f77 := f66.other W67 (Or.inr (slot_ne (Or.inl (hw _ (List.mem_of_getElem? (i := 48) rfl))) (Or.inl (hw _ (List.mem_of_getElem? (i := 44) rfl))) own_nes61 own_fd0 own_fd1))
  have z67 := Nat.le_trans z56 (Keep.of_wr W67).1
  have K67 := K56.wr W67 (Or.inl (List.mem_of_getElem? (i := 0) rfl))
  refine g_aloadN (pc' := 41) X67 hx hby (v := (.ref a)) own_d4_40 rfl rfl rfl ?_
  refine g_dload (pc' := 43) X67 hx hby (v := de) own_d4_41 rfl rfl ?_
  refine g_putF (pc' := 46) X67 hx hby hZ hown (host := "") (Or.inl (hw _ (List.mem_of_getElem? (i := 45) rfl))) Via.refl e67 f76 f68 (Or.inl (hw _ (List.mem_of_getElem? (i := 46) rfl))) (hw _ (List.mem_of_getElem? (i := 20) rfl)) (ty := .double) own_fd0 rfl rfl rfl own_d4_43 rfl N67 c10 ?_
  intro T78 h78 X78 e78 W78 N78
  have f79 := f68.wr W78
  have f80 := f69.other W78 (Or.inr (slot_ne (Or.inl (hw _ (List.mem_of_getElem? (i := 32) rfl))) (Or.inl (hw _ (List.mem_of_getElem? (i := 46) rfl))) own_nes62 own_fd0 own_fd0))
  have f81 := f70.other W78 (Or.inr (slot_ne (Or.inl (hw _ (List.mem_of_getElem? (i := 34) rfl))) (Or.inl (hw _ (List.mem_of_getElem? (i := 46) rfl))) own_nes63 own_fd0 own_fd0))
  have f82 := f71.other W78 (Or.inr (slot_ne (Or.inl (hw _ (List.mem_of_getElem? (i := 36) rfl))) (Or.inl (hw _ (List.mem_of_getElem? (i := 46) rfl))) own_nes64 own_fd0 own_fd0))
  have f83 := f72.other W78 (Or.inr (slot_ne (Or.inl (hw _ (List.mem_of_getElem? (i := 38) rfl))) (Or.inl (hw _ (List.mem_of_getElem? (i := 46) rfl))) own_nes65 own_fd0 own_fd0))
  have f84 := f73.other W78 (Or.inr (slot_ne (Or.inl (hw _ (List.mem_of_getElem? (i := 40) rfl))) (Or.inl (hw _ (List.mem_of_getElem? (i := 46) rfl))) own_nes66 own_fd0 own_fd0))
  have f85 := f74.other W78 (Or.inr (slot_ne (Or.inl (hw _ (List.mem_of_getElem? (i := 42) rfl))) (Or.inl (hw _ (List.mem_of_getElem? (i := 46) rfl))) own_nes67 own_fd0 own_fd0))
  have f86 := f75.other W78 (Or.inr (slot_ne (Or.inl (hw _ (List.mem_of_getElem? (i := 44) rfl))) (Or.inl (hw _ (List.mem_of_getElem? (i := 46) rfl))) own_nes68 own_fd1 own_fd0))
  have f87 := f76.same W78
  have f88 := f77.other W78 (Or.inr (slot_ne (Or.inl (hw _ (List.mem_of_getElem? (i := 48) rfl))) (Or.inl (hw _ (List.mem_of_getElem? (i := 46) rfl))) own_nes69 own_fd0 own_fd0))
  have z78 := Nat.le_trans z67 (Keep.of_wr W78).1
  have K78 := K67.wr W78 (Or.inl (List.mem_of_getElem? (i := 0) rfl))
  refine g_aloadN (pc' := 47) X78 hx hby (v := (.ref a)) own_d4_46 rfl rfl rfl ?_
  refine g_dload (pc' := 49) X78 hx hby (v := di) own_d4_47 rfl rfl ?_
  refine g_putF (pc' := 52) X78 hx hby hZ hown (host := "") (Or.inl (hw _ (List.mem_of_getElem? (i := 47) rfl))) Via.refl e78 f88 f79 (Or.inl (hw _ (List.mem_of_getElem? (i := 48) rfl))) (hw _ (List.mem_of_getElem? (i := 20) rfl)) (ty := .double) own_fd0 rfl rfl rfl own_d4_49 rfl N78 c10 ?_
  intro T89 h89 X89 e89 W89 N89
  have f90 := f79.wr W89
  have f91 := f80.other W89 (Or.inr (slot_ne (Or.inl (hw _ (List.mem_of_getElem? (i := 32) rfl))) (Or.inl (hw _ (List.mem_of_getElem? (i := 48) rfl))) own_nes70 own_fd0 own_fd0))
  have f92 := f81.other W89 (Or.inr (slot_ne (Or.inl (hw _ (List.mem_of_getElem? (i := 34) rfl))) (Or.inl (hw _ (List.mem_of_getElem? (i := 48) rfl))) own_nes71 own_fd0 own_fd0))
  have f93 := f82.other W89 (Or.inr (slot_ne (Or.inl (hw _ (List.mem_of_getElem? (i := 36) rfl))) (Or.inl (hw _ (List.mem_of_getElem? (i := 48) rfl))) own_nes72 own_fd0 own_fd0))
  have f94 := f83.other W89 (Or.inr (slot_ne (Or.inl (hw _ (List.mem_of_getElem? (i := 38) rfl))) (Or.inl (hw _ (List.mem_of_getElem? (i := 48) rfl))) own_nes73 own_fd0 own_fd0))
  have f95 := f84.other W89 (Or.inr (slot_ne (Or.inl (hw _ (List.mem_of_getElem? (i := 40) rfl))) (Or.inl (hw _ (List.mem_of_getElem? (i := 48) rfl))) own_nes74 own_fd0 own_fd0))
  have f96 := f85.other W89 (Or.inr (slot_ne (Or.inl (hw _ (List.mem_of_getElem? (i := 42) rfl))) (Or.inl (hw _ (List.mem_of_getElem? (i := 48) rfl))) own_nes75 own_fd0 own_fd0))
  have f97 := f86.other W89 (Or.inr (slot_ne (Or.inl (hw _ (List.mem_of_getElem? (i := 44) rfl))) (Or.inl (hw _ (List.mem_of_getElem? (i := 48) rfl))) own_nes76 own_fd1 own_fd0))
  have f98 := f87.other W89 (Or.inr (slot_ne (Or.inl (hw _ (List.mem_of_getElem? (i := 46) rfl))) (Or.inl (hw _ (List.mem_of_getElem? (i := 48) rfl))) own_nes77 own_fd0 own_fd0))
  have f99 := f88.same W89
  have z89 := Nat.le_trans z78 (Keep.of_wr W89).1
  have K89 := K78.wr W89 (Or.inl (List.mem_of_getElem? (i := 0) rfl))
  exact g_ret X89 hx hby hf hlk hret own_d4_52 rfl (by decide) (by decide) e89 ⟨rfl, N89, K89, f90, f91, f92, f93, f94, f95, f96, f97, f98, f99⟩
theorem own_d5_0 : decode prog_34_method_3_code 0 = .ok (.aload_n 0, 1) := by decide +kernel
theorem own_d5_1 : decode prog_34_method_3_code 1 = .ok (.getfield 7, 3) := by decide +kernel
theorem own_d5_4 : decode prog_34_method_3_code 4 = .ok (.dreturn, 1) := by decide +kernel
def own_Q5 (Z : State) (a : Addr) (w : UInt64) (h0 : Heap) (n0 : Nat) (v : Option Value) (h : Heap) (L : List Loc) : Prop := v = some (.double w) ∧ Fr n0 L ∧ h = h0
set_option maxRecDepth 65536 in
set_option maxHeartbeats 40000000 in
theorem own_rm5 (l : Launch) (Z : State) (a0 : Array Value) (hw : ∀ d ∈ tables_1, d.before a0 Z = true) (ws : List Jvm.Cond) (a : Addr) (w : UInt64) (h0 : Heap) (n0 : Nat) (Z0 : n0 ≤ h0.size) (c0 : Fld Z h0 a "com/example/stochastic_ray_tracer/stochasticraytracer/LightSample" "pointX" "D" (.double w)) :
    Con l Z (⟨"com/example/stochastic_ray_tracer/stochasticraytracer/LightSample", "pointX", "()D"⟩ : MethodName) prog_34_method_3_code 1 (some .double) ws ({ frames := 0, cells := 0, slots := 0, locals := 0 } : Room) #[(.ref a)] h0 (own_Q5 Z a w h0 n0) := by
  refine Con.start #[.val (.ref a)] (plainFor_of_name own_pn1) (fun m => by first | (refine own_ef ?_; exact rfl) | (simp [entryFrame, mkF, argsToLocals, Value.category]; done) | rfl) ?_
  intro p e s m below meth c s₁ P X0 hx hby hml hret hlk hown hnm hZ e0 hf
  have hml : c.maxLocals = 1 := hml
  have N0 := Fr.nil n0
  refine g_aloadN (pc' := 1) X0 hx hby (v := (.ref a)) own_d5_0 rfl rfl rfl ?_
  refine g_getF (pc' := 4) X0 hx hby hZ hown (host := "") (Or.inl (hw _ (List.mem_of_getElem? (i := 31) rfl))) Via.refl e0 c0 rfl own_d5_1 rfl ?_
  intro T1 X1 e1
  exact g_retV X1 hx hby hf hlk hret own_d5_4 rfl rfl (Or.inr (Or.inr (Or.inl ⟨rfl, rfl, _, rfl⟩))) (by decide) (by decide) e1 ⟨rfl, N0, rfl⟩
theorem own_d6_0 : decode prog_34_method_4_code 0 = .ok (.aload_n 0, 1) := by decide +kernel
theorem own_d6_1 : decode prog_34_method_4_code 1 = .ok (.getfield 13, 3) := by decide +kernel
theorem own_d6_4 : decode prog_34_method_4_code 4 = .ok (.dreturn, 1) := by decide +kernel
def own_Q6 (Z : State) (a : Addr) (w : UInt64) (h0 : Heap) (n0 : Nat) (v : Option Value) (h : Heap) (L : List Loc) : Prop := v = some (.double w) ∧ Fr n0 L ∧ h = h0
set_option maxRecDepth 65536 in
set_option maxHeartbeats 40000000 in
theorem own_rm6 (l : Launch) (Z : State) (a0 : Array Value) (hw : ∀ d ∈ tables_1, d.before a0 Z = true) (ws : List Jvm.Cond) (a : Addr) (w : UInt64) (h0 : Heap) (n0 : Nat) (Z0 : n0 ≤ h0.size) (c0 : Fld Z h0 a "com/example/stochastic_ray_tracer/stochasticraytracer/LightSample" "pointY" "D" (.double w)) :
    Con l Z (⟨"com/example/stochastic_ray_tracer/stochasticraytracer/LightSample", "pointY", "()D"⟩ : MethodName) prog_34_method_4_code 1 (some .double) ws ({ frames := 0, cells := 0, slots := 0, locals := 0 } : Room) #[(.ref a)] h0 (own_Q6 Z a w h0 n0) := by
  refine Con.start #[.val (.ref a)] (plainFor_of_name own_pn1) (fun m => by first | (refine own_ef ?_; exact rfl) | (simp [entryFrame, mkF, argsToLocals, Value.category]; done) | rfl) ?_
  intro p e s m below meth c s₁ P X0 hx hby hml hret hlk hown hnm hZ e0 hf
  have hml : c.maxLocals = 1 := hml
  have N0 := Fr.nil n0
  refine g_aloadN (pc' := 1) X0 hx hby (v := (.ref a)) own_d6_0 rfl rfl rfl ?_
  refine g_getF (pc' := 4) X0 hx hby hZ hown (host := "") (Or.inl (hw _ (List.mem_of_getElem? (i := 33) rfl))) Via.refl e0 c0 rfl own_d6_1 rfl ?_
  intro T1 X1 e1
  exact g_retV X1 hx hby hf hlk hret own_d6_4 rfl rfl (Or.inr (Or.inr (Or.inl ⟨rfl, rfl, _, rfl⟩))) (by decide) (by decide) e1 ⟨rfl, N0, rfl⟩
theorem own_d7_0 : decode prog_34_method_5_code 0 = .ok (.aload_n 0, 1) := by decide +kernel
theorem own_d7_1 : decode prog_34_method_5_code 1 = .ok (.getfield 16, 3) := by decide +kernel
theorem own_d7_4 : decode prog_34_method_5_code 4 = .ok (.dreturn, 1) := by decide +kernel
def own_Q7 (Z : State) (a : Addr) (w : UInt64) (h0 : Heap) (n0 : Nat) (v : Option Value) (h : Heap) (L : List Loc) : Prop := v = some (.double w) ∧ Fr n0 L ∧ h = h0
set_option maxRecDepth 65536 in
set_option maxHeartbeats 40000000 in
theorem own_rm7 (l : Launch) (Z : State) (a0 : Array Value) (hw : ∀ d ∈ tables_1, d.before a0 Z = true) (ws : List Jvm.Cond) (a : Addr) (w : UInt64) (h0 : Heap) (n0 : Nat) (Z0 : n0 ≤ h0.size) (c0 : Fld Z h0 a "com/example/stochastic_ray_tracer/stochasticraytracer/LightSample" "pointZ" "D" (.double w)) :
    Con l Z (⟨"com/example/stochastic_ray_tracer/stochasticraytracer/LightSample", "pointZ", "()D"⟩ : MethodName) prog_34_method_5_code 1 (some .double) ws ({ frames := 0, cells := 0, slots := 0, locals := 0 } : Room) #[(.ref a)] h0 (own_Q7 Z a w h0 n0) := by
  refine Con.start #[.val (.ref a)] (plainFor_of_name own_pn1) (fun m => by first | (refine own_ef ?_; exact rfl) | (simp [entryFrame, mkF, argsToLocals, Value.category]; done) | rfl) ?_
  intro p e s m below meth c s₁ P X0 hx hby hml hret hlk hown hnm hZ e0 hf
  have hml : c.maxLocals = 1 := hml
  have N0 := Fr.nil n0
  refine g_aloadN (pc' := 1) X0 hx hby (v := (.ref a)) own_d7_0 rfl rfl rfl ?_
  refine g_getF (pc' := 4) X0 hx hby hZ hown (host := "") (Or.inl (hw _ (List.mem_of_getElem? (i := 35) rfl))) Via.refl e0 c0 rfl own_d7_1 rfl ?_
  intro T1 X1 e1
  exact g_retV X1 hx hby hf hlk hret own_d7_4 rfl rfl (Or.inr (Or.inr (Or.inl ⟨rfl, rfl, _, rfl⟩))) (by decide) (by decide) e1 ⟨rfl, N0, rfl⟩
theorem own_d8_0 : decode prog_34_method_6_code 0 = .ok (.aload_n 0, 1) := by decide +kernel
theorem own_d8_1 : decode prog_34_method_6_code 1 = .ok (.getfield 19, 3) := by decide +kernel
theorem own_d8_4 : decode prog_34_method_6_code 4 = .ok (.dreturn, 1) := by decide +kernel
def own_Q8 (Z : State) (a : Addr) (w : UInt64) (h0 : Heap) (n0 : Nat) (v : Option Value) (h : Heap) (L : List Loc) : Prop := v = some (.double w) ∧ Fr n0 L ∧ h = h0
set_option maxRecDepth 65536 in
set_option maxHeartbeats 40000000 in
theorem own_rm8 (l : Launch) (Z : State) (a0 : Array Value) (hw : ∀ d ∈ tables_1, d.before a0 Z = true) (ws : List Jvm.Cond) (a : Addr) (w : UInt64) (h0 : Heap) (n0 : Nat) (Z0 : n0 ≤ h0.size) (c0 : Fld Z h0 a "com/example/stochastic_ray_tracer/stochasticraytracer/LightSample" "normalX" "D" (.double w)) :
    Con l Z (⟨"com/example/stochastic_ray_tracer/stochasticraytracer/LightSample", "normalX", "()D"⟩ : MethodName) prog_34_method_6_code 1 (some .double) ws ({ frames := 0, cells := 0, slots := 0, locals := 0 } : Room) #[(.ref a)] h0 (own_Q8 Z a w h0 n0) := by
  refine Con.start #[.val (.ref a)] (plainFor_of_name own_pn1) (fun m => by first | (refine own_ef ?_; exact rfl) | (simp [entryFrame, mkF, argsToLocals, Value.category]; done) | rfl) ?_
  intro p e s m below meth c s₁ P X0 hx hby hml hret hlk hown hnm hZ e0 hf
  have hml : c.maxLocals = 1 := hml
  have N0 := Fr.nil n0
  refine g_aloadN (pc' := 1) X0 hx hby (v := (.ref a)) own_d8_0 rfl rfl rfl ?_
  refine g_getF (pc' := 4) X0 hx hby hZ hown (host := "") (Or.inl (hw _ (List.mem_of_getElem? (i := 37) rfl))) Via.refl e0 c0 rfl own_d8_1 rfl ?_
  intro T1 X1 e1
  exact g_retV X1 hx hby hf hlk hret own_d8_4 rfl rfl (Or.inr (Or.inr (Or.inl ⟨rfl, rfl, _, rfl⟩))) (by decide) (by decide) e1 ⟨rfl, N0, rfl⟩
theorem own_d9_0 : decode prog_34_method_7_code 0 = .ok (.aload_n 0, 1) := by decide +kernel
theorem own_d9_1 : decode prog_34_method_7_code 1 = .ok (.getfield 22, 3) := by decide +kernel
theorem own_d9_4 : decode prog_34_method_7_code 4 = .ok (.dreturn, 1) := by decide +kernel
def own_Q9 (Z : State) (a : Addr) (w : UInt64) (h0 : Heap) (n0 : Nat) (v : Option Value) (h : Heap) (L : List Loc) : Prop := v = some (.double w) ∧ Fr n0 L ∧ h = h0
set_option maxRecDepth 65536 in
set_option maxHeartbeats 40000000 in
theorem own_rm9 (l : Launch) (Z : State) (a0 : Array Value) (hw : ∀ d ∈ tables_1, d.before a0 Z = true) (ws : List Jvm.Cond) (a : Addr) (w : UInt64) (h0 : Heap) (n0 : Nat) (Z0 : n0 ≤ h0.size) (c0 : Fld Z h0 a "com/example/stochastic_ray_tracer/stochasticraytracer/LightSample" "normalY" "D" (.double w)) :
    Con l Z (⟨"com/example/stochastic_ray_tracer/stochasticraytracer/LightSample", "normalY", "()D"⟩ : MethodName) prog_34_method_7_code 1 (some .double) ws ({ frames := 0, cells := 0, slots := 0, locals := 0 } : Room) #[(.ref a)] h0 (own_Q9 Z a w h0 n0) := by
  refine Con.start #[.val (.ref a)] (plainFor_of_name own_pn1) (fun m => by first | (refine own_ef ?_; exact rfl) | (simp [entryFrame, mkF, argsToLocals, Value.category]; done) | rfl) ?_
  intro p e s m below meth c s₁ P X0 hx hby hml hret hlk hown hnm hZ e0 hf
  have hml : c.maxLocals = 1 := hml
  have N0 := Fr.nil n0
  refine g_aloadN (pc' := 1) X0 hx hby (v := (.ref a)) own_d9_0 rfl rfl rfl ?_
  refine g_getF (pc' := 4) X0 hx hby hZ hown (host := "") (Or.inl (hw _ (List.mem_of_getElem? (i := 39) rfl))) Via.refl e0 c0 rfl own_d9_1 rfl ?_
  intro T1 X1 e1
  exact g_retV X1 hx hby hf hlk hret own_d9_4 rfl rfl (Or.inr (Or.inr (Or.inl ⟨rfl, rfl, _, rfl⟩))) (by decide) (by decide) e1 ⟨rfl, N0, rfl⟩
theorem own_d10_0 : decode prog_34_method_8_code 0 = .ok (.aload_n 0, 1) := by decide +kernel
theorem own_d10_1 : decode prog_34_method_8_code 1 = .ok (.getfield 25, 3) := by decide +kernel
theorem own_d10_4 : decode prog_34_method_8_code 4 = .ok (.dreturn, 1) := by decide +kernel
def own_Q10 (Z : State) (a : Addr) (w : UInt64) (h0 : Heap) (n0 : Nat) (v : Option Value) (h : Heap) (L : List Loc) : Prop := v = some (.double w) ∧ Fr n0 L ∧ h = h0
set_option maxRecDepth 65536 in
set_option maxHeartbeats 40000000 in
theorem own_rm10 (l : Launch) (Z : State) (a0 : Array Value) (hw : ∀ d ∈ tables_1, d.before a0 Z = true) (ws : List Jvm.Cond) (a : Addr) (w : UInt64) (h0 : Heap) (n0 : Nat) (Z0 : n0 ≤ h0.size) (c0 : Fld Z h0 a "com/example/stochastic_ray_tracer/stochasticraytracer/LightSample" "normalZ" "D" (.double w)) :
    Con l Z (⟨"com/example/stochastic_ray_tracer/stochasticraytracer/LightSample", "normalZ", "()D"⟩ : MethodName) prog_34_method_8_code 1 (some .double) ws ({ frames := 0, cells := 0, slots := 0, locals := 0 } : Room) #[(.ref a)] h0 (own_Q10 Z a w h0 n0) := by
  refine Con.start #[.val (.ref a)] (plainFor_of_name own_pn1) (fun m => by first | (refine own_ef ?_; exact rfl) | (simp [entryFrame, mkF, argsToLocals, Value.category]; done) | rfl) ?_
  intro p e s m below meth c s₁ P X0 hx hby hml hret hlk hown hnm hZ e0 hf
  have hml : c.maxLocals = 1 := hml
  have N0 := Fr.nil n0
  refine g_aloadN (pc' := 1) X0 hx hby (v := (.ref a)) own_d10_0 rfl rfl rfl ?_
  refine g_getF (pc' := 4) X0 hx hby hZ hown (host := "") (Or.inl (hw _ (List.mem_of_getElem? (i := 41) rfl))) Via.refl e0 c0 rfl own_d10_1 rfl ?_
  intro T1 X1 e1
  exact g_retV X1 hx hby hf hlk hret own_d10_4 rfl rfl (Or.inr (Or.inr (Or.inl ⟨rfl, rfl, _, rfl⟩))) (by decide) (by decide) e1 ⟨rfl, N0, rfl⟩
theorem own_d11_0 : decode prog_34_method_9_code 0 = .ok (.aload_n 0, 1) := by decide +kernel
theorem own_d11_1 : decode prog_34_method_9_code 1 = .ok (.getfield 28, 3) := by decide +kernel
theorem own_d11_4 : decode prog_34_method_9_code 4 = .ok (.areturn, 1) := by decide +kernel
def own_Q11 (Z : State) (a : Addr) (w : Addr) (h0 : Heap) (n0 : Nat) (v : Option Value) (h : Heap) (L : List Loc) : Prop := v = some (.ref w) ∧ Fr n0 L ∧ h = h0
set_option maxRecDepth 65536 in
set_option maxHeartbeats 40000000 in
theorem own_rm11 (l : Launch) (Z : State) (a0 : Array Value) (hw : ∀ d ∈ tables_1, d.before a0 Z = true) (ws : List Jvm.Cond) (a : Addr) (w : Addr) (h0 : Heap) (n0 : Nat) (Z0 : n0 ≤ h0.size) (c0 : Fld Z h0 a "com/example/stochastic_ray_tracer/stochasticraytracer/LightSample" "radiance" "Lcom/example/stochastic_ray_tracer/stochasticraytracer/Rgb;" (.ref w)) :
    Con l Z (⟨"com/example/stochastic_ray_tracer/stochasticraytracer/LightSample", "radiance", "()Lcom/example/stochastic_ray_tracer/stochasticraytracer/Rgb;"⟩ : MethodName) prog_34_method_9_code 1 (some (.object "com/example/stochastic_ray_tracer/stochasticraytracer/Rgb")) ws ({ frames := 0, cells := 0, slots := 0, locals := 0 } : Room) #[(.ref a)] h0 (own_Q11 Z a w h0 n0) := by
  refine Con.start #[.val (.ref a)] (plainFor_of_name own_pn1) (fun m => by first | (refine own_ef ?_; exact rfl) | (simp [entryFrame, mkF, argsToLocals, Value.category]; done) | rfl) ?_
  intro p e s m below meth c s₁ P X0 hx hby hml hret hlk hown hnm hZ e0 hf
  have hml : c.maxLocals = 1 := hml
  have N0 := Fr.nil n0
  refine g_aloadN (pc' := 1) X0 hx hby (v := (.ref a)) own_d11_0 rfl rfl rfl ?_
  refine g_getF (pc' := 4) X0 hx hby hZ hown (host := "") (Or.inl (hw _ (List.mem_of_getElem? (i := 43) rfl))) Via.refl e0 c0 rfl own_d11_1 rfl ?_
  intro T1 X1 e1
  exact g_retV X1 hx hby hf hlk hret own_d11_4 rfl rfl (Or.inr (Or.inr (Or.inr (Or.inr ⟨rfl, rfl, rfl⟩)))) (by decide) (by decide) e1 ⟨rfl, N0, rfl⟩
theorem own_d12_0 : decode prog_34_method_10_code 0 = .ok (.aload_n 0, 1) := by decide +kernel
theorem own_d12_1 : decode prog_34_method_10_code 1 = .ok (.getfield 32, 3) := by decide +kernel
theorem own_d12_4 : decode prog_34_method_10_code 4 = .ok (.dreturn, 1) := by decide +kernel
def own_Q12 (Z : State) (a : Addr) (w : UInt64) (h0 : Heap) (n0 : Nat) (v : Option Value) (h : Heap) (L : List Loc) : Prop := v = some (.double w) ∧ Fr n0 L ∧ h = h0
set_option maxRecDepth 65536 in
set_option maxHeartbeats 40000000 in
theorem own_rm12 (l : Launch) (Z : State) (a0 : Array Value) (hw : ∀ d ∈ tables_1, d.before a0 Z = true) (ws : List Jvm.Cond) (a : Addr) (w : UInt64) (h0 : Heap) (n0 : Nat) (Z0 : n0 ≤ h0.size) (c0 : Fld Z h0 a "com/example/stochastic_ray_tracer/stochasticraytracer/LightSample" "density" "D" (.double w)) :
    Con l Z (⟨"com/example/stochastic_ray_tracer/stochasticraytracer/LightSample", "density", "()D"⟩ : MethodName) prog_34_method_10_code 1 (some .double) ws ({ frames := 0, cells := 0, slots := 0, locals := 0 } : Room) #[(.ref a)] h0 (own_Q12 Z a w h0 n0) := by
  refine Con.start #[.val (.ref a)] (plainFor_of_name own_pn1) (fun m => by first | (refine own_ef ?_; exact rfl) | (simp [entryFrame, mkF, argsToLocals, Value.category]; done) | rfl) ?_
  intro p e s m below meth c s₁ P X0 hx hby hml hret hlk hown hnm hZ e0 hf
  have hml : c.maxLocals = 1 := hml
  have N0 := Fr.nil n0
  refine g_aloadN (pc' := 1) X0 hx hby (v := (.ref a)) own_d12_0 rfl rfl rfl ?_
  refine g_getF (pc' := 4) X0 hx hby hZ hown (host := "") (Or.inl (hw _ (List.mem_of_getElem? (i := 45) rfl))) Via.refl e0 c0 rfl own_d12_1 rfl ?_
  intro T1 X1 e1
  exact g_retV X1 hx hby hf hlk hret own_d12_4 rfl rfl (Or.inr (Or.inr (Or.inl ⟨rfl, rfl, _, rfl⟩))) (by decide) (by decide) e1 ⟨rfl, N0, rfl⟩
theorem own_d13_0 : decode prog_34_method_11_code 0 = .ok (.aload_n 0, 1) := by decide +kernel
theorem own_d13_1 : decode prog_34_method_11_code 1 = .ok (.getfield 35, 3) := by decide +kernel
theorem own_d13_4 : decode prog_34_method_11_code 4 = .ok (.dreturn, 1) := by decide +kernel
def own_Q13 (Z : State) (a : Addr) (w : UInt64) (h0 : Heap) (n0 : Nat) (v : Option Value) (h : Heap) (L : List Loc) : Prop := v = some (.double w) ∧ Fr n0 L ∧ h = h0
set_option maxRecDepth 65536 in
set_option maxHeartbeats 40000000 in
theorem own_rm13 (l : Launch) (Z : State) (a0 : Array Value) (hw : ∀ d ∈ tables_1, d.before a0 Z = true) (ws : List Jvm.Cond) (a : Addr) (w : UInt64) (h0 : Heap) (n0 : Nat) (Z0 : n0 ≤ h0.size) (c0 : Fld Z h0 a "com/example/stochastic_ray_tracer/stochasticraytracer/LightSample" "distance" "D" (.double w)) :
    Con l Z (⟨"com/example/stochastic_ray_tracer/stochasticraytracer/LightSample", "distance", "()D"⟩ : MethodName) prog_34_method_11_code 1 (some .double) ws ({ frames := 0, cells := 0, slots := 0, locals := 0 } : Room) #[(.ref a)] h0 (own_Q13 Z a w h0 n0) := by
  refine Con.start #[.val (.ref a)] (plainFor_of_name own_pn1) (fun m => by first | (refine own_ef ?_; exact rfl) | (simp [entryFrame, mkF, argsToLocals, Value.category]; done) | rfl) ?_
  intro p e s m below meth c s₁ P X0 hx hby hml hret hlk hown hnm hZ e0 hf
  have hml : c.maxLocals = 1 := hml
  have N0 := Fr.nil n0
  refine g_aloadN (pc' := 1) X0 hx hby (v := (.ref a)) own_d13_0 rfl rfl rfl ?_
  refine g_getF (pc' := 4) X0 hx hby hZ hown (host := "") (Or.inl (hw _ (List.mem_of_getElem? (i := 47) rfl))) Via.refl e0 c0 rfl own_d13_1 rfl ?_
  intro T1 X1 e1
  exact g_retV X1 hx hby hf hlk hret own_d13_4 rfl rfl (Or.inr (Or.inr (Or.inl ⟨rfl, rfl, _, rfl⟩))) (by decide) (by decide) e1 ⟨rfl, N0, rfl⟩
theorem own_nni {n : Int32} {w : UInt64} (h : FP.i2d n = w) (o : CmpOp) : cmpValue (FP.dcmp w w) o = 0 := by
  subst h
  exact dcmpV_self (rv_nn (rv_i2d n)) o
theorem own_q1 (n : Int32) : Jvm.Free.Fl.NoNaN64 (FP.dadd (FP.i2d n) 4598175219545276416) := Jvm.Free.Fl.dadd_out (rv_nn (rv_i2d n)) (show (4598175219545276416 : UInt64) &&& 0x7fffffffffffffff < 0x7ff0000000000000 by decide)
theorem own_q2 (n : Int32) : Jvm.Free.Fl.NoNaN64 (FP.dsub (FP.i2d n) 4602678819172646912) := Jvm.Free.Fl.dsub_out (rv_nn (rv_i2d n)) (show (4602678819172646912 : UInt64) &&& 0x7fffffffffffffff < 0x7ff0000000000000 by decide)
theorem own_q3 {n : Int32} {w : UInt64} (h : FP.dadd (FP.i2d n) 4598175219545276416 = w) (o : CmpOp) : cmpValue (FP.dcmp w w) o = 0 := by
  subst h
  exact dcmpV_self (own_q1 n) o
theorem own_q4 {n : Int32} {w : UInt64} (h : FP.dsub (FP.i2d n) 4602678819172646912 = w) (o : CmpOp) : cmpValue (FP.dcmp w w) o = 0 := by
  subst h
  exact dcmpV_self (own_q2 n) o

def own_Q0 (Z : State) (i0 : Int32) (i1 : Int32) (i2 : Int32) (i3 : Int32) (i4 : Int32) (i5 : Int32) (h0 : Heap) (n0 : Nat) (v : Option Value) (h : Heap) (L : List Loc) : Prop := v = some (.int (1 : Int32)) ∧ Fr n0 L ∧ Keep h0 h []
set_option maxRecDepth 65536 in
set_option maxHeartbeats 40000000 in
theorem own_rm0 (l : Launch) (Z : State) (a0 : Array Value) (hw : ∀ d ∈ tables_1, d.before a0 Z = true) (ws : List Jvm.Cond) (i0 : Int32) (i1 : Int32) (i2 : Int32) (i3 : Int32) (i4 : Int32) (i5 : Int32) (h0 : Heap) (n0 : Nat) (Z0 : n0 ≤ h0.size) :
    Con l Z x code maxLocals ret ws room_1 #[(.int i0), (.int i1), (.int i2), (.int i3), (.int i4), (.int i5)] h0 (own_Q0 Z i0 i1 i2 i3 i4 i5 h0 n0) := by
  refine Con.start #[.val (.int i0), .val (.int i1), .val (.int i2), .val (.int i3), .val (.int i4), .val (.int i5), .unset, .unset, .unset, .unset, .unset, .unset, .unset, .unset, .unset, .unset, .unset, .unset, .unset, .unset, .unset, .unset, .unset, .unset, .unset] (plainFor_of_name own_pn2) (fun m => by first | (refine own_ef ?_; exact rfl) | (simp [entryFrame, mkF, argsToLocals, Value.category, maxLocals]; done) | rfl) ?_
  intro p e s m below meth c s₁ P X0 hx hby hml hret hlk hown hnm hZ e0 hf
  have hml : c.maxLocals = 25 := hml
  have N0 := Fr.nil n0
  have hret : meth.sig.returnType = some .boolean := hret
  have K0 : Keep h0 h0 [] := Keep.refl _ _
  refine g_iloadN (pc' := 1) X0 hx hby (v := i0) at_0 rfl rfl ?_
  obtain ⟨x6_1, h_x6_1⟩ : ∃ z : UInt64, FP.i2d i0 = z := ⟨_, rfl⟩
  refine g_i2d (pc' := 2) (v := x6_1) X0 hx hby at_1 rfl h_x6_1 rfl ?_
  refine g_dstore (pc' := 4) (Ls' := #[.val (.int i0), .val (.int i1), .val (.int i2), .val (.int i3), .val (.int i4), .val (.int i5), .val (.double x6_1), .second, .unset, .unset, .unset, .unset, .unset, .unset, .unset, .unset, .unset, .unset, .unset, .unset, .unset, .unset, .unset, .unset, .unset]) X0 hx hby at_2 rfl rfl rfl ?_
  refine g_iloadN (pc' := 5) X0 hx hby (v := i1) at_4 rfl rfl ?_
  obtain ⟨x8_5, h_x8_5⟩ : ∃ z : UInt64, FP.i2d i1 = z := ⟨_, rfl⟩
  refine g_i2d (pc' := 6) (v := x8_5) X0 hx hby at_5 rfl h_x8_5 rfl ?_
  refine g_dstore (pc' := 8) (Ls' := #[.val (.int i0), .val (.int i1), .val (.int i2), .val (.int i3), .val (.int i4), .val (.int i5), .val (.double x6_1), .second, .val (.double x8_5), .second, .unset, .unset, .unset, .unset, .unset, .unset, .unset, .unset, .unset, .unset, .unset, .unset, .unset, .unset, .unset]) X0 hx hby at_6 rfl rfl rfl ?_
  refine g_iloadN (pc' := 9) X0 hx hby (v := i2) at_8 rfl rfl ?_
  obtain ⟨x10_9, h_x10_9⟩ : ∃ z : UInt64, FP.i2d i2 = z := ⟨_, rfl⟩
  refine g_i2d (pc' := 10) (v := x10_9) X0 hx hby at_9 rfl h_x10_9 rfl ?_
  refine g_dstore (pc' := 12) (Ls' := #[.val (.int i0), .val (.int i1), .val (.int i2), .val (.int i3), .val (.int i4), .val (.int i5), .val (.double x6_1), .second, .val (.double x8_5), .second, .val (.double x10_9), .second, .unset, .unset, .unset, .unset, .unset, .unset, .unset, .unset, .unset, .unset, .unset, .unset, .unset]) X0 hx hby at_10 rfl rfl rfl ?_
  refine g_iloadN (pc' := 13) X0 hx hby (v := i3) at_12 rfl rfl ?_
  obtain ⟨x12_13, h_x12_13⟩ : ∃ z : UInt64, FP.i2d i3 = z := ⟨_, rfl⟩
  refine g_i2d (pc' := 14) (v := x12_13) X0 hx hby at_13 rfl h_x12_13 rfl ?_
  refine g_dstore (pc' := 16) (Ls' := #[.val (.int i0), .val (.int i1), .val (.int i2), .val (.int i3), .val (.int i4), .val (.int i5), .val (.double x6_1), .second, .val (.double x8_5), .second, .val (.double x10_9), .second, .val (.double x12_13), .second, .unset, .unset, .unset, .unset, .unset, .unset, .unset, .unset, .unset, .unset, .unset]) X0 hx hby at_14 rfl rfl rfl ?_
  refine g_iload (pc' := 18) X0 hx hby (v := i4) at_16 rfl rfl ?_
  obtain ⟨x14_18, h_x14_18⟩ : ∃ z : UInt64, FP.i2d i4 = z := ⟨_, rfl⟩
  refine g_i2d (pc' := 19) (v := x14_18) X0 hx hby at_18 rfl h_x14_18 rfl ?_
  refine g_dstore (pc' := 21) (Ls' := #[.val (.int i0), .val (.int i1), .val (.int i2), .val (.int i3), .val (.int i4), .val (.int i5), .val (.double x6_1), .second, .val (.double x8_5), .second, .val (.double x10_9), .second, .val (.double x12_13), .second, .val (.double x14_18), .second, .unset, .unset, .unset, .unset, .unset, .unset, .unset, .unset, .unset]) X0 hx hby at_19 rfl rfl rfl ?_
  refine g_iload (pc' := 23) X0 hx hby (v := i5) at_21 rfl rfl ?_
  obtain ⟨x16_23, h_x16_23⟩ : ∃ z : UInt64, FP.i2d i5 = z := ⟨_, rfl⟩
  refine g_i2d (pc' := 24) (v := x16_23) X0 hx hby at_23 rfl h_x16_23 rfl ?_
  refine g_dstore (pc' := 26) (Ls' := #[.val (.int i0), .val (.int i1), .val (.int i2), .val (.int i3), .val (.int i4), .val (.int i5), .val (.double x6_1), .second, .val (.double x8_5), .second, .val (.double x10_9), .second, .val (.double x12_13), .second, .val (.double x14_18), .second, .val (.double x16_23), .second, .unset, .unset, .unset, .unset, .unset, .unset, .unset]) X0 hx hby at_24 rfl rfl rfl ?_
  refine g_iload (pc' := 28) X0 hx hby (v := i4) at_26 rfl rfl ?_
  refine g_i2d (pc' := 29) (v := (FP.i2d i4)) X0 hx hby at_28 rfl rfl rfl ?_
  refine g_ldcD (pc' := 32) X0 hx hby hZ hown (hw _ (List.mem_of_getElem? (i := 0) rfl)) at_29 rfl ?_
  obtain ⟨x18_32, h_x18_32⟩ : ∃ z : UInt64, FP.dadd (FP.i2d i4) (4598175219545276416 : UInt64) = z := ⟨_, rfl⟩
  refine g_dadd (pc' := 33) (v := x18_32) X0 hx hby at_32 rfl (own_q1 _) h_x18_32 rfl ?_
  refine g_dstore (pc' := 35) (Ls' := #[.val (.int i0), .val (.int i1), .val (.int i2), .val (.int i3), .val (.int i4), .val (.int i5), .val (.double x6_1), .second, .val (.double x8_5), .second, .val (.double x10_9), .second, .val (.double x12_13), .second, .val (.double x14_18), .second, .val (.double x16_23), .second, .val (.double x18_32), .second, .unset, .unset, .unset, .unset, .unset]) X0 hx hby at_33 rfl rfl rfl ?_
  refine g_iload (pc' := 37) X0 hx hby (v := i5) at_35 rfl rfl ?_
  refine g_i2d (pc' := 38) (v := (FP.i2d i5)) X0 hx hby at_37 rfl rfl rfl ?_
  refine g_ldcD (pc' := 41) X0 hx hby hZ hown (hw _ (List.mem_of_getElem? (i := 1) rfl)) at_38 rfl ?_
  obtain ⟨x20_41, h_x20_41⟩ : ∃ z : UInt64, FP.dsub (FP.i2d i5) (4602678819172646912 : UInt64) = z := ⟨_, rfl⟩
  refine g_dsub (pc' := 42) (v := x20_41) X0 hx hby at_41 rfl (own_q2 _) h_x20_41 rfl ?_
  refine g_dstore (pc' := 44) (Ls' := #[.val (.int i0), .val (.int i1), .val (.int i2), .val (.int i3), .val (.int i4), .val (.int i5), .val (.double x6_1), .second, .val (.double x8_5), .second, .val (.double x10_9), .second, .val (.double x12_13), .second, .val (.double x14_18), .second, .val (.double x16_23), .second, .val (.double x18_32), .second, .val (.double x20_41), .second, .unset, .unset, .unset]) X0 hx hby at_42 rfl rfl rfl ?_
  refine g_new (pc' := 47) X0 hx hby hZ hown (hw _ (List.mem_of_getElem? (i := 2) rfl)) (hw _ (List.mem_of_getElem? (i := 3) rfl)) (hw _ (List.mem_of_getElem? (i := 4) rfl)) e0 at_44 rfl (by decide) (by decide) ?_
  intro T1 h1 r1 X1 e1 E1 A1 D1 q1
  have ge1 : n0 ≤ r1 := by rw [q1]; exact Z0
  have kp1 : h0.size ≤ r1 := by rw [q1]; exact K0.1
  have f2 : Fld Z h1 r1 "com/example/stochastic_ray_tracer/stochasticraytracer/Rgb" "r" "D" (.double (0 : UInt64)) := D1 (Or.inr (hw _ (List.mem_of_getElem? (i := 14) rfl))) (ty := .double) own_fd0
  have f3 : Fld Z h1 r1 "com/example/stochastic_ray_tracer/stochasticraytracer/Rgb" "g" "D" (.double (0 : UInt64)) := D1 (Or.inr (hw _ (List.mem_of_getElem? (i := 16) rfl))) (ty := .double) own_fd0
  have f4 : Fld Z h1 r1 "com/example/stochastic_ray_tracer/stochasticraytracer/Rgb" "b" "D" (.double (0 : UInt64)) := D1 (Or.inr (hw _ (List.mem_of_getElem? (i := 18) rfl))) (ty := .double) own_fd0
  have z1 := Nat.le_trans Z0 E1.1
  have K1 := K0.ext E1
  refine g_dup (pc' := 48) X1 hx hby at_47 rfl rfl rfl ?_
  refine g_dconst1 (pc' := 49) (v := (4607182418800017408 : UInt64)) X1 hx hby at_48 rfl rfl ?_
  refine g_ldcD (pc' := 52) X1 hx hby hZ hown (hw _ (List.mem_of_getElem? (i := 5) rfl)) at_49 rfl ?_
  refine g_ldcD (pc' := 55) X1 hx hby hZ hown (hw _ (List.mem_of_getElem? (i := 6) rfl)) at_52 rfl ?_
  refine g_init (argsL := [(.double (4607182418800017408 : UInt64)), (.double (4611686018427387904 : UInt64)), (.double (4613937818241073152 : UInt64))]) (pc' := 58) X1 hx hby (by rw [hml]; rfl) hZ hown rfl e1 (own_rm1 l Z a0 hw [] r1 (4607182418800017408 : UInt64) (4611686018427387904 : UInt64) (4613937818241073152 : UInt64)  h1 n0 z1 A1 f2 f3 f4 ge1) (hw _ (List.mem_of_getElem? (i := 7) rfl)) (hw _ (List.mem_of_getElem? (i := 8) rfl)) (hw _ (List.mem_of_getElem? (i := 4) rfl)) (hw _ (List.mem_of_getElem? (i := 9) rfl)) (by decide) own_pd0 rfl rfl (W := 1) rfl (by decide) (by decide) (by decide) (by decide) at_55 rfl ?_
  intro T5 v5 L5 X5 qq5
  obtain ⟨h5, e5⟩ : ∃ h, T5.heap = h := ⟨_, rfl⟩
  rw [e5] at qq5
  obtain ⟨rfl, n5, k5, p5_0⟩ := qq5
  have f6 := A1.keep k5
  have z5 := Nat.le_trans z1 k5.1
  have K5 := K1.trans k5 (allS (Or.inr kp1) all0)
  have N5 := Fr.app N0 n5
  show Gf p e below P T5 m 58 #[.val (.int i0), .val (.int i1), .val (.int i2), .val (.int i3), .val (.int i4), .val (.int i5), .val (.double x6_1), .second, .val (.double x8_5), .second, .val (.double x10_9), .second, .val (.double x12_13), .second, .val (.double x14_18), .second, .val (.double x16_23), .second, .val (.double x18_32), .second, .val (.double x20_41), .second, .unset, .unset, .unset] [(.ref r1)]
  refine g_astore (pc' := 60) (Ls' := #[.val (.int i0), .val (.int i1), .val (.int i2), .val (.int i3), .val (.int i4), .val (.int i5), .val (.double x6_1), .second, .val (.double x8_5), .second, .val (.double x10_9), .second, .val (.double x12_13), .second, .val (.double x14_18), .second, .val (.double x16_23), .second, .val (.double x18_32), .second, .val (.double x20_41), .second, .val (.ref r1), .unset, .unset]) X5 hx hby at_58 rfl rfl rfl rfl ?_
  refine g_new (pc' := 63) X5 hx hby hZ hown (hw _ (List.mem_of_getElem? (i := 2) rfl)) (hw _ (List.mem_of_getElem? (i := 3) rfl)) (hw _ (List.mem_of_getElem? (i := 4) rfl)) e5 at_60 rfl (by decide) (by decide) ?_
  intro T10 h10 r2 X10 e10 E10 A10 D10 q10
  have ne11 : r1 ≠ r2 := by rw [q10]; exact Nat.ne_of_lt p5_0.lt
  have ge10 : n0 ≤ r2 := by rw [q10]; exact z5
  have kp10 : h0.size ≤ r2 := by rw [q10]; exact K5.1
  have f12 := p5_0.ext E10
  have f13 : Fld Z h10 r2 "com/example/stochastic_ray_tracer/stochasticraytracer/Rgb" "r" "D" (.double (0 : UInt64)) := D10 (Or.inr (hw _ (List.mem_of_getElem? (i := 14) rfl))) (ty := .double) own_fd0
  have f14 : Fld Z h10 r2 "com/example/stochastic_ray_tracer/stochasticraytracer/Rgb" "g" "D" (.double (0 : UInt64)) := D10 (Or.inr (hw _ (List.mem_of_getElem? (i := 16) rfl))) (ty := .double) own_fd0
  have f15 : Fld Z h10 r2 "com/example/stochastic_ray_tracer/stochasticraytracer/Rgb" "b" "D" (.double (0 : UInt64)) := D10 (Or.inr (hw _ (List.mem_of_getElem? (i := 18) rfl))) (ty := .double) own_fd0
  have z10 := Nat.le_trans z5 E10.1
  have K10 := K5.ext E10
  refine g_dup (pc' := 64) X10 hx hby at_63 rfl rfl rfl ?_
  refine g_dload (pc' := 66) X10 hx hby (v := x6_1) at_64 rfl rfl ?_
  refine g_dload (pc' := 68) X10 hx hby (v := x8_5) at_66 rfl rfl ?_
  refine g_dload (pc' := 70) X10 hx hby (v := x10_9) at_68 rfl rfl ?_
  refine g_init (argsL := [(.double x6_1), (.double x8_5), (.double x10_9)]) (pc' := 73) X10 hx hby (by rw [hml]; rfl) hZ hown rfl e10 (own_rm1 l Z a0 hw [] r2 x6_1 x8_5 x10_9  h10 n0 z10 A10 f13 f14 f15 ge10) (hw _ (List.mem_of_getElem? (i := 7) rfl)) (hw _ (List.mem_of_getElem? (i := 8) rfl)) (hw _ (List.mem_of_getElem? (i := 4) rfl)) (hw _ (List.mem_of_getElem? (i := 9) rfl)) (by decide) own_pd0 rfl rfl (W := 1) rfl (by decide) (by decide) (by decide) (by decide) at_70 rfl ?_
  intro T16 v16 L16 X16 qq16
  obtain ⟨h16, e16⟩ : ∃ h, T16.heap = h := ⟨_, rfl⟩
  rw [e16] at qq16
  obtain ⟨rfl, n16, k16, p16_0⟩ := qq16
  have f17 := f12.keep k16
  have f18 := A10.keep k16
  have z16 := Nat.le_trans z10 k16.1
  have K16 := K10.trans k16 (allS (Or.inr kp10) all0)
  have N16 := Fr.app N5 n16
  show Gf p e below P T16 m 73 #[.val (.int i0), .val (.int i1), .val (.int i2), .val (.int i3), .val (.int i4), .val (.int i5), .val (.double x6_1), .second, .val (.double x8_5), .second, .val (.double x10_9), .second, .val (.double x12_13), .second, .val (.double x14_18), .second, .val (.double x16_23), .second, .val (.double x18_32), .second, .val (.double x20_41), .second, .val (.ref r1), .unset, .unset] [(.ref r2)]
  refine g_astore (pc' := 75) (Ls' := #[.val (.int i0), .val (.int i1), .val (.int i2), .val (.int i3), .val (.int i4), .val (.int i5), .val (.double x6_1), .second, .val (.double x8_5), .second, .val (.double x10_9), .second, .val (.double x12_13), .second, .val (.double x14_18), .second, .val (.double x16_23), .second, .val (.double x18_32), .second, .val (.double x20_41), .second, .val (.ref r1), .val (.ref r2), .unset]) X16 hx hby at_73 rfl rfl rfl rfl ?_
  refine g_new (pc' := 78) X16 hx hby hZ hown (hw _ (List.mem_of_getElem? (i := 19) rfl)) (hw _ (List.mem_of_getElem? (i := 20) rfl)) (hw _ (List.mem_of_getElem? (i := 21) rfl)) e16 at_75 rfl (by decide) (by decide) ?_
  intro T22 h22 ls X22 e22 E22 A22 D22 q22
  have ne23 : r1 ≠ ls := by rw [q22]; exact Nat.ne_of_lt f17.lt
  have ne24 : r2 ≠ ls := by rw [q22]; exact Nat.ne_of_lt p16_0.lt
  have ge22 : n0 ≤ ls := by rw [q22]; exact z16
  have kp22 : h0.size ≤ ls := by rw [q22]; exact K16.1
  have f25 := f17.ext E22
  have f26 := p16_0.ext E22
  have f27 : Fld Z h22 ls "com/example/stochastic_ray_tracer/stochasticraytracer/LightSample" "pointX" "D" (.double (0 : UInt64)) := D22 (Or.inl (hw _ (List.mem_of_getElem? (i := 32) rfl))) (ty := .double) own_fd0
  have f28 : Fld Z h22 ls "com/example/stochastic_ray_tracer/stochasticraytracer/LightSample" "pointY" "D" (.double (0 : UInt64)) := D22 (Or.inl (hw _ (List.mem_of_getElem? (i := 34) rfl))) (ty := .double) own_fd0
  have f29 : Fld Z h22 ls "com/example/stochastic_ray_tracer/stochasticraytracer/LightSample" "pointZ" "D" (.double (0 : UInt64)) := D22 (Or.inl (hw _ (List.mem_of_getElem? (i := 36) rfl))) (ty := .double) own_fd0
  have f30 : Fld Z h22 ls "com/example/stochastic_ray_tracer/stochasticraytracer/LightSample" "normalX" "D" (.double (0 : UInt64)) := D22 (Or.inl (hw _ (List.mem_of_getElem? (i := 38) rfl))) (ty := .double) own_fd0
  have f31 : Fld Z h22 ls "com/example/stochastic_ray_tracer/stochasticraytracer/LightSample" "normalY" "D" (.double (0 : UInt64)) := D22 (Or.inl (hw _ (List.mem_of_getElem? (i := 40) rfl))) (ty := .double) own_fd0
  have f32 : Fld Z h22 ls "com/example/stochastic_ray_tracer/stochasticraytracer/LightSample" "normalZ" "D" (.double (0 : UInt64)) := D22 (Or.inl (hw _ (List.mem_of_getElem? (i := 42) rfl))) (ty := .double) own_fd0
  have f33 : Fld Z h22 ls "com/example/stochastic_ray_tracer/stochasticraytracer/LightSample" "radiance" "Lcom/example/stochastic_ray_tracer/stochasticraytracer/Rgb;" .null := D22 (Or.inl (hw _ (List.mem_of_getElem? (i := 44) rfl))) (ty := (.object "com/example/stochastic_ray_tracer/stochasticraytracer/Rgb")) own_fd1
  have f34 : Fld Z h22 ls "com/example/stochastic_ray_tracer/stochasticraytracer/LightSample" "density" "D" (.double (0 : UInt64)) := D22 (Or.inl (hw _ (List.mem_of_getElem? (i := 46) rfl))) (ty := .double) own_fd0
  have f35 : Fld Z h22 ls "com/example/stochastic_ray_tracer/stochasticraytracer/LightSample" "distance" "D" (.double (0 : UInt64)) := D22 (Or.inl (hw _ (List.mem_of_getElem? (i := 48) rfl))) (ty := .double) own_fd0
  have z22 := Nat.le_trans z16 E22.1
  have K22 := K16.ext E22
  refine g_dup (pc' := 79) X22 hx hby at_78 rfl rfl rfl ?_
  refine g_init (argsL := []) (pc' := 82) X22 hx hby (by rw [hml]; rfl) hZ hown rfl e22 (own_rm3 l Z a0 hw [] ls  h22 n0 z22) (hw _ (List.mem_of_getElem? (i := 22) rfl)) (hw _ (List.mem_of_getElem? (i := 23) rfl)) (hw _ (List.mem_of_getElem? (i := 21) rfl)) (hw _ (List.mem_of_getElem? (i := 24) rfl)) (by decide) own_pd1 rfl rfl (W := 1) rfl (by decide) (by decide) (by decide) (by decide) at_79 rfl ?_
  intro T36 v36 L36 X36 qq36
  obtain ⟨rfl, n36, e36⟩ := qq36
  have N36 := Fr.app N16 n36
  show Gf p e below P T36 m 82 #[.val (.int i0), .val (.int i1), .val (.int i2), .val (.int i3), .val (.int i4), .val (.int i5), .val (.double x6_1), .second, .val (.double x8_5), .second, .val (.double x10_9), .second, .val (.double x12_13), .second, .val (.double x14_18), .second, .val (.double x16_23), .second, .val (.double x18_32), .second, .val (.double x20_41), .second, .val (.ref r1), .val (.ref r2), .unset] [(.ref ls)]
  refine g_astore (pc' := 84) (Ls' := #[.val (.int i0), .val (.int i1), .val (.int i2), .val (.int i3), .val (.int i4), .val (.int i5), .val (.double x6_1), .second, .val (.double x8_5), .second, .val (.double x10_9), .second, .val (.double x12_13), .second, .val (.double x14_18), .second, .val (.double x16_23), .second, .val (.double x18_32), .second, .val (.double x20_41), .second, .val (.ref r1), .val (.ref r2), .val (.ref ls)]) X36 hx hby at_82 rfl rfl rfl rfl ?_
  refine g_aload (pc' := 86) X36 hx hby (v := (.ref ls)) at_84 rfl rfl rfl ?_
  refine g_dload (pc' := 88) X36 hx hby (v := x16_23) at_86 rfl rfl ?_
  refine g_dload (pc' := 90) X36 hx hby (v := x14_18) at_88 rfl rfl ?_
  refine g_dload (pc' := 92) X36 hx hby (v := x12_13) at_90 rfl rfl ?_
  refine g_dload (pc' := 94) X36 hx hby (v := x10_9) at_92 rfl rfl ?_
  refine g_dload (pc' := 96) X36 hx hby (v := x8_5) at_94 rfl rfl ?_
  refine g_dload (pc' := 98) X36 hx hby (v := x6_1) at_96 rfl rfl ?_
  refine g_aload (pc' := 100) X36 hx hby (v := (.ref r1)) at_98 rfl rfl rfl ?_
  refine g_dload (pc' := 102) X36 hx hby (v := x20_41) at_100 rfl rfl ?_
  refine g_dload (pc' := 104) X36 hx hby (v := x18_32) at_102 rfl rfl ?_
  refine g_virt (argsL := [(.double x16_23), (.double x14_18), (.double x12_13), (.double x10_9), (.double x8_5), (.double x6_1), (.ref r1), (.double x20_41), (.double x18_32)]) (pc' := 107) X36 hx hby (by rw [hml]; rfl) hZ hown e36 (own_rm4 l Z a0 hw [] ls x16_23 x14_18 x12_13 x10_9 x8_5 x6_1 r1 x20_41 x18_32 (.double (0 : UInt64)) (.double (0 : UInt64)) (.double (0 : UInt64)) (.double (0 : UInt64)) (.double (0 : UInt64)) (.double (0 : UInt64)) .null (.double (0 : UInt64)) (.double (0 : UInt64)) h22 n0 z22 A22 f27 f28 f29 f30 f31 f32 f33 f34 f35 ge22) (hw _ (List.mem_of_getElem? (i := 26) rfl)) (hw _ (List.mem_of_getElem? (i := 27) rfl)) (hw _ (List.mem_of_getElem? (i := 29) rfl)) (hw _ (List.mem_of_getElem? (i := 28) rfl)) (hw _ (List.mem_of_getElem? (i := 21) rfl)) (hw _ (List.mem_of_getElem? (i := 30) rfl)) (by decide) A22 own_pd2 rfl rfl (W := 0) rfl (by decide) (by decide) (by decide) (by decide) at_104 rfl ?_
  intro T37 v37 L37 X37 qq37
  obtain ⟨h37, e37⟩ : ∃ h, T37.heap = h := ⟨_, rfl⟩
  rw [e37] at qq37
  obtain ⟨rfl, n37, k37, p37_0, p37_1, p37_2, p37_3, p37_4, p37_5, p37_6, p37_7, p37_8, p37_9⟩ := qq37
  have f38 := f25.keep k37
  have f39 := f26.keep k37
  have f40 := A22.keep k37
  have z37 := Nat.le_trans z22 k37.1
  have K37 := K22.trans k37 (allS (Or.inr kp22) all0)
  have N37 := Fr.app N36 n37
  show Gf p e below P T37 m 107 #[.val (.int i0), .val (.int i1), .val (.int i2), .val (.int i3), .val (.int i4), .val (.int i5), .val (.double x6_1), .second, .val (.double x8_5), .second, .val (.double x10_9), .second, .val (.double x12_13), .second, .val (.double x14_18), .second, .val (.double x16_23), .second, .val (.double x18_32), .second, .val (.double x20_41), .second, .val (.ref r1), .val (.ref r2), .val (.ref ls)] []
  refine g_aload (pc' := 109) X37 hx hby (v := (.ref ls)) at_107 rfl rfl rfl ?_
  refine g_dload (pc' := 111) X37 hx hby (v := x6_1) at_109 rfl rfl ?_
  refine g_dload (pc' := 113) X37 hx hby (v := x8_5) at_111 rfl rfl ?_
  refine g_dload (pc' := 115) X37 hx hby (v := x10_9) at_113 rfl rfl ?_
  refine g_dload (pc' := 117) X37 hx hby (v := x12_13) at_115 rfl rfl ?_
  refine g_dload (pc' := 119) X37 hx hby (v := x14_18) at_117 rfl rfl ?_
  refine g_dload (pc' := 121) X37 hx hby (v := x16_23) at_119 rfl rfl ?_
  refine g_aload (pc' := 123) X37 hx hby (v := (.ref r2)) at_121 rfl rfl rfl ?_
  refine g_dload (pc' := 125) X37 hx hby (v := x18_32) at_123 rfl rfl ?_
  refine g_dload (pc' := 127) X37 hx hby (v := x20_41) at_125 rfl rfl ?_
  refine g_virt (argsL := [(.double x6_1), (.double x8_5), (.double x10_9), (.double x12_13), (.double x14_18), (.double x16_23), (.ref r2), (.double x18_32), (.double x20_41)]) (pc' := 130) X37 hx hby (by rw [hml]; rfl) hZ hown e37 (own_rm4 l Z a0 hw [] ls x6_1 x8_5 x10_9 x12_13 x14_18 x16_23 r2 x18_32 x20_41 (.double x16_23) (.double x14_18) (.double x12_13) (.double x10_9) (.double x8_5) (.double x6_1) (.ref r1) (.double x20_41) (.double x18_32) h37 n0 z37 p37_0 p37_1 p37_2 p37_3 p37_4 p37_5 p37_6 p37_7 p37_8 p37_9 ge22) (hw _ (List.mem_of_getElem? (i := 26) rfl)) (hw _ (List.mem_of_getElem? (i := 27) rfl)) (hw _ (List.mem_of_getElem? (i := 29) rfl)) (hw _ (List.mem_of_getElem? (i := 28) rfl)) (hw _ (List.mem_of_getElem? (i := 21) rfl)) (hw _ (List.mem_of_getElem? (i := 30) rfl)) (by decide) p37_0 own_pd2 rfl rfl (W := 0) rfl (by decide) (by decide) (by decide) (by decide) at_127 rfl ?_
  intro T50 v50 L50 X50 qq50
  obtain ⟨h50, e50⟩ : ∃ h, T50.heap = h := ⟨_, rfl⟩
  rw [e50] at qq50
  obtain ⟨rfl, n50, k50, p50_0, p50_1, p50_2, p50_3, p50_4, p50_5, p50_6, p50_7, p50_8, p50_9⟩ := qq50
  have f51 := f38.keep k50
  have f52 := f39.keep k50
  have f53 := p37_0.keep k50
  have z50 := Nat.le_trans z37 k50.1
  have K50 := K37.trans k50 (allS (Or.inr kp22) all0)
  have N50 := Fr.app N37 n50
  show Gf p e below P T50 m 130 #[.val (.int i0), .val (.int i1), .val (.int i2), .val (.int i3), .val (.int i4), .val (.int i5), .val (.double x6_1), .second, .val (.double x8_5), .second, .val (.double x10_9), .second, .val (.double x12_13), .second, .val (.double x14_18), .second, .val (.double x16_23), .second, .val (.double x18_32), .second, .val (.double x20_41), .second, .val (.ref r1), .val (.ref r2), .val (.ref ls)] []
  refine g_aload (pc' := 132) X50 hx hby (v := (.ref ls)) at_130 rfl rfl rfl ?_
  refine g_virt (argsL := []) (pc' := 135) X50 hx hby (by rw [hml]; rfl) hZ hown e50 (own_rm5 l Z a0 hw [] ls x6_1 h50 n0 z50 p50_1) (hw _ (List.mem_of_getElem? (i := 49) rfl)) (hw _ (List.mem_of_getElem? (i := 50) rfl)) (hw _ (List.mem_of_getElem? (i := 52) rfl)) (hw _ (List.mem_of_getElem? (i := 51) rfl)) (hw _ (List.mem_of_getElem? (i := 21) rfl)) (hw _ (List.mem_of_getElem? (i := 53) rfl)) (by decide) p50_0 own_pd3 rfl rfl (W := 0) rfl (by decide) (by decide) (by decide) (by decide) at_132 rfl ?_
  intro T63 v63 L63 X63 qq63
  obtain ⟨rfl, n63, e63⟩ := qq63
  have N63 := Fr.app N50 n63
  show Gf p e below P T63 m 135 #[.val (.int i0), .val (.int i1), .val (.int i2), .val (.int i3), .val (.int i4), .val (.int i5), .val (.double x6_1), .second, .val (.double x8_5), .second, .val (.double x10_9), .second, .val (.double x12_13), .second, .val (.double x14_18), .second, .val (.double x16_23), .second, .val (.double x18_32), .second, .val (.double x20_41), .second, .val (.ref r1), .val (.ref r2), .val (.ref ls)] [(.double x6_1)]
  refine g_dload (pc' := 137) X63 hx hby (v := x6_1) at_135 rfl rfl ?_
  refine g_dcmp (pc' := 138) (v := (cmpValue (FP.dcmp x6_1 x6_1) .l)) X63 hx hby at_137 rfl rfl rfl ?_
  refine g_ifN (pc' := 141) X63 hx hby at_138 rfl (teq (own_nni h_x6_1 .l : (cmpValue (FP.dcmp x6_1 x6_1) .l) = (0 : Int32))).2 rfl ?_
  refine g_aload (pc' := 143) X63 hx hby (v := (.ref ls)) at_141 rfl rfl rfl ?_
  refine g_virt (argsL := []) (pc' := 146) X63 hx hby (by rw [hml]; rfl) hZ hown e63 (own_rm6 l Z a0 hw [] ls x8_5 h50 n0 z50 p50_2) (hw _ (List.mem_of_getElem? (i := 54) rfl)) (hw _ (List.mem_of_getElem? (i := 55) rfl)) (hw _ (List.mem_of_getElem? (i := 57) rfl)) (hw _ (List.mem_of_getElem? (i := 56) rfl)) (hw _ (List.mem_of_getElem? (i := 21) rfl)) (hw _ (List.mem_of_getElem? (i := 58) rfl)) (by decide) p50_0 own_pd3 rfl rfl (W := 0) rfl (by decide) (by decide) (by decide) (by decide) at_143 rfl ?_
  intro T64 v64 L64 X64 qq64
  obtain ⟨rfl, n64, e64⟩ := qq64
  have N64 := Fr.app N63 n64
  show Gf p e below P T64 m 146 #[.val (.int i0), .val (.int i1), .val (.int i2), .val (.int i3), .val (.int i4), .val (.int i5), .val (.double x6_1), .second, .val (.double x8_5), .second, .val (.double x10_9), .second, .val (.double x12_13), .second, .val (.double x14_18), .second, .val (.double x16_23), .second, .val (.double x18_32), .second, .val (.double x20_41), .second, .val (.ref r1), .val (.ref r2), .val (.ref ls)] [(.double x8_5)]
  refine g_dload (pc' := 148) X64 hx hby (v := x8_5) at_146 rfl rfl ?_
  refine g_dcmp (pc' := 149) (v := (cmpValue (FP.dcmp x8_5 x8_5) .l)) X64 hx hby at_148 rfl rfl rfl ?_
  refine g_ifN (pc' := 152) X64 hx hby at_149 rfl (teq (own_nni h_x8_5 .l : (cmpValue (FP.dcmp x8_5 x8_5) .l) = (0 : Int32))).2 rfl ?_
  refine g_aload (pc' := 154) X64 hx hby (v := (.ref ls)) at_152 rfl rfl rfl ?_
  refine g_virt (argsL := []) (pc' := 157) X64 hx hby (by rw [hml]; rfl) hZ hown e64 (own_rm7 l Z a0 hw [] ls x10_9 h50 n0 z50 p50_3) (hw _ (List.mem_of_getElem? (i := 59) rfl)) (hw _ (List.mem_of_getElem? (i := 60) rfl)) (hw _ (List.mem_of_getElem? (i := 62) rfl)) (hw _ (List.mem_of_getElem? (i := 61) rfl)) (hw _ (List.mem_of_getElem? (i := 21) rfl)) (hw _ (List.mem_of_getElem? (i := 63) rfl)) (by decide) p50_0 own_pd3 rfl rfl (W := 0) rfl (by decide) (by decide) (by decide) (by decide) at_154 rfl ?_
  intro T65 v65 L65 X65 qq65
  obtain ⟨rfl, n65, e65⟩ := qq65
  have N65 := Fr.app N64 n65
  show Gf p e below P T65 m 157 #[.val (.int i0), .val (.int i1), .val (.int i2), .val (.int i3), .val (.int i4), .val (.int i5), .val (.double x6_1), .second, .val (.double x8_5), .second, .val (.double x10_9), .second, .val (.double x12_13), .second, .val (.double x14_18), .second, .val (.double x16_23), .second, .val (.double x18_32), .second, .val (.double x20_41), .second, .val (.ref r1), .val (.ref r2), .val (.ref ls)] [(.double x10_9)]
  refine g_dload (pc' := 159) X65 hx hby (v := x10_9) at_157 rfl rfl ?_
  refine g_dcmp (pc' := 160) (v := (cmpValue (FP.dcmp x10_9 x10_9) .l)) X65 hx hby at_159 rfl rfl rfl ?_
  refine g_ifN (pc' := 163) X65 hx hby at_160 rfl (teq (own_nni h_x10_9 .l : (cmpValue (FP.dcmp x10_9 x10_9) .l) = (0 : Int32))).2 rfl ?_
  refine g_aload (pc' := 165) X65 hx hby (v := (.ref ls)) at_163 rfl rfl rfl ?_
  refine g_virt (argsL := []) (pc' := 168) X65 hx hby (by rw [hml]; rfl) hZ hown e65 (own_rm8 l Z a0 hw [] ls x12_13 h50 n0 z50 p50_4) (hw _ (List.mem_of_getElem? (i := 64) rfl)) (hw _ (List.mem_of_getElem? (i := 65) rfl)) (hw _ (List.mem_of_getElem? (i := 67) rfl)) (hw _ (List.mem_of_getElem? (i := 66) rfl)) (hw _ (List.mem_of_getElem? (i := 21) rfl)) (hw _ (List.mem_of_getElem? (i := 68) rfl)) (by decide) p50_0 own_pd3 rfl rfl (W := 0) rfl (by decide) (by decide) (by decide) (by decide) at_165 rfl ?_
  intro T66 v66 L66 X66 qq66
  obtain ⟨rfl, n66, e66⟩ := qq66
  have N66 := Fr.app N65 n66
  show Gf p e below P T66 m 168 #[.val (.int i0), .val (.int i1), .val (.int i2), .val (.int i3), .val (.int i4), .val (.int i5), .val (.double x6_1), .second, .val (.double x8_5), .second, .val (.double x10_9), .second, .val (.double x12_13), .second, .val (.double x14_18), .second, .val (.double x16_23), .second, .val (.double x18_32), .second, .val (.double x20_41), .second, .val (.ref r1), .val (.ref r2), .val (.ref ls)] [(.double x12_13)]
  refine g_dload (pc' := 170) X66 hx hby (v := x12_13) at_168 rfl rfl ?_
  refine g_dcmp (pc' := 171) (v := (cmpValue (FP.dcmp x12_13 x12_13) .l)) X66 hx hby at_170 rfl rfl rfl ?_
  refine g_ifN (pc' := 174) X66 hx hby at_171 rfl (teq (own_nni h_x12_13 .l : (cmpValue (FP.dcmp x12_13 x12_13) .l) = (0 : Int32))).2 rfl ?_
  refine g_aload (pc' := 176) X66 hx hby (v := (.ref ls)) at_174 rfl rfl rfl ?_
  refine g_virt (argsL := []) (pc' := 179) X66 hx hby (by rw [hml]; rfl) hZ hown e66 (own_rm9 l Z a0 hw [] ls x14_18 h50 n0 z50 p50_5) (hw _ (List.mem_of_getElem? (i := 69) rfl)) (hw _ (List.mem_of_getElem? (i := 70) rfl)) (hw _ (List.mem_of_getElem? (i := 72) rfl)) (hw _ (List.mem_of_getElem? (i := 71) rfl)) (hw _ (List.mem_of_getElem? (i := 21) rfl)) (hw _ (List.mem_of_getElem? (i := 73) rfl)) (by decide) p50_0 own_pd3 rfl rfl (W := 0) rfl (by decide) (by decide) (by decide) (by decide) at_176 rfl ?_
  intro T67 v67 L67 X67 qq67
  obtain ⟨rfl, n67, e67⟩ := qq67
  have N67 := Fr.app N66 n67
  show Gf p e below P T67 m 179 #[.val (.int i0), .val (.int i1), .val (.int i2), .val (.int i3), .val (.int i4), .val (.int i5), .val (.double x6_1), .second, .val (.double x8_5), .second, .val (.double x10_9), .second, .val (.double x12_13), .second, .val (.double x14_18), .second, .val (.double x16_23), .second, .val (.double x18_32), .second, .val (.double x20_41), .second, .val (.ref r1), .val (.ref r2), .val (.ref ls)] [(.double x14_18)]
  refine g_dload (pc' := 181) X67 hx hby (v := x14_18) at_179 rfl rfl ?_
  refine g_dcmp (pc' := 182) (v := (cmpValue (FP.dcmp x14_18 x14_18) .l)) X67 hx hby at_181 rfl rfl rfl ?_
  refine g_ifN (pc' := 185) X67 hx hby at_182 rfl (teq (own_nni h_x14_18 .l : (cmpValue (FP.dcmp x14_18 x14_18) .l) = (0 : Int32))).2 rfl ?_
  refine g_aload (pc' := 187) X67 hx hby (v := (.ref ls)) at_185 rfl rfl rfl ?_
  refine g_virt (argsL := []) (pc' := 190) X67 hx hby (by rw [hml]; rfl) hZ hown e67 (own_rm10 l Z a0 hw [] ls x16_23 h50 n0 z50 p50_6) (hw _ (List.mem_of_getElem? (i := 74) rfl)) (hw _ (List.mem_of_getElem? (i := 75) rfl)) (hw _ (List.mem_of_getElem? (i := 77) rfl)) (hw _ (List.mem_of_getElem? (i := 76) rfl)) (hw _ (List.mem_of_getElem? (i := 21) rfl)) (hw _ (List.mem_of_getElem? (i := 78) rfl)) (by decide) p50_0 own_pd3 rfl rfl (W := 0) rfl (by decide) (by decide) (by decide) (by decide) at_187 rfl ?_
  intro T68 v68 L68 X68 qq68
  obtain ⟨rfl, n68, e68⟩ := qq68
  have N68 := Fr.app N67 n68
  show Gf p e below P T68 m 190 #[.val (.int i0), .val (.int i1), .val (.int i2), .val (.int i3), .val (.int i4), .val (.int i5), .val (.double x6_1), .second, .val (.double x8_5), .second, .val (.double x10_9), .second, .val (.double x12_13), .second, .val (.double x14_18), .second, .val (.double x16_23), .second, .val (.double x18_32), .second, .val (.double x20_41), .second, .val (.ref r1), .val (.ref r2), .val (.ref ls)] [(.double x16_23)]
  refine g_dload (pc' := 192) X68 hx hby (v := x16_23) at_190 rfl rfl ?_
  refine g_dcmp (pc' := 193) (v := (cmpValue (FP.dcmp x16_23 x16_23) .l)) X68 hx hby at_192 rfl rfl rfl ?_
  refine g_ifN (pc' := 196) X68 hx hby at_193 rfl (teq (own_nni h_x16_23 .l : (cmpValue (FP.dcmp x16_23 x16_23) .l) = (0 : Int32))).2 rfl ?_
  refine g_aload (pc' := 198) X68 hx hby (v := (.ref ls)) at_196 rfl rfl rfl ?_
  refine g_virt (argsL := []) (pc' := 201) X68 hx hby (by rw [hml]; rfl) hZ hown e68 (own_rm11 l Z a0 hw [] ls r2 h50 n0 z50 p50_7) (hw _ (List.mem_of_getElem? (i := 79) rfl)) (hw _ (List.mem_of_getElem? (i := 80) rfl)) (hw _ (List.mem_of_getElem? (i := 82) rfl)) (hw _ (List.mem_of_getElem? (i := 81) rfl)) (hw _ (List.mem_of_getElem? (i := 21) rfl)) (hw _ (List.mem_of_getElem? (i := 83) rfl)) (by decide) p50_0 own_pd4 rfl rfl (W := 0) rfl (by decide) (by decide) (by decide) (by decide) at_198 rfl ?_
  intro T69 v69 L69 X69 qq69
  obtain ⟨rfl, n69, e69⟩ := qq69
  have N69 := Fr.app N68 n69
  show Gf p e below P T69 m 201 #[.val (.int i0), .val (.int i1), .val (.int i2), .val (.int i3), .val (.int i4), .val (.int i5), .val (.double x6_1), .second, .val (.double x8_5), .second, .val (.double x10_9), .second, .val (.double x12_13), .second, .val (.double x14_18), .second, .val (.double x16_23), .second, .val (.double x18_32), .second, .val (.double x20_41), .second, .val (.ref r1), .val (.ref r2), .val (.ref ls)] [(.ref r2)]
  refine g_aload (pc' := 203) X69 hx hby (v := (.ref r2)) at_201 rfl rfl rfl ?_
  refine g_acmp (pc' := 206) X69 hx hby (same := true) at_203 rfl rfl rfl (decide_eq_true rfl) (by decide) (by decide) ?_
  refine g_aload (pc' := 208) X69 hx hby (v := (.ref ls)) at_206 rfl rfl rfl ?_
  refine g_virt (argsL := []) (pc' := 211) X69 hx hby (by rw [hml]; rfl) hZ hown e69 (own_rm12 l Z a0 hw [] ls x18_32 h50 n0 z50 p50_8) (hw _ (List.mem_of_getElem? (i := 84) rfl)) (hw _ (List.mem_of_getElem? (i := 85) rfl)) (hw _ (List.mem_of_getElem? (i := 87) rfl)) (hw _ (List.mem_of_getElem? (i := 86) rfl)) (hw _ (List.mem_of_getElem? (i := 21) rfl)) (hw _ (List.mem_of_getElem? (i := 88) rfl)) (by decide) p50_0 own_pd3 rfl rfl (W := 0) rfl (by decide) (by decide) (by decide) (by decide) at_208 rfl ?_
  intro T70 v70 L70 X70 qq70
  obtain ⟨rfl, n70, e70⟩ := qq70
  have N70 := Fr.app N69 n70
  show Gf p e below P T70 m 211 #[.val (.int i0), .val (.int i1), .val (.int i2), .val (.int i3), .val (.int i4), .val (.int i5), .val (.double x6_1), .second, .val (.double x8_5), .second, .val (.double x10_9), .second, .val (.double x12_13), .second, .val (.double x14_18), .second, .val (.double x16_23), .second, .val (.double x18_32), .second, .val (.double x20_41), .second, .val (.ref r1), .val (.ref r2), .val (.ref ls)] [(.double x18_32)]
  refine g_dload (pc' := 213) X70 hx hby (v := x18_32) at_211 rfl rfl ?_
  refine g_dcmp (pc' := 214) (v := (cmpValue (FP.dcmp x18_32 x18_32) .l)) X70 hx hby at_213 rfl rfl rfl ?_
  refine g_ifN (pc' := 217) X70 hx hby at_214 rfl (teq (own_q3 h_x18_32 .l : (cmpValue (FP.dcmp x18_32 x18_32) .l) = (0 : Int32))).2 rfl ?_
  refine g_aload (pc' := 219) X70 hx hby (v := (.ref ls)) at_217 rfl rfl rfl ?_
  refine g_virt (argsL := []) (pc' := 222) X70 hx hby (by rw [hml]; rfl) hZ hown e70 (own_rm13 l Z a0 hw [] ls x20_41 h50 n0 z50 p50_9) (hw _ (List.mem_of_getElem? (i := 89) rfl)) (hw _ (List.mem_of_getElem? (i := 90) rfl)) (hw _ (List.mem_of_getElem? (i := 92) rfl)) (hw _ (List.mem_of_getElem? (i := 91) rfl)) (hw _ (List.mem_of_getElem? (i := 21) rfl)) (hw _ (List.mem_of_getElem? (i := 93) rfl)) (by decide) p50_0 own_pd3 rfl rfl (W := 0) rfl (by decide) (by decide) (by decide) (by decide) at_219 rfl ?_
  intro T71 v71 L71 X71 qq71
  obtain ⟨rfl, n71, e71⟩ := qq71
  have N71 := Fr.app N70 n71
  show Gf p e below P T71 m 222 #[.val (.int i0), .val (.int i1), .val (.int i2), .val (.int i3), .val (.int i4), .val (.int i5), .val (.double x6_1), .second, .val (.double x8_5), .second, .val (.double x10_9), .second, .val (.double x12_13), .second, .val (.double x14_18), .second, .val (.double x16_23), .second, .val (.double x18_32), .second, .val (.double x20_41), .second, .val (.ref r1), .val (.ref r2), .val (.ref ls)] [(.double x20_41)]
  refine g_dload (pc' := 224) X71 hx hby (v := x20_41) at_222 rfl rfl ?_
  refine g_dcmp (pc' := 225) (v := (cmpValue (FP.dcmp x20_41 x20_41) .l)) X71 hx hby at_224 rfl rfl rfl ?_
  refine g_ifN (pc' := 228) X71 hx hby at_225 rfl (teq (own_q4 h_x20_41 .l : (cmpValue (FP.dcmp x20_41 x20_41) .l) = (0 : Int32))).2 rfl ?_
  refine g_iconst (pc' := 229) (v := (1 : Int32)) X71 hx hby at_228 rfl rfl ?_
  refine g_goto (pc' := 233) X71 hx hby at_229 (by decide) (by decide) ?_
  exact g_retZ X71 hx hby hf hlk hret at_233 rfl (by simp) rfl (by decide) (by decide) e71 ⟨rfl, N71, K50⟩
theorem comes_1 {Post : Tables → Env → Array Value → State → Outcome → State → Prop} (hpost : ∀ tb e args s v u, (limb_1_1.after args s (.returned v) u = true ∧ limb_1_2.after args s (.returned v) u = true ∧ True) → FrameEnd s (.returned v) u (Jvm.fieldLocs frame_1_writes args s ++ Jvm.arrayLocs frame_1_arrays args s ++ Jvm.staticLocs frame_1_statics s) 16 128 → Post tb e args s (.returned v) u) :
    ArmFor flags0 classFile x code maxLocals ret World_1 tables_1 room_1 Calls_1 rest_1 Pre_1 Post := by
  intro l hfl _ _ p e ha hc hk s m args below hf hA hF happ hP
  obtain ⟨hcalls, hrest, hpre⟩ := hP
  obtain ⟨-, -, -, hnamed, -, -, -, hat⟩ := (Spec.applies_iff hf).mp happ
  obtain ⟨hg, hn⟩ := and_e (Cond.before_iff.mp (show (Jvm.Cond.and given_1 narrow_1).before args s = true from hpre))
  obtain ⟨h1, g0⟩ := and_e hg
  obtain ⟨w0, w1, w2, w3, w4, w5, rfl⟩ : ∃ w0 w1 w2 w3 w4 w5 : Value, args = #[w0, w1, w2, w3, w4, w5] := by
    have hs : args.size = 6 := by simpa [Cond.value, given_1] using h1
    obtain ⟨L⟩ := args
    match L, hs with
    | [w0, w1, w2, w3, w4, w5], _ => exact ⟨w0, w1, w2, w3, w4, w5, rfl⟩
  have hw := fun d (hd : d ∈ tables_1) => atoms_spec (ws := Jvm.Cond.code x code maxLocals ret :: tables_1) hat d (List.mem_cons_of_mem _ hd)
  have hfit : Fit s := fun {y c} hc i hi => by
    obtain ⟨ha, rfl⟩ := Array.getElem?_eq_some_iff.mp hc
    have q := List.all_eq_true.mp ((Array.all_eq_true_iff_forall_mem.mp hF) _ (Array.getElem_mem ha)) i (List.mem_range.mpr hi)
    simpa [Array.getElem?_eq_getElem hi] using q
  obtain ⟨t0, g1⟩ := and_e g0
  obtain ⟨i0, e0⟩ := is_v t0
  obtain rfl : w0 = (.int i0) := Option.some.inj e0
  obtain ⟨t1, g2⟩ := and_e g1
  obtain ⟨i1, e1⟩ := is_v t1
  obtain rfl : w1 = (.int i1) := Option.some.inj e1
  obtain ⟨t2, g3⟩ := and_e g2
  obtain ⟨i2, e2⟩ := is_v t2
  obtain rfl : w2 = (.int i2) := Option.some.inj e2
  obtain ⟨t3, g4⟩ := and_e g3
  obtain ⟨i3, e3⟩ := is_v t3
  obtain rfl : w3 = (.int i3) := Option.some.inj e3
  obtain ⟨t4, g5⟩ := and_e g4
  obtain ⟨i4, e4⟩ := is_v t4
  obtain rfl : w4 = (.int i4) := Option.some.inj e4
  have t5 := g5
  obtain ⟨i5, e5⟩ := is_v t5
  obtain rfl : w5 = (.int i5) := Option.some.inj e5
  obtain ⟨n, o, h1, h2, h3, _, L, rfl, ⟨rfl, N, _⟩, hq⟩ := own_rm0 l s _ hw tables_1 i0 i1 i2 i3 i4 i5 s.heap s.heap.size (Nat.le_refl _)  p e ha hc hk s m _ below hf ((Spec.applies_iff_loose hf).mp happ).1 ⟨rfl, State.Warmed39.refl s, rfl⟩ trivial
  refine ⟨n, _, h1, h2, h3, hpost _ _ _ _ _ _ ⟨Cond.after_iff.mpr rfl, Cond.after_iff.mpr (eq_i res_at (Term.int_eval (1)) rfl), trivial⟩ ⟨hq.1, hq.2.1, (hq.2.2.sift fun y hy => Or.inr (N y hy)).mono (by decide) (by decide)⟩⟩
theorem main_1_1 : Claimed_1_1 := comes_1 fun _ _ _ _ _ _ h hF => ⟨h.1, hF⟩
theorem main_1_2 : Claimed_1_2 := comes_1 fun _ _ _ _ _ _ h hF => ⟨h.2.1, hF⟩
end Jvm.Pilot.@@N@@
namespace Jvm.Pilot.@@N@@
open Jvm Jvm.ClassFile Sem Op Lib Jvm.Free Jvm.Stand Jvm.Pilot.@@N@@.Jvm.D
/-! MADE BY PROGRAM (witnessworld.py) out of the Statement's table words and the real class files: 8 classes; the members and pool entries that the words name. The judged class is class 1, her method 1. -/
namespace start1
open Jvm.ClassFile
def u (s : String) : CpInfo := .utf8 (stringToUtf16 s)
/-- a pool by its gaps: so many unusable entries, then the entry; so many at the end -/
def gap : Nat → List CpInfo → List CpInfo
  | 0, r => r
  | n + 1, r => .unusable :: gap n r
def poolList (es : List (Nat × CpInfo)) (last : Nat) : List CpInfo := es.foldr (fun e r => gap e.1 (e.2 :: r)) (gap last [])
def pool (es : List (Nat × CpInfo)) (last : Nat) : Array CpInfo := ⟨poolList es last⟩
def fileOf (pool : Array CpInfo) (this : Nat) (attrs : Array Attribute := #[]) (ms : Array MethodInfo := #[]) (fl : Nat := 33) (sup : Nat := 0) (ifs : Array Nat := #[]) (fds : Array FieldInfo := #[]) : ClassFile where
  minorVersion := 0
  majorVersion := 65
  constantPool := pool
  accessFlags := fl
  thisClass := this
  superClass := sup
  interfaces := ifs
  fields := fds
  methods := ms
  attributes := attrs
def plain (name : String) (sup : Option ClassId) : Class where
  name := name
  kind := .ordinary
  loader := none
  accessFlags := 33
  super := sup
  interfaces := #[]
  cf := none
  fields := #[]
  methods := #[]
  instanceTypes := #[]
  staticTypes := #[]
  resolved := #[]
  callSites := []
  init := .initialized
  statics := none
  mirror := none

def pool0 : Array CpInfo := pool [(5, u "<init>"), (0, u "()V"), (1, .class_ 10), (1, u "java/lang/Object")] 113

def k0c0 : Code := { maxStack := 0, maxLocals := 1, code := object_method_1_code, exceptionTable := #[], attributes := #[] }
def k0m0 : Method := { name := "<init>", desc := "()V", sig := { parameters := [], returnType := none }, accessFlags := 1, code := some k0c0 }
/-- java/lang/Object -/
def k0 : Class := { plain "java/lang/Object" none with
  accessFlags := 33
  interfaces := #[]
  cf := some (fileOf pool0 8 #[] #[{ accessFlags := 1, nameIndex := 5, descriptorIndex := 6, attributes := #[] }] 33 0 #[] #[])
  fields := #[]
  methods := #[k0m0]
  instanceTypes := #[]
  staticTypes := #[]
  resolved := Array.replicate 124 none
  statics := none }

def pool1 : Array CpInfo := pool [(2, .class_ 4), (0, .nameAndType 5 6), (0, u "java/lang/Object"), (0, u "<init>"), (0, u "()V"), (0, .double 4598175219545276416), (1, .double 4602678819172646912), (1, .class_ 12), (0, u "com/example/stochastic_ray_tracer/stochasticraytracer/Rgb"), (0, .double 4611686018427387904), (1, .double 4613937818241073152), (1, .methodref 11 18), (0, .nameAndType 5 19), (0, u "(DDD)V"), (0, .class_ 21), (0, u "com/example/stochastic_ray_tracer/stochasticraytracer/LightSample"), (0, .methodref 20 3), (0, .methodref 20 24), (0, .nameAndType 25 26), (0, u "set"), (0, u "(DDDDDDLcom/example/stochastic_ray_tracer/stochasticraytracer/Rgb;DD)V"), (0, .methodref 20 28), (0, .nameAndType 29 30), (0, u "pointX"), (0, u "()D"), (0, .methodref 20 32), (0, .nameAndType 33 30), (0, u "pointY"), (0, .methodref 20 35), (0, .nameAndType 36 30), (0, u "pointZ"), (0, .methodref 20 38), (0, .nameAndType 39 30), (0, u "normalX"), (0, .methodref 20 41), (0, .nameAndType 42 30), (0, u "normalY"), (0, .methodref 20 44), (0, .nameAndType 45 30), (0, u "normalZ"), (0, .methodref 20 47), (0, .nameAndType 48 49), (0, u "radiance"), (0, u "()Lcom/example/stochastic_ray_tracer/stochasticraytracer/Rgb;"), (0, .methodref 20 51), (0, .nameAndType 52 30), (0, u "density"), (0, .methodref 20 54), (0, .nameAndType 55 30), (0, u "distance"), (0, .class_ 57), (0, u "com/example/stochastic_ray_tracer/stochasticraytracer/LightSampleSetPinLaw"), (2, u "law"), (0, u "(IIIIII)Z")] 3

def k1m0 : Method := { name := "<init>", desc := "()V", sig := { parameters := [], returnType := none }, accessFlags := 1, code := none }
def k1c1 : Code := { maxStack := 18, maxLocals := 25, code := code, exceptionTable := #[], attributes := #[] }
def k1m1 : Method := { name := "law", desc := "(IIIIII)Z", sig := { parameters := [.int, .int, .int, .int, .int, .int], returnType := some .boolean }, accessFlags := 9, code := some k1c1 }
/-- com/example/stochastic_ray_tracer/stochasticraytracer/LightSampleSetPinLaw -/
def k1 : Class := { plain "com/example/stochastic_ray_tracer/stochasticraytracer/LightSampleSetPinLaw" (some 0) with
  accessFlags := 49
  interfaces := #[]
  cf := some (fileOf pool1 56 #[] #[{ accessFlags := 1, nameIndex := 5, descriptorIndex := 6, attributes := #[] }, { accessFlags := 9, nameIndex := 60, descriptorIndex := 61, attributes := #[] }] 49 2 #[] #[])
  fields := #[]
  methods := #[k1m0, k1m1]
  instanceTypes := #[]
  staticTypes := #[]
  resolved := Array.replicate 65 none
  statics := none }

def pool2 : Array CpInfo := pool [(1, .methodref 2 3), (0, .class_ 4), (0, .nameAndType 5 6), (0, u "java/lang/Object"), (0, u "<init>"), (0, u "()V"), (0, .fieldref 8 9), (0, .class_ 10), (0, .nameAndType 11 12), (0, u "com/example/stochastic_ray_tracer/stochasticraytracer/Rgb"), (0, u "r"), (0, u "D"), (0, .fieldref 8 14), (0, .nameAndType 15 12), (0, u "g"), (0, .fieldref 8 17), (0, .nameAndType 18 12), (0, u "b"), (24, u "(DDD)V"), (26, u "BLACK"), (0, u "Lcom/example/stochastic_ray_tracer/stochasticraytracer/Rgb;"), (2, u "WHITE")] 42

def k2c0 : Code := { maxStack := 3, maxLocals := 7, code := prog_57_method_1_code, exceptionTable := #[], attributes := #[] }
def k2m0 : Method := { name := "<init>", desc := "(DDD)V", sig := { parameters := [.double, .double, .double], returnType := none }, accessFlags := 0, code := some k2c0 }
/-- com/example/stochastic_ray_tracer/stochasticraytracer/Rgb -/
def k2 : Class := { plain "com/example/stochastic_ray_tracer/stochasticraytracer/Rgb" (some 0) with
  accessFlags := 32
  interfaces := #[]
  cf := some (fileOf pool2 8 #[] #[{ accessFlags := 0, nameIndex := 5, descriptorIndex := 43, attributes := #[] }] 32 2 #[] #[{ accessFlags := 24, nameIndex := 70, descriptorIndex := 71, attributes := #[] }, { accessFlags := 24, nameIndex := 74, descriptorIndex := 71, attributes := #[] }, { accessFlags := 18, nameIndex := 11, descriptorIndex := 12, attributes := #[] }, { accessFlags := 18, nameIndex := 15, descriptorIndex := 12, attributes := #[] }, { accessFlags := 18, nameIndex := 18, descriptorIndex := 12, attributes := #[] }])
  fields := #[{ name := "BLACK", type := (.object "com/example/stochastic_ray_tracer/stochasticraytracer/Rgb"), accessFlags := 24, slot := 0, constantValue := 0 }, { name := "WHITE", type := (.object "com/example/stochastic_ray_tracer/stochasticraytracer/Rgb"), accessFlags := 24, slot := 1, constantValue := 0 }, { name := "r", type := .double, accessFlags := 18, slot := 0, constantValue := 0 }, { name := "g", type := .double, accessFlags := 18, slot := 1, constantValue := 0 }, { name := "b", type := .double, accessFlags := 18, slot := 2, constantValue := 0 }]
  methods := #[k2m0]
  instanceTypes := #[.double, .double, .double]
  staticTypes := #[(.object "com/example/stochastic_ray_tracer/stochasticraytracer/Rgb"), (.object "com/example/stochastic_ray_tracer/stochasticraytracer/Rgb")]
  resolved := Array.replicate 117 none
  statics := none }

def pool3 : Array CpInfo := pool [(1, .methodref 2 3), (0, .class_ 4), (0, .nameAndType 5 6), (0, u "java/lang/Object"), (0, u "<init>"), (0, u "()V"), (0, .fieldref 8 9), (0, .class_ 10), (0, .nameAndType 11 12), (0, u "com/example/stochastic_ray_tracer/stochasticraytracer/LightSample"), (0, u "pointX"), (0, u "D"), (0, .fieldref 8 14), (0, .nameAndType 15 12), (0, u "pointY"), (0, .fieldref 8 17), (0, .nameAndType 18 12), (0, u "pointZ"), (0, .fieldref 8 20), (0, .nameAndType 21 12), (0, u "normalX"), (0, .fieldref 8 23), (0, .nameAndType 24 12), (0, u "normalY"), (0, .fieldref 8 26), (0, .nameAndType 27 12), (0, u "normalZ"), (0, .fieldref 8 29), (0, .nameAndType 30 31), (0, u "radiance"), (0, u "Lcom/example/stochastic_ray_tracer/stochasticraytracer/Rgb;"), (0, .fieldref 8 33), (0, .nameAndType 34 12), (0, u "density"), (0, .fieldref 8 36), (0, .nameAndType 37 12), (0, u "distance"), (2, u "set"), (0, u "(DDDDDDLcom/example/stochastic_ray_tracer/stochasticraytracer/Rgb;DD)V"), (0, u "()D"), (0, u "()Lcom/example/stochastic_ray_tracer/stochasticraytracer/Rgb;")] 2

def k3c0 : Code := { maxStack := 1, maxLocals := 1, code := prog_34_method_1_code, exceptionTable := #[], attributes := #[] }
def k3m0 : Method := { name := "<init>", desc := "()V", sig := { parameters := [], returnType := none }, accessFlags := 0, code := some k3c0 }
def k3c1 : Code := { maxStack := 3, maxLocals := 18, code := prog_34_method_2_code, exceptionTable := #[], attributes := #[] }
def k3m1 : Method := { name := "set", desc := "(DDDDDDLcom/example/stochastic_ray_tracer/stochasticraytracer/Rgb;DD)V", sig := { parameters := [.double, .double, .double, .double, .double, .double, (.object "com/example/stochastic_ray_tracer/stochasticraytracer/Rgb"), .double, .double], returnType := none }, accessFlags := 0, code := some k3c1 }
def k3c2 : Code := { maxStack := 2, maxLocals := 1, code := prog_34_method_3_code, exceptionTable := #[], attributes := #[] }
def k3m2 : Method := { name := "pointX", desc := "()D", sig := { parameters := [], returnType := some .double }, accessFlags := 0, code := some k3c2 }
def k3c3 : Code := { maxStack := 2, maxLocals := 1, code := prog_34_method_4_code, exceptionTable := #[], attributes := #[] }
def k3m3 : Method := { name := "pointY", desc := "()D", sig := { parameters := [], returnType := some .double }, accessFlags := 0, code := some k3c3 }
def k3c4 : Code := { maxStack := 2, maxLocals := 1, code := prog_34_method_5_code, exceptionTable := #[], attributes := #[] }
def k3m4 : Method := { name := "pointZ", desc := "()D", sig := { parameters := [], returnType := some .double }, accessFlags := 0, code := some k3c4 }
def k3c5 : Code := { maxStack := 2, maxLocals := 1, code := prog_34_method_6_code, exceptionTable := #[], attributes := #[] }
def k3m5 : Method := { name := "normalX", desc := "()D", sig := { parameters := [], returnType := some .double }, accessFlags := 0, code := some k3c5 }
def k3c6 : Code := { maxStack := 2, maxLocals := 1, code := prog_34_method_7_code, exceptionTable := #[], attributes := #[] }
def k3m6 : Method := { name := "normalY", desc := "()D", sig := { parameters := [], returnType := some .double }, accessFlags := 0, code := some k3c6 }
def k3c7 : Code := { maxStack := 2, maxLocals := 1, code := prog_34_method_8_code, exceptionTable := #[], attributes := #[] }
def k3m7 : Method := { name := "normalZ", desc := "()D", sig := { parameters := [], returnType := some .double }, accessFlags := 0, code := some k3c7 }
def k3c8 : Code := { maxStack := 1, maxLocals := 1, code := prog_34_method_9_code, exceptionTable := #[], attributes := #[] }
def k3m8 : Method := { name := "radiance", desc := "()Lcom/example/stochastic_ray_tracer/stochasticraytracer/Rgb;", sig := { parameters := [], returnType := some (.object "com/example/stochastic_ray_tracer/stochasticraytracer/Rgb") }, accessFlags := 0, code := some k3c8 }
def k3c9 : Code := { maxStack := 2, maxLocals := 1, code := prog_34_method_10_code, exceptionTable := #[], attributes := #[] }
def k3m9 : Method := { name := "density", desc := "()D", sig := { parameters := [], returnType := some .double }, accessFlags := 0, code := some k3c9 }
def k3c10 : Code := { maxStack := 2, maxLocals := 1, code := prog_34_method_11_code, exceptionTable := #[], attributes := #[] }
def k3m10 : Method := { name := "distance", desc := "()D", sig := { parameters := [], returnType := some .double }, accessFlags := 0, code := some k3c10 }
/-- com/example/stochastic_ray_tracer/stochasticraytracer/LightSample -/
def k3 : Class := { plain "com/example/stochastic_ray_tracer/stochasticraytracer/LightSample" (some 0) with
  accessFlags := 32
  interfaces := #[]
  cf := some (fileOf pool3 8 #[] #[{ accessFlags := 0, nameIndex := 5, descriptorIndex := 6, attributes := #[] }, { accessFlags := 0, nameIndex := 40, descriptorIndex := 41, attributes := #[] }, { accessFlags := 0, nameIndex := 11, descriptorIndex := 42, attributes := #[] }, { accessFlags := 0, nameIndex := 15, descriptorIndex := 42, attributes := #[] }, { accessFlags := 0, nameIndex := 18, descriptorIndex := 42, attributes := #[] }, { accessFlags := 0, nameIndex := 21, descriptorIndex := 42, attributes := #[] }, { accessFlags := 0, nameIndex := 24, descriptorIndex := 42, attributes := #[] }, { accessFlags := 0, nameIndex := 27, descriptorIndex := 42, attributes := #[] }, { accessFlags := 0, nameIndex := 30, descriptorIndex := 43, attributes := #[] }, { accessFlags := 0, nameIndex := 34, descriptorIndex := 42, attributes := #[] }, { accessFlags := 0, nameIndex := 37, descriptorIndex := 42, attributes := #[] }] 32 2 #[] #[{ accessFlags := 2, nameIndex := 11, descriptorIndex := 12, attributes := #[] }, { accessFlags := 2, nameIndex := 15, descriptorIndex := 12, attributes := #[] }, { accessFlags := 2, nameIndex := 18, descriptorIndex := 12, attributes := #[] }, { accessFlags := 2, nameIndex := 21, descriptorIndex := 12, attributes := #[] }, { accessFlags := 2, nameIndex := 24, descriptorIndex := 12, attributes := #[] }, { accessFlags := 2, nameIndex := 27, descriptorIndex := 12, attributes := #[] }, { accessFlags := 2, nameIndex := 30, descriptorIndex := 31, attributes := #[] }, { accessFlags := 2, nameIndex := 34, descriptorIndex := 12, attributes := #[] }, { accessFlags := 2, nameIndex := 37, descriptorIndex := 12, attributes := #[] }])
  fields := #[{ name := "pointX", type := .double, accessFlags := 2, slot := 0, constantValue := 0 }, { name := "pointY", type := .double, accessFlags := 2, slot := 1, constantValue := 0 }, { name := "pointZ", type := .double, accessFlags := 2, slot := 2, constantValue := 0 }, { name := "normalX", type := .double, accessFlags := 2, slot := 3, constantValue := 0 }, { name := "normalY", type := .double, accessFlags := 2, slot := 4, constantValue := 0 }, { name := "normalZ", type := .double, accessFlags := 2, slot := 5, constantValue := 0 }, { name := "radiance", type := (.object "com/example/stochastic_ray_tracer/stochasticraytracer/Rgb"), accessFlags := 2, slot := 6, constantValue := 0 }, { name := "density", type := .double, accessFlags := 2, slot := 7, constantValue := 0 }, { name := "distance", type := .double, accessFlags := 2, slot := 8, constantValue := 0 }]
  methods := #[k3m0, k3m1, k3m2, k3m3, k3m4, k3m5, k3m6, k3m7, k3m8, k3m9, k3m10]
  instanceTypes := #[.double, .double, .double, .double, .double, .double, (.object "com/example/stochastic_ray_tracer/stochasticraytracer/Rgb"), .double, .double]
  staticTypes := #[]
  resolved := Array.replicate 46 none
  statics := none }

def pool4 : Array CpInfo := pool [(1, u "java/lang/Cloneable"), (0, .class_ 1), (0, u "java/lang/Object"), (0, .class_ 3)] 3

/-- java/lang/Cloneable -/
def k4 : Class := { plain "java/lang/Cloneable" (some 0) with
  accessFlags := 1537
  interfaces := #[]
  cf := some (fileOf pool4 2 #[] #[] 1537 4 #[] #[])
  fields := #[]
  methods := #[]
  instanceTypes := #[]
  staticTypes := #[]
  resolved := Array.replicate 8 none
  statics := none }

def pool5 : Array CpInfo := pool [(1, u "java/io/Serializable"), (0, .class_ 1), (0, u "java/lang/Object"), (0, .class_ 3)] 3

/-- java/io/Serializable -/
def k5 : Class := { plain "java/io/Serializable" (some 0) with
  accessFlags := 1537
  interfaces := #[]
  cf := some (fileOf pool5 2 #[] #[] 1537 4 #[] #[])
  fields := #[]
  methods := #[]
  instanceTypes := #[]
  staticTypes := #[]
  resolved := Array.replicate 8 none
  statics := none }

/-- the primitive byte -/
def k6 : Class := { plain "byte" none with kind := .primitive 'B', accessFlags := 0x411 }
/-- [B -/
def k7 : Class := { plain "[B" (some 0) with kind := .array 6 .byte, interfaces := #[4, 5], accessFlags := 1041 }

def heap : Heap := #[]
def classes : Array Class := #[k0, k1, k2, k3, k4, k5, k6, k7]
def interned : List (Array UInt16 × Addr) := []
def slotsUsed : Nat := 0
def theMethod : MethodId := ⟨1, 1⟩
def args0 : Array Value := #[.int 5, .int 5, .int 5, .int 5, .int 5, .int 5]
def aboutOver (below : List Frame) : State where
  vm := { classes := classes, interned := interned.toArray }
  heap := heap
  slotsUsed := slotsUsed
  threads := #[{ frames := .invoking theMethod args0 :: below }]
def below0 : List Frame := [.native { method := ⟨0, 0⟩, args := #[] }]
def about1 : State := aboutOver below0
def p0 : Program := .bare "" "" ""
def e0 : Env := launch0.env 0 0 0
theorem w_frames : about1.frames = Frame.invoking theMethod args0 :: below0 := rfl
set_option maxRecDepth 65536 in
theorem w_args : argsFit about1.vm theMethod args0 = true := by decide +kernel
set_option maxRecDepth 65536 in
theorem w_heap : heapFits about1 = true := by decide +kernel
set_option maxRecDepth 65536 in
theorem w_runnable : about1.curStatus? = some .runnable := by decide +kernel
set_option maxRecDepth 65536 in
theorem w_alone : about1.alone = true := by decide +kernel
set_option maxRecDepth 65536 in
theorem w_named : about1.methodNamed? x = some theMethod := by decide +kernel
set_option maxRecDepth 65536 in
theorem w_hears : about1.hears theMethod below0 = true := by decide +kernel
set_option maxRecDepth 65536 in
theorem w_ripe : about1.ripe theMethod args0 below0 = true := by decide +kernel
theorem w_running : about1.status = .running := rfl
set_option maxRecDepth 65536 in
theorem w_room : about1.hasRoom e0.platform room_1 = true :=
  launch0.hasRoom_least _ room_1 (by decide +kernel) (by decide +kernel) (by decide +kernel) (by decide +kernel) (by decide +kernel) (by decide +kernel)
theorem allAtoms_all (ts : List Jvm.Cond) (a : Array Jvm.Value) (st : Jvm.State) : (allAtoms ts).before a st = ts.all (fun c => c.before a st) := by
  induction ts with
  | nil => rfl
  | cons c t ih =>
    show (Jvm.Cond.and c (allAtoms t)).before a st = _
    rw [Jvm.Cond.before_and, ih, List.all_cons]
def words1 : List Jvm.Cond := Jvm.Cond.code x code maxLocals ret :: tables_1
/-- a 'code' word, met by the world's own term for the bytes: nothing is compared byte by byte -/
theorem code_word {y : MethodName} {bytes : ByteArray} {mx : Nat} {rt : Option FieldType} {a : Array Value} {s : State} {m : MethodId} {meth : Method} {c : Code} (h1 : s.methodNamed? y = some m) (h2 : s.vm.method? m = some meth) (h3 : meth.code = some c) (h4 : c.code = bytes)
    (h5 : (c.maxLocals == mx && c.exceptionTable.isEmpty && decide (c.maxStack ≤ mostOperands) && decide (meth.sig.returnType = rt) && !meth.locks && decide (parseMethodDescriptor y.desc = some meth.sig)) = true) : (Jvm.Cond.code y bytes mx rt).before a s = true := by
  simp only [Bool.and_eq_true, beq_iff_eq, Bool.not_eq_true', decide_eq_true_eq] at h5
  obtain ⟨⟨⟨⟨⟨g1, g2⟩, g3⟩, g4⟩, g5⟩, g6⟩ := h5
  simp [Cond.before, Cond.holds, Cond.value, h1, h2, h3, h4, g1, g2, g3, g4, g5, g6]
def isCode : Jvm.Cond → Bool
  | .code _ _ _ _ => true
  | _ => false
theorem all_split {L : List Jvm.Cond} {P : Jvm.Cond → Bool} (h1 : L.all (fun c => isCode c || P c) = true) (h2 : ∀ c ∈ L.filter isCode, P c = true) : L.all P = true := by
  refine List.all_eq_true.mpr fun c hc => ?_
  have h := List.all_eq_true.mp h1 c hc
  rcases Bool.eq_false_or_eq_true (isCode c) with hi | hi
  · exact h2 c (List.mem_filter.mpr ⟨hc, hi⟩)
  · simpa [hi] using h
set_option maxRecDepth 65536 in
theorem w_c0 : (Jvm.Cond.code x code maxLocals ret).before args0 about1 = true := code_word (m := ⟨1, 1⟩) (meth := k1m1) (c := k1c1) (by decide +kernel) rfl rfl rfl (by decide +kernel)
set_option maxRecDepth 65536 in
theorem w_c1 : (Jvm.Cond.code ({ cls := "com/example/stochastic_ray_tracer/stochasticraytracer/Rgb", name := "<init>", desc := "(DDD)V" } : Jvm.MethodName) prog_57_method_1_code (7 : Nat) (Option.none : Option Jvm.ClassFile.FieldType)).before args0 about1 = true := code_word (m := ⟨2, 0⟩) (meth := k2m0) (c := k2c0) (by decide +kernel) rfl rfl rfl (by decide +kernel)
set_option maxRecDepth 65536 in
theorem w_c2 : (Jvm.Cond.code ({ cls := "java/lang/Object", name := "<init>", desc := "()V" } : Jvm.MethodName) object_method_1_code (1 : Nat) (Option.none : Option Jvm.ClassFile.FieldType)).before args0 about1 = true := code_word (m := ⟨0, 0⟩) (meth := k0m0) (c := k0c0) (by decide +kernel) rfl rfl rfl (by decide +kernel)
set_option maxRecDepth 65536 in
theorem w_c3 : (Jvm.Cond.code ({ cls := "com/example/stochastic_ray_tracer/stochasticraytracer/LightSample", name := "<init>", desc := "()V" } : Jvm.MethodName) prog_34_method_1_code (1 : Nat) (Option.none : Option Jvm.ClassFile.FieldType)).before args0 about1 = true := code_word (m := ⟨3, 0⟩) (meth := k3m0) (c := k3c0) (by decide +kernel) rfl rfl rfl (by decide +kernel)
set_option maxRecDepth 65536 in
theorem w_c4 : (Jvm.Cond.code ({ cls := "com/example/stochastic_ray_tracer/stochasticraytracer/LightSample", name := "set", desc := "(DDDDDDLcom/example/stochastic_ray_tracer/stochasticraytracer/Rgb;DD)V" } : Jvm.MethodName) prog_34_method_2_code (18 : Nat) (Option.none : Option Jvm.ClassFile.FieldType)).before args0 about1 = true := code_word (m := ⟨3, 1⟩) (meth := k3m1) (c := k3c1) (by decide +kernel) rfl rfl rfl (by decide +kernel)
set_option maxRecDepth 65536 in
theorem w_c5 : (Jvm.Cond.code ({ cls := "com/example/stochastic_ray_tracer/stochasticraytracer/LightSample", name := "pointX", desc := "()D" } : Jvm.MethodName) prog_34_method_3_code (1 : Nat) (Option.some Jvm.ClassFile.FieldType.double)).before args0 about1 = true := code_word (m := ⟨3, 2⟩) (meth := k3m2) (c := k3c2) (by decide +kernel) rfl rfl rfl (by decide +kernel)
set_option maxRecDepth 65536 in
theorem w_c6 : (Jvm.Cond.code ({ cls := "com/example/stochastic_ray_tracer/stochasticraytracer/LightSample", name := "pointY", desc := "()D" } : Jvm.MethodName) prog_34_method_4_code (1 : Nat) (Option.some Jvm.ClassFile.FieldType.double)).before args0 about1 = true := code_word (m := ⟨3, 3⟩) (meth := k3m3) (c := k3c3) (by decide +kernel) rfl rfl rfl (by decide +kernel)
set_option maxRecDepth 65536 in
theorem w_c7 : (Jvm.Cond.code ({ cls := "com/example/stochastic_ray_tracer/stochasticraytracer/LightSample", name := "pointZ", desc := "()D" } : Jvm.MethodName) prog_34_method_5_code (1 : Nat) (Option.some Jvm.ClassFile.FieldType.double)).before args0 about1 = true := code_word (m := ⟨3, 4⟩) (meth := k3m4) (c := k3c4) (by decide +kernel) rfl rfl rfl (by decide +kernel)
set_option maxRecDepth 65536 in
theorem w_c8 : (Jvm.Cond.code ({ cls := "com/example/stochastic_ray_tracer/stochasticraytracer/LightSample", name := "normalX", desc := "()D" } : Jvm.MethodName) prog_34_method_6_code (1 : Nat) (Option.some Jvm.ClassFile.FieldType.double)).before args0 about1 = true := code_word (m := ⟨3, 5⟩) (meth := k3m5) (c := k3c5) (by decide +kernel) rfl rfl rfl (by decide +kernel)
set_option maxRecDepth 65536 in
theorem w_c9 : (Jvm.Cond.code ({ cls := "com/example/stochastic_ray_tracer/stochasticraytracer/LightSample", name := "normalY", desc := "()D" } : Jvm.MethodName) prog_34_method_7_code (1 : Nat) (Option.some Jvm.ClassFile.FieldType.double)).before args0 about1 = true := code_word (m := ⟨3, 6⟩) (meth := k3m6) (c := k3c6) (by decide +kernel) rfl rfl rfl (by decide +kernel)
set_option maxRecDepth 65536 in
theorem w_c10 : (Jvm.Cond.code ({ cls := "com/example/stochastic_ray_tracer/stochasticraytracer/LightSample", name := "normalZ", desc := "()D" } : Jvm.MethodName) prog_34_method_8_code (1 : Nat) (Option.some Jvm.ClassFile.FieldType.double)).before args0 about1 = true := code_word (m := ⟨3, 7⟩) (meth := k3m7) (c := k3c7) (by decide +kernel) rfl rfl rfl (by decide +kernel)
set_option maxRecDepth 65536 in
theorem w_c11 : (Jvm.Cond.code ({ cls := "com/example/stochastic_ray_tracer/stochasticraytracer/LightSample", name := "radiance", desc := "()Lcom/example/stochastic_ray_tracer/stochasticraytracer/Rgb;" } : Jvm.MethodName) prog_34_method_9_code (1 : Nat) (Option.some (Jvm.ClassFile.FieldType.object "com/example/stochastic_ray_tracer/stochasticraytracer/Rgb"))).before args0 about1 = true := code_word (m := ⟨3, 8⟩) (meth := k3m8) (c := k3c8) (by decide +kernel) rfl rfl rfl (by decide +kernel)
set_option maxRecDepth 65536 in
theorem w_c12 : (Jvm.Cond.code ({ cls := "com/example/stochastic_ray_tracer/stochasticraytracer/LightSample", name := "density", desc := "()D" } : Jvm.MethodName) prog_34_method_10_code (1 : Nat) (Option.some Jvm.ClassFile.FieldType.double)).before args0 about1 = true := code_word (m := ⟨3, 9⟩) (meth := k3m9) (c := k3c9) (by decide +kernel) rfl rfl rfl (by decide +kernel)
set_option maxRecDepth 65536 in
theorem w_c13 : (Jvm.Cond.code ({ cls := "com/example/stochastic_ray_tracer/stochasticraytracer/LightSample", name := "distance", desc := "()D" } : Jvm.MethodName) prog_34_method_11_code (1 : Nat) (Option.some Jvm.ClassFile.FieldType.double)).before args0 about1 = true := code_word (m := ⟨3, 10⟩) (meth := k3m10) (c := k3c10) (by decide +kernel) rfl rfl rfl (by decide +kernel)
def codes1 : List Jvm.Cond := [Jvm.Cond.code x code maxLocals ret, Jvm.Cond.code ({ cls := "com/example/stochastic_ray_tracer/stochasticraytracer/Rgb", name := "<init>", desc := "(DDD)V" } : Jvm.MethodName) prog_57_method_1_code (7 : Nat) (Option.none : Option Jvm.ClassFile.FieldType), Jvm.Cond.code ({ cls := "java/lang/Object", name := "<init>", desc := "()V" } : Jvm.MethodName) object_method_1_code (1 : Nat) (Option.none : Option Jvm.ClassFile.FieldType), Jvm.Cond.code ({ cls := "com/example/stochastic_ray_tracer/stochasticraytracer/LightSample", name := "<init>", desc := "()V" } : Jvm.MethodName) prog_34_method_1_code (1 : Nat) (Option.none : Option Jvm.ClassFile.FieldType), Jvm.Cond.code ({ cls := "com/example/stochastic_ray_tracer/stochasticraytracer/LightSample", name := "set", desc := "(DDDDDDLcom/example/stochastic_ray_tracer/stochasticraytracer/Rgb;DD)V" } : Jvm.MethodName) prog_34_method_2_code (18 : Nat) (Option.none : Option Jvm.ClassFile.FieldType), Jvm.Cond.code ({ cls := "com/example/stochastic_ray_tracer/stochasticraytracer/LightSample", name := "pointX", desc := "()D" } : Jvm.MethodName) prog_34_method_3_code (1 : Nat) (Option.some Jvm.ClassFile.FieldType.double), Jvm.Cond.code ({ cls := "com/example/stochastic_ray_tracer/stochasticraytracer/LightSample", name := "pointY", desc := "()D" } : Jvm.MethodName) prog_34_method_4_code (1 : Nat) (Option.some Jvm.ClassFile.FieldType.double), Jvm.Cond.code ({ cls := "com/example/stochastic_ray_tracer/stochasticraytracer/LightSample", name := "pointZ", desc := "()D" } : Jvm.MethodName) prog_34_method_5_code (1 : Nat) (Option.some Jvm.ClassFile.FieldType.double), Jvm.Cond.code ({ cls := "com/example/stochastic_ray_tracer/stochasticraytracer/LightSample", name := "normalX", desc := "()D" } : Jvm.MethodName) prog_34_method_6_code (1 : Nat) (Option.some Jvm.ClassFile.FieldType.double), Jvm.Cond.code ({ cls := "com/example/stochastic_ray_tracer/stochasticraytracer/LightSample", name := "normalY", desc := "()D" } : Jvm.MethodName) prog_34_method_7_code (1 : Nat) (Option.some Jvm.ClassFile.FieldType.double), Jvm.Cond.code ({ cls := "com/example/stochastic_ray_tracer/stochasticraytracer/LightSample", name := "normalZ", desc := "()D" } : Jvm.MethodName) prog_34_method_8_code (1 : Nat) (Option.some Jvm.ClassFile.FieldType.double), Jvm.Cond.code ({ cls := "com/example/stochastic_ray_tracer/stochasticraytracer/LightSample", name := "radiance", desc := "()Lcom/example/stochastic_ray_tracer/stochasticraytracer/Rgb;" } : Jvm.MethodName) prog_34_method_9_code (1 : Nat) (Option.some (Jvm.ClassFile.FieldType.object "com/example/stochastic_ray_tracer/stochasticraytracer/Rgb")), Jvm.Cond.code ({ cls := "com/example/stochastic_ray_tracer/stochasticraytracer/LightSample", name := "density", desc := "()D" } : Jvm.MethodName) prog_34_method_10_code (1 : Nat) (Option.some Jvm.ClassFile.FieldType.double), Jvm.Cond.code ({ cls := "com/example/stochastic_ray_tracer/stochasticraytracer/LightSample", name := "distance", desc := "()D" } : Jvm.MethodName) prog_34_method_11_code (1 : Nat) (Option.some Jvm.ClassFile.FieldType.double)]
set_option maxRecDepth 65536 in
theorem codes_eq : words1.filter isCode = codes1 := rfl
theorem w_codes : ∀ c ∈ words1.filter isCode, c.before args0 about1 = true := by
  rw [codes_eq]
  intro c hc
  simp only [codes1, List.mem_cons, List.not_mem_nil, or_false] at hc
  rcases hc with rfl | rfl | rfl | rfl | rfl | rfl | rfl | rfl | rfl | rfl | rfl | rfl | rfl | rfl
  · exact w_c0
  · exact w_c1
  · exact w_c2
  · exact w_c3
  · exact w_c4
  · exact w_c5
  · exact w_c6
  · exact w_c7
  · exact w_c8
  · exact w_c9
  · exact w_c10
  · exact w_c11
  · exact w_c12
  · exact w_c13
set_option maxRecDepth 65536 in
theorem w_t1 : (words1.take 24).all (fun c => isCode c || c.before args0 about1) = true := by decide +kernel
set_option maxRecDepth 65536 in
theorem w_t2 : ((words1.drop 24).take 24).all (fun c => isCode c || c.before args0 about1) = true := by decide +kernel
set_option maxRecDepth 65536 in
theorem w_t3 : (((words1.drop 24).drop 24).take 24).all (fun c => isCode c || c.before args0 about1) = true := by decide +kernel
set_option maxRecDepth 65536 in
theorem w_t4 : (((words1.drop 24).drop 24).drop 24).all (fun c => isCode c || c.before args0 about1) = true := by decide +kernel
theorem w_tables : (allAtoms (Jvm.Cond.code x code maxLocals ret :: tables_1)).before args0 about1 = true := by
  rw [allAtoms_all]
  show words1.all (fun c => c.before args0 about1) = true
  refine all_split ?_ w_codes
  rw [← List.take_append_drop 24 words1, List.all_append, w_t1, ← List.take_append_drop 24 (words1.drop 24), List.all_append, w_t2, ← List.take_append_drop 24 ((words1.drop 24).drop 24), List.all_append, w_t3, w_t4]
  rfl
set_option maxRecDepth 65536 in
theorem w_case : (Jvm.Cond.and given_1 narrow_1).before args0 about1 = true := by decide +kernel
theorem w_applies : (headSpec (Jvm.Cond.code x code maxLocals ret :: tables_1) room_1).applies x e0.platform about1 = true :=
  (Spec.applies_iff w_frames).mpr ⟨w_running, w_runnable, w_alone, w_named, w_hears, w_ripe, w_room, w_tables⟩
theorem atStart : AtStart classFile x code maxLocals ret World_1 tables_1 room_1 Calls_1 rest_1 Pre_1 launch0 p0 e0 about1 theMethod args0 below0 :=
  ⟨lists_1, trivial, launch0.admits_env _ _ _, launch0.least_env, fairChoices_fair.cas, fairChoices_fair.clock, w_frames, w_args, w_heap, w_applies, trivial, trivial, w_case⟩
end start1
theorem witness_1 : WitnessClaimed_1 := ⟨start1.p0, start1.e0, start1.about1, start1.theMethod, start1.args0, start1.below0, start1.atStart⟩
end Jvm.Pilot.@@N@@
