import JvmDerived
import JvmDerived.Pilot.@@N@@Statement
import JvmDerived.Pilot.@@N@@Code
set_option linter.unusedVariables false
set_option linter.unusedSimpArgs false
@@BLOCK:NumsL.lean.txt@@
namespace Jvm.Own
open Jvm Jvm.ClassFile Sem Op Lib Jvm.Free Jvm.Stand Jvm.LawKit Jvm.RoadKit
/-- from A the run comes to the invocation's end, where P holds -/
def Go (p : Program) (e : Env) (below : List Frame) (P : Outcome → State → Prop) (A : State) : Prop := ∃ s₂ o, Steps p.tables e below A s₂ ∧ s₂.status = .running ∧ Ended s₂ below o ∧ P o s₂
def Gf (p : Program) (e : Env) (below : List Frame) (P : Outcome → State → Prop) (T : State) (m : MethodId) (pc : Nat) (Ls : Array Slot) (st : List Value) : Prop := Go p e below P (T.setTop (mkF m pc Ls st))
theorem Go.step {p : Program} {e : Env} {below : List Frame} {P : Outcome → State → Prop} {A B : State} (h : ∀ t, Steps p.tables e below B t → Steps p.tables e below A t) (g : Go p e below P B) : Go p e below P A := by
  obtain ⟨s2, o, h1, h2⟩ := g
  exact ⟨s2, o, h _ h1, h2⟩
section Steps1
variable {p : Program} {l : Launch} {e : Env} {R : Room} {s : State} {m : MethodId} {args : Array Value} {below : List Frame} {meth : Method} {c : Code} {T : State} {locs : List Loc} {cells slots : Nat} {P : Outcome → State → Prop} {code : ByteArray} {pc pc' : Nat} {Ls Ls' : Array Slot} {st st' : List Value}
theorem g_iloadN (X : Stand p l e R s m args below meth c T locs cells slots) (hx : p.tables.exec = Jvm.exec) (hby : c.code = code) {k : Fin 4} {v : Int32} (hd : decode code pc = .ok (.iload_n k, 1)) (hl : Ls[k.val]? = some (.val (.int v))) (hp : pc + 1 = pc') (g : Gf p e below P T m pc' Ls (.int v :: st)) : Gf p e below P T m pc Ls st := by
  subst hp
  exact Go.step (fun t k => XS.iloadN X.here hx rfl (hb hby hd) hl k) g
theorem g_iload (X : Stand p l e R s m args below meth c T locs cells slots) (hx : p.tables.exec = Jvm.exec) (hby : c.code = code) {k : Nat} {v : Int32} (hd : decode code pc = .ok (.iload k, 2)) (hl : Ls[k]? = some (.val (.int v))) (hp : pc + 2 = pc') (g : Gf p e below P T m pc' Ls (.int v :: st)) : Gf p e below P T m pc Ls st := by
  subst hp
  exact Go.step (fun t k => XS.iload X.here hx rfl (hb hby hd) hl k) g
theorem g_istoreN (X : Stand p l e R s m args below meth c T locs cells slots) (hx : p.tables.exec = Jvm.exec) (hby : c.code = code) {k : Fin 4} {v : Int32} (hd : decode code pc = .ok (.istore_n k, 1)) (hst : st = .int v :: st') (hl : storeLocals Ls k.val (.int v) = some Ls') (hp : pc + 1 = pc') (g : Gf p e below P T m pc' Ls' st') : Gf p e below P T m pc Ls st := by
  subst hp hst
  exact Go.step (fun t k => XS.istoreN X.here hx rfl (hb hby hd) rfl hl k) g
theorem g_istore (X : Stand p l e R s m args below meth c T locs cells slots) (hx : p.tables.exec = Jvm.exec) (hby : c.code = code) {k : Nat} {v : Int32} (hd : decode code pc = .ok (.istore k, 2)) (hst : st = .int v :: st') (hl : storeLocals Ls k (.int v) = some Ls') (hp : pc + 2 = pc') (g : Gf p e below P T m pc' Ls' st') : Gf p e below P T m pc Ls st := by
  subst hp hst
  exact Go.step (fun t k => XS.istore X.here hx rfl (hb hby hd) rfl hl k) g
theorem g_lloadN (X : Stand p l e R s m args below meth c T locs cells slots) (hx : p.tables.exec = Jvm.exec) (hby : c.code = code) {k : Fin 4} {v : Int64} (hd : decode code pc = .ok (.lload_n k, 1)) (hl : Ls[k.val]? = some (.val (.long v))) (hp : pc + 1 = pc') (g : Gf p e below P T m pc' Ls (.long v :: st)) : Gf p e below P T m pc Ls st := by
  subst hp
  exact Go.step (fun t k => XS.lloadN X.here hx rfl (hb hby hd) hl k) g
theorem g_lload (X : Stand p l e R s m args below meth c T locs cells slots) (hx : p.tables.exec = Jvm.exec) (hby : c.code = code) {k : Nat} {v : Int64} (hd : decode code pc = .ok (.lload k, 2)) (hl : Ls[k]? = some (.val (.long v))) (hp : pc + 2 = pc') (g : Gf p e below P T m pc' Ls (.long v :: st)) : Gf p e below P T m pc Ls st := by
  subst hp
  exact Go.step (fun t k => XS.lload X.here hx rfl (hb hby hd) hl k) g
theorem g_lstoreN (X : Stand p l e R s m args below meth c T locs cells slots) (hx : p.tables.exec = Jvm.exec) (hby : c.code = code) {k : Fin 4} {v : Int64} (hd : decode code pc = .ok (.lstore_n k, 1)) (hst : st = .long v :: st') (hl : storeLocals Ls k.val (.long v) = some Ls') (hp : pc + 1 = pc') (g : Gf p e below P T m pc' Ls' st') : Gf p e below P T m pc Ls st := by
  subst hp hst
  exact Go.step (fun t k => XS.lstoreN X.here hx rfl (hb hby hd) rfl hl k) g
theorem g_lstore (X : Stand p l e R s m args below meth c T locs cells slots) (hx : p.tables.exec = Jvm.exec) (hby : c.code = code) {k : Nat} {v : Int64} (hd : decode code pc = .ok (.lstore k, 2)) (hst : st = .long v :: st') (hl : storeLocals Ls k (.long v) = some Ls') (hp : pc + 2 = pc') (g : Gf p e below P T m pc' Ls' st') : Gf p e below P T m pc Ls st := by
  subst hp hst
  exact Go.step (fun t k => XS.lstore X.here hx rfl (hb hby hd) rfl hl k) g
theorem g_dloadN (X : Stand p l e R s m args below meth c T locs cells slots) (hx : p.tables.exec = Jvm.exec) (hby : c.code = code) {k : Fin 4} {v : UInt64} (hd : decode code pc = .ok (.dload_n k, 1)) (hl : Ls[k.val]? = some (.val (.double v))) (hp : pc + 1 = pc') (g : Gf p e below P T m pc' Ls (.double v :: st)) : Gf p e below P T m pc Ls st := by
  subst hp
  exact Go.step (fun t k => XS.dloadN X.here hx rfl (hb hby hd) hl k) g
theorem g_dload (X : Stand p l e R s m args below meth c T locs cells slots) (hx : p.tables.exec = Jvm.exec) (hby : c.code = code) {k : Nat} {v : UInt64} (hd : decode code pc = .ok (.dload k, 2)) (hl : Ls[k]? = some (.val (.double v))) (hp : pc + 2 = pc') (g : Gf p e below P T m pc' Ls (.double v :: st)) : Gf p e below P T m pc Ls st := by
  subst hp
  exact Go.step (fun t k => XS.dload X.here hx rfl (hb hby hd) hl k) g
theorem g_dstoreN (X : Stand p l e R s m args below meth c T locs cells slots) (hx : p.tables.exec = Jvm.exec) (hby : c.code = code) {k : Fin 4} {v : UInt64} (hd : decode code pc = .ok (.dstore_n k, 1)) (hst : st = .double v :: st') (hl : storeLocals Ls k.val (.double v) = some Ls') (hp : pc + 1 = pc') (g : Gf p e below P T m pc' Ls' st') : Gf p e below P T m pc Ls st := by
  subst hp hst
  exact Go.step (fun t k => XS.dstoreN X.here hx rfl (hb hby hd) rfl hl k) g
theorem g_dstore (X : Stand p l e R s m args below meth c T locs cells slots) (hx : p.tables.exec = Jvm.exec) (hby : c.code = code) {k : Nat} {v : UInt64} (hd : decode code pc = .ok (.dstore k, 2)) (hst : st = .double v :: st') (hl : storeLocals Ls k (.double v) = some Ls') (hp : pc + 2 = pc') (g : Gf p e below P T m pc' Ls' st') : Gf p e below P T m pc Ls st := by
  subst hp hst
  exact Go.step (fun t k => XS.dstore X.here hx rfl (hb hby hd) rfl hl k) g
theorem g_aloadN (X : Stand p l e R s m args below meth c T locs cells slots) (hx : p.tables.exec = Jvm.exec) (hby : c.code = code) {k : Fin 4} {v : Value} (hd : decode code pc = .ok (.aload_n k, 1)) (hl : Ls[k.val]? = some (.val v)) (hv : v.isRef = true) (hp : pc + 1 = pc') (g : Gf p e below P T m pc' Ls (v :: st)) : Gf p e below P T m pc Ls st := by
  subst hp
  exact Go.step (fun t k => XS.aloadN X.here hx rfl (hb hby hd) hl hv k) g
theorem g_aload (X : Stand p l e R s m args below meth c T locs cells slots) (hx : p.tables.exec = Jvm.exec) (hby : c.code = code) {k : Nat} {v : Value} (hd : decode code pc = .ok (.aload k, 2)) (hl : Ls[k]? = some (.val v)) (hv : v.isRef = true) (hp : pc + 2 = pc') (g : Gf p e below P T m pc' Ls (v :: st)) : Gf p e below P T m pc Ls st := by
  subst hp
  exact Go.step (fun t k => XS.aload X.here hx rfl (hb hby hd) hl hv k) g
theorem g_astoreN (X : Stand p l e R s m args below meth c T locs cells slots) (hx : p.tables.exec = Jvm.exec) (hby : c.code = code) {k : Fin 4} {v : Value} (hd : decode code pc = .ok (.astore_n k, 1)) (hst : st = v :: st') (hv : v.isRef = true) (hl : storeLocals Ls k.val v = some Ls') (hp : pc + 1 = pc') (g : Gf p e below P T m pc' Ls' st') : Gf p e below P T m pc Ls st := by
  subst hp hst
  exact Go.step (fun t k => XS.astoreN X.here hx rfl (hb hby hd) rfl hv hl k) g
theorem g_astore (X : Stand p l e R s m args below meth c T locs cells slots) (hx : p.tables.exec = Jvm.exec) (hby : c.code = code) {k : Nat} {v : Value} (hd : decode code pc = .ok (.astore k, 2)) (hst : st = v :: st') (hv : v.isRef = true) (hl : storeLocals Ls k v = some Ls') (hp : pc + 2 = pc') (g : Gf p e below P T m pc' Ls' st') : Gf p e below P T m pc Ls st := by
  subst hp hst
  exact Go.step (fun t k => XS.astore X.here hx rfl (hb hby hd) rfl hv hl k) g
theorem g_iconst (X : Stand p l e R s m args below meth c T locs cells slots) (hx : p.tables.exec = Jvm.exec) (hby : c.code = code) {i : Int} {v : Int32} (hd : decode code pc = .ok (.iconst i, 1)) (hv : Int32.ofInt i = v) (hp : pc + 1 = pc') (g : Gf p e below P T m pc' Ls (.int v :: st)) : Gf p e below P T m pc Ls st := by
  subst hp
  exact Go.step (fun t k => XS.iconst X.here hx rfl (hb hby hd) (by subst hv; exact k)) g
theorem g_bipush (X : Stand p l e R s m args below meth c T locs cells slots) (hx : p.tables.exec = Jvm.exec) (hby : c.code = code) {i : Int} {v : Int32} (hd : decode code pc = .ok (.bipush i, 2)) (hv : (Int8.ofInt i).toInt32 = v) (hp : pc + 2 = pc') (g : Gf p e below P T m pc' Ls (.int v :: st)) : Gf p e below P T m pc Ls st := by
  subst hp
  exact Go.step (fun t k => XS.bipush X.here hx rfl (hb hby hd) (by subst hv; exact k)) g
theorem g_sipush (X : Stand p l e R s m args below meth c T locs cells slots) (hx : p.tables.exec = Jvm.exec) (hby : c.code = code) {i : Int} {v : Int32} (hd : decode code pc = .ok (.sipush i, 3)) (hv : (Int16.ofInt i).toInt32 = v) (hp : pc + 3 = pc') (g : Gf p e below P T m pc' Ls (.int v :: st)) : Gf p e below P T m pc Ls st := by
  subst hp
  exact Go.step (fun t k => XS.sipush X.here hx rfl (hb hby hd) (by subst hv; exact k)) g
theorem g_lconst (X : Stand p l e R s m args below meth c T locs cells slots) (hx : p.tables.exec = Jvm.exec) (hby : c.code = code) {i : Fin 2} {v : Int64} (hd : decode code pc = .ok (.lconst i, 1)) (hv : Int64.ofInt i.val = v) (hp : pc + 1 = pc') (g : Gf p e below P T m pc' Ls (.long v :: st)) : Gf p e below P T m pc Ls st := by
  subst hp
  exact Go.step (fun t k => XS.lconst X.here hx rfl (hb hby hd) (by subst hv; exact k)) g
theorem g_dconst0 (X : Stand p l e R s m args below meth c T locs cells slots) (hx : p.tables.exec = Jvm.exec) (hby : c.code = code) {v : UInt64} (hd : decode code pc = .ok (.dconst 0, 1)) (hv : FP.dconst0 = v) (hp : pc + 1 = pc') (g : Gf p e below P T m pc' Ls (.double v :: st)) : Gf p e below P T m pc Ls st := by
  subst hp
  exact Go.step (fun t k => XS.dconst0 X.here hx rfl (hb hby hd) hv k) g
theorem g_dconst1 (X : Stand p l e R s m args below meth c T locs cells slots) (hx : p.tables.exec = Jvm.exec) (hby : c.code = code) {v : UInt64} (hd : decode code pc = .ok (.dconst 1, 1)) (hv : FP.dconst1 = v) (hp : pc + 1 = pc') (g : Gf p e below P T m pc' Ls (.double v :: st)) : Gf p e below P T m pc Ls st := by
  subst hp
  exact Go.step (fun t k => XS.dconst1 X.here hx rfl (hb hby hd) hv k) g
theorem g_aconst_null (X : Stand p l e R s m args below meth c T locs cells slots) (hx : p.tables.exec = Jvm.exec) (hby : c.code = code)  (hd : decode code pc = .ok (.aconst_null, 1)) (hp : pc + 1 = pc') (g : Gf p e below P T m pc' Ls (.null :: st)) : Gf p e below P T m pc Ls st := by
  subst hp
  exact Go.step (fun t k => XS.aconstNull X.here hx rfl (hb hby hd) k) g
theorem g_ldcI (X : Stand p l e R s m args below meth c T locs cells slots) (hx : p.tables.exec = Jvm.exec) (hby : c.code = code) {own : String} {a0 : Array Value} {Z : State} (hZ : Z.Warmed39 s.vm) (hown : s.vm.findClass own = some m.cls) {i : Nat} {v : Int32} (w : (Cond.constant own i v).before a0 Z = true) (hd : decode code pc = .ok (.ldc i, 2)) (hp : pc + 2 = pc') (g : Gf p e below P T m pc' Ls (.int v :: st)) : Gf p e below P T m pc Ls st := by
  subst hp
  exact Go.step (fun t k => X.ldcInt hx hown (mvT hZ w) (g := mkF m pc Ls st) rfl (hb hby hd) t k) g
theorem g_ldcJ (X : Stand p l e R s m args below meth c T locs cells slots) (hx : p.tables.exec = Jvm.exec) (hby : c.code = code) {own : String} {a0 : Array Value} {Z : State} (hZ : Z.Warmed39 s.vm) (hown : s.vm.findClass own = some m.cls) {i : Nat} {v : Int64} (w : (Cond.constantLong own i v).before a0 Z = true) (hd : decode code pc = .ok (.ldc2_w i, 3)) (hp : pc + 3 = pc') (g : Gf p e below P T m pc' Ls (.long v :: st)) : Gf p e below P T m pc Ls st := by
  subst hp
  exact Go.step (fun t k => X.ldc2Long hx hown (mvT hZ w) (g := mkF m pc Ls st) rfl (hb hby hd) t k) g
theorem g_ldcD (X : Stand p l e R s m args below meth c T locs cells slots) (hx : p.tables.exec = Jvm.exec) (hby : c.code = code) {own : String} {a0 : Array Value} {Z : State} (hZ : Z.Warmed39 s.vm) (hown : s.vm.findClass own = some m.cls) {i : Nat} {v : UInt64} (w : (Cond.constantDouble own i v).before a0 Z = true) (hd : decode code pc = .ok (.ldc2_w i, 3)) (hp : pc + 3 = pc') (g : Gf p e below P T m pc' Ls (.double v :: st)) : Gf p e below P T m pc Ls st := by
  subst hp
  exact Go.step (fun t k => X.ldc2DoubleC hx hown (mvT hZ w) (g := mkF m pc Ls st) rfl (hb hby hd) t k) g
theorem g_iadd (X : Stand p l e R s m args below meth c T locs cells slots) (hx : p.tables.exec = Jvm.exec) (hby : c.code = code) {x y v : Int32} (hd : decode code pc = .ok (.iadd, 1)) (hst : st = .int y :: .int x :: st') (hv : x + y = v) (hp : pc + 1 = pc') (g : Gf p e below P T m pc' Ls (.int v :: st')) : Gf p e below P T m pc Ls st := by
  subst hp hst
  exact Go.step (fun t k => XS.iadd X.here hx rfl (hb hby hd) rfl (by subst hv; exact k)) g
theorem g_isub (X : Stand p l e R s m args below meth c T locs cells slots) (hx : p.tables.exec = Jvm.exec) (hby : c.code = code) {x y v : Int32} (hd : decode code pc = .ok (.isub, 1)) (hst : st = .int y :: .int x :: st') (hv : x - y = v) (hp : pc + 1 = pc') (g : Gf p e below P T m pc' Ls (.int v :: st')) : Gf p e below P T m pc Ls st := by
  subst hp hst
  exact Go.step (fun t k => XS.isub X.here hx rfl (hb hby hd) rfl (by subst hv; exact k)) g
theorem g_imul (X : Stand p l e R s m args below meth c T locs cells slots) (hx : p.tables.exec = Jvm.exec) (hby : c.code = code) {x y v : Int32} (hd : decode code pc = .ok (.imul, 1)) (hst : st = .int y :: .int x :: st') (hv : x * y = v) (hp : pc + 1 = pc') (g : Gf p e below P T m pc' Ls (.int v :: st')) : Gf p e below P T m pc Ls st := by
  subst hp hst
  exact Go.step (fun t k => XS.imul X.here hx rfl (hb hby hd) rfl (by subst hv; exact k)) g
theorem g_iand (X : Stand p l e R s m args below meth c T locs cells slots) (hx : p.tables.exec = Jvm.exec) (hby : c.code = code) {x y v : Int32} (hd : decode code pc = .ok (.iand, 1)) (hst : st = .int y :: .int x :: st') (hv : x &&& y = v) (hp : pc + 1 = pc') (g : Gf p e below P T m pc' Ls (.int v :: st')) : Gf p e below P T m pc Ls st := by
  subst hp hst
  exact Go.step (fun t k => XS.iand X.here hx rfl (hb hby hd) rfl (by subst hv; exact k)) g
theorem g_ior (X : Stand p l e R s m args below meth c T locs cells slots) (hx : p.tables.exec = Jvm.exec) (hby : c.code = code) {x y v : Int32} (hd : decode code pc = .ok (.ior, 1)) (hst : st = .int y :: .int x :: st') (hv : x ||| y = v) (hp : pc + 1 = pc') (g : Gf p e below P T m pc' Ls (.int v :: st')) : Gf p e below P T m pc Ls st := by
  subst hp hst
  exact Go.step (fun t k => XS.ior X.here hx rfl (hb hby hd) rfl (by subst hv; exact k)) g
theorem g_ixor (X : Stand p l e R s m args below meth c T locs cells slots) (hx : p.tables.exec = Jvm.exec) (hby : c.code = code) {x y v : Int32} (hd : decode code pc = .ok (.ixor, 1)) (hst : st = .int y :: .int x :: st') (hv : x ^^^ y = v) (hp : pc + 1 = pc') (g : Gf p e below P T m pc' Ls (.int v :: st')) : Gf p e below P T m pc Ls st := by
  subst hp hst
  exact Go.step (fun t k => XS.ixor X.here hx rfl (hb hby hd) rfl (by subst hv; exact k)) g
theorem g_ishl (X : Stand p l e R s m args below meth c T locs cells slots) (hx : p.tables.exec = Jvm.exec) (hby : c.code = code) {x y v : Int32} (hd : decode code pc = .ok (.ishl, 1)) (hst : st = .int y :: .int x :: st') (hv : x <<< (y &&& 31) = v) (hp : pc + 1 = pc') (g : Gf p e below P T m pc' Ls (.int v :: st')) : Gf p e below P T m pc Ls st := by
  subst hp hst
  exact Go.step (fun t k => XS.ishl X.here hx rfl (hb hby hd) rfl (by subst hv; exact k)) g
theorem g_ishr (X : Stand p l e R s m args below meth c T locs cells slots) (hx : p.tables.exec = Jvm.exec) (hby : c.code = code) {x y v : Int32} (hd : decode code pc = .ok (.ishr, 1)) (hst : st = .int y :: .int x :: st') (hv : x >>> (y &&& 31) = v) (hp : pc + 1 = pc') (g : Gf p e below P T m pc' Ls (.int v :: st')) : Gf p e below P T m pc Ls st := by
  subst hp hst
  exact Go.step (fun t k => XS.ishr X.here hx rfl (hb hby hd) rfl (by subst hv; exact k)) g
theorem g_iushr (X : Stand p l e R s m args below meth c T locs cells slots) (hx : p.tables.exec = Jvm.exec) (hby : c.code = code) {x y v : Int32} (hd : decode code pc = .ok (.iushr, 1)) (hst : st = .int y :: .int x :: st') (hv : (x.toUInt32 >>> (y &&& 31).toUInt32).toInt32 = v) (hp : pc + 1 = pc') (g : Gf p e below P T m pc' Ls (.int v :: st')) : Gf p e below P T m pc Ls st := by
  subst hp hst
  exact Go.step (fun t k => XS.iushr X.here hx rfl (hb hby hd) rfl (by subst hv; exact k)) g
theorem g_ladd (X : Stand p l e R s m args below meth c T locs cells slots) (hx : p.tables.exec = Jvm.exec) (hby : c.code = code) {x y v : Int64} (hd : decode code pc = .ok (.ladd, 1)) (hst : st = .long y :: .long x :: st') (hv : x + y = v) (hp : pc + 1 = pc') (g : Gf p e below P T m pc' Ls (.long v :: st')) : Gf p e below P T m pc Ls st := by
  subst hp hst
  exact Go.step (fun t k => XS.ladd X.here hx rfl (hb hby hd) rfl (by subst hv; exact k)) g
theorem g_lsub (X : Stand p l e R s m args below meth c T locs cells slots) (hx : p.tables.exec = Jvm.exec) (hby : c.code = code) {x y v : Int64} (hd : decode code pc = .ok (.lsub, 1)) (hst : st = .long y :: .long x :: st') (hv : x - y = v) (hp : pc + 1 = pc') (g : Gf p e below P T m pc' Ls (.long v :: st')) : Gf p e below P T m pc Ls st := by
  subst hp hst
  exact Go.step (fun t k => XS.lsub X.here hx rfl (hb hby hd) rfl (by subst hv; exact k)) g
theorem g_lmul (X : Stand p l e R s m args below meth c T locs cells slots) (hx : p.tables.exec = Jvm.exec) (hby : c.code = code) {x y v : Int64} (hd : decode code pc = .ok (.lmul, 1)) (hst : st = .long y :: .long x :: st') (hv : x * y = v) (hp : pc + 1 = pc') (g : Gf p e below P T m pc' Ls (.long v :: st')) : Gf p e below P T m pc Ls st := by
  subst hp hst
  exact Go.step (fun t k => XS.lmul X.here hx rfl (hb hby hd) rfl (by subst hv; exact k)) g
theorem g_land (X : Stand p l e R s m args below meth c T locs cells slots) (hx : p.tables.exec = Jvm.exec) (hby : c.code = code) {x y v : Int64} (hd : decode code pc = .ok (.land, 1)) (hst : st = .long y :: .long x :: st') (hv : x &&& y = v) (hp : pc + 1 = pc') (g : Gf p e below P T m pc' Ls (.long v :: st')) : Gf p e below P T m pc Ls st := by
  subst hp hst
  exact Go.step (fun t k => XS.land X.here hx rfl (hb hby hd) rfl (by subst hv; exact k)) g
theorem g_lor (X : Stand p l e R s m args below meth c T locs cells slots) (hx : p.tables.exec = Jvm.exec) (hby : c.code = code) {x y v : Int64} (hd : decode code pc = .ok (.lor, 1)) (hst : st = .long y :: .long x :: st') (hv : x ||| y = v) (hp : pc + 1 = pc') (g : Gf p e below P T m pc' Ls (.long v :: st')) : Gf p e below P T m pc Ls st := by
  subst hp hst
  exact Go.step (fun t k => XS.lor X.here hx rfl (hb hby hd) rfl (by subst hv; exact k)) g
theorem g_lxor (X : Stand p l e R s m args below meth c T locs cells slots) (hx : p.tables.exec = Jvm.exec) (hby : c.code = code) {x y v : Int64} (hd : decode code pc = .ok (.lxor, 1)) (hst : st = .long y :: .long x :: st') (hv : x ^^^ y = v) (hp : pc + 1 = pc') (g : Gf p e below P T m pc' Ls (.long v :: st')) : Gf p e below P T m pc Ls st := by
  subst hp hst
  exact Go.step (fun t k => XS.lxor X.here hx rfl (hb hby hd) rfl (by subst hv; exact k)) g
theorem g_lshl (X : Stand p l e R s m args below meth c T locs cells slots) (hx : p.tables.exec = Jvm.exec) (hby : c.code = code) {x v : Int64} {y : Int32} (hd : decode code pc = .ok (.lshl, 1)) (hst : st = .int y :: .long x :: st') (hv : x <<< (y &&& 0x3f).toInt64 = v) (hp : pc + 1 = pc') (g : Gf p e below P T m pc' Ls (.long v :: st')) : Gf p e below P T m pc Ls st := by
  subst hp hst
  exact Go.step (fun t k => XS.lshl X.here hx rfl (hb hby hd) rfl (by subst hv; exact k)) g
theorem g_lshr (X : Stand p l e R s m args below meth c T locs cells slots) (hx : p.tables.exec = Jvm.exec) (hby : c.code = code) {x v : Int64} {y : Int32} (hd : decode code pc = .ok (.lshr, 1)) (hst : st = .int y :: .long x :: st') (hv : x >>> (y &&& 0x3f).toInt64 = v) (hp : pc + 1 = pc') (g : Gf p e below P T m pc' Ls (.long v :: st')) : Gf p e below P T m pc Ls st := by
  subst hp hst
  exact Go.step (fun t k => XS.lshr X.here hx rfl (hb hby hd) rfl (by subst hv; exact k)) g
theorem g_lushr (X : Stand p l e R s m args below meth c T locs cells slots) (hx : p.tables.exec = Jvm.exec) (hby : c.code = code) {x v : Int64} {y : Int32} (hd : decode code pc = .ok (.lushr, 1)) (hst : st = .int y :: .long x :: st') (hv : (x.toUInt64 >>> (y &&& 0x3f).toInt64.toUInt64).toInt64 = v) (hp : pc + 1 = pc') (g : Gf p e below P T m pc' Ls (.long v :: st')) : Gf p e below P T m pc Ls st := by
  subst hp hst
  exact Go.step (fun t k => XS.lushr X.here hx rfl (hb hby hd) rfl (by subst hv; exact k)) g
theorem g_irem (X : Stand p l e R s m args below meth c T locs cells slots) (hx : p.tables.exec = Jvm.exec) (hby : c.code = code) {x y v : Int32} (hd : decode code pc = .ok (.irem, 1)) (hst : st = .int y :: .int x :: st') (hy : y ≠ 0) (hv : x % y = v) (hp : pc + 1 = pc') (g : Gf p e below P T m pc' Ls (.int v :: st')) : Gf p e below P T m pc Ls st := by
  subst hp hst
  exact Go.step (fun t k => iremM X hx (g := mkF m pc Ls _) rfl (hb hby hd) rfl hy (by subst hv; exact k)) g
theorem g_idiv (X : Stand p l e R s m args below meth c T locs cells slots) (hx : p.tables.exec = Jvm.exec) (hby : c.code = code) {x y v : Int32} (hd : decode code pc = .ok (.idiv, 1)) (hst : st = .int y :: .int x :: st') (hy : y ≠ 0) (hv : x / y = v) (hp : pc + 1 = pc') (g : Gf p e below P T m pc' Ls (.int v :: st')) : Gf p e below P T m pc Ls st := by
  subst hp hst
  exact Go.step (fun t k => XS.idiv X.here hx rfl (hb hby hd) rfl hy (by subst hv; exact k)) g
theorem g_ineg (X : Stand p l e R s m args below meth c T locs cells slots) (hx : p.tables.exec = Jvm.exec) (hby : c.code = code) {x : Int32} {v : Int32} (hd : decode code pc = .ok (.ineg, 1)) (hst : st = .int x :: st') (hv : -x = v) (hp : pc + 1 = pc') (g : Gf p e below P T m pc' Ls (.int v :: st')) : Gf p e below P T m pc Ls st := by
  subst hp hst
  exact Go.step (fun t k => XS.ineg X.here hx rfl (hb hby hd) rfl (by subst hv; exact k)) g
theorem g_lneg (X : Stand p l e R s m args below meth c T locs cells slots) (hx : p.tables.exec = Jvm.exec) (hby : c.code = code) {x : Int64} {v : Int64} (hd : decode code pc = .ok (.lneg, 1)) (hst : st = .long x :: st') (hv : -x = v) (hp : pc + 1 = pc') (g : Gf p e below P T m pc' Ls (.long v :: st')) : Gf p e below P T m pc Ls st := by
  subst hp hst
  exact Go.step (fun t k => XS.lneg X.here hx rfl (hb hby hd) rfl (by subst hv; exact k)) g
theorem g_i2l (X : Stand p l e R s m args below meth c T locs cells slots) (hx : p.tables.exec = Jvm.exec) (hby : c.code = code) {x : Int32} {v : Int64} (hd : decode code pc = .ok (.i2l, 1)) (hst : st = .int x :: st') (hv : x.toInt64 = v) (hp : pc + 1 = pc') (g : Gf p e below P T m pc' Ls (.long v :: st')) : Gf p e below P T m pc Ls st := by
  subst hp hst
  exact Go.step (fun t k => XS.i2l X.here hx rfl (hb hby hd) rfl (by subst hv; exact k)) g
theorem g_l2i (X : Stand p l e R s m args below meth c T locs cells slots) (hx : p.tables.exec = Jvm.exec) (hby : c.code = code) {x : Int64} {v : Int32} (hd : decode code pc = .ok (.l2i, 1)) (hst : st = .long x :: st') (hv : x.toInt32 = v) (hp : pc + 1 = pc') (g : Gf p e below P T m pc' Ls (.int v :: st')) : Gf p e below P T m pc Ls st := by
  subst hp hst
  exact Go.step (fun t k => XS.l2i X.here hx rfl (hb hby hd) rfl (by subst hv; exact k)) g
theorem g_i2b (X : Stand p l e R s m args below meth c T locs cells slots) (hx : p.tables.exec = Jvm.exec) (hby : c.code = code) {x : Int32} {v : Int32} (hd : decode code pc = .ok (.i2b, 1)) (hst : st = .int x :: st') (hv : x.toInt8.toInt32 = v) (hp : pc + 1 = pc') (g : Gf p e below P T m pc' Ls (.int v :: st')) : Gf p e below P T m pc Ls st := by
  subst hp hst
  exact Go.step (fun t k => XS.i2b X.here hx rfl (hb hby hd) rfl (by subst hv; exact k)) g
theorem g_i2s (X : Stand p l e R s m args below meth c T locs cells slots) (hx : p.tables.exec = Jvm.exec) (hby : c.code = code) {x : Int32} {v : Int32} (hd : decode code pc = .ok (.i2s, 1)) (hst : st = .int x :: st') (hv : x.toInt16.toInt32 = v) (hp : pc + 1 = pc') (g : Gf p e below P T m pc' Ls (.int v :: st')) : Gf p e below P T m pc Ls st := by
  subst hp hst
  exact Go.step (fun t k => XS.i2s X.here hx rfl (hb hby hd) rfl (by subst hv; exact k)) g
theorem g_i2c (X : Stand p l e R s m args below meth c T locs cells slots) (hx : p.tables.exec = Jvm.exec) (hby : c.code = code) {x : Int32} {v : Int32} (hd : decode code pc = .ok (.i2c, 1)) (hst : st = .int x :: st') (hv : x.toUInt32.toUInt16.toUInt32.toInt32 = v) (hp : pc + 1 = pc') (g : Gf p e below P T m pc' Ls (.int v :: st')) : Gf p e below P T m pc Ls st := by
  subst hp hst
  exact Go.step (fun t k => XS.i2c X.here hx rfl (hb hby hd) rfl (by subst hv; exact k)) g
theorem g_lcmp (X : Stand p l e R s m args below meth c T locs cells slots) (hx : p.tables.exec = Jvm.exec) (hby : c.code = code) {x y : Int64} {v : Int32} (hd : decode code pc = .ok (.lcmp, 1)) (hst : st = .long y :: .long x :: st') (hv : lcmpW x y = v) (hp : pc + 1 = pc') (g : Gf p e below P T m pc' Ls (.int v :: st')) : Gf p e below P T m pc Ls st := by
  subst hp hst
  exact Go.step (fun t k => XS.lcmp X.here hx rfl (hb hby hd) rfl (by subst hv; exact k)) g
theorem g_i2d (X : Stand p l e R s m args below meth c T locs cells slots) (hx : p.tables.exec = Jvm.exec) (hby : c.code = code) {x : Int32} {v : UInt64} (hd : decode code pc = .ok (.i2d, 1)) (hst : st = .int x :: st') (hv : FP.i2d x = v) (hp : pc + 1 = pc') (g : Gf p e below P T m pc' Ls (.double v :: st')) : Gf p e below P T m pc Ls st := by
  subst hp hst
  exact Go.step (fun t k => XS.i2dS X.here hx rfl (hb hby hd) rfl hv k) g
theorem g_l2d (X : Stand p l e R s m args below meth c T locs cells slots) (hx : p.tables.exec = Jvm.exec) (hby : c.code = code) {x : Int64} {v : UInt64} (hd : decode code pc = .ok (.l2d, 1)) (hst : st = .long x :: st') (hv : FP.l2d x = v) (hp : pc + 1 = pc') (g : Gf p e below P T m pc' Ls (.double v :: st')) : Gf p e below P T m pc Ls st := by
  subst hp hst
  exact Go.step (fun t k => XS.l2dS X.here hx rfl (hb hby hd) rfl hv k) g
theorem g_d2i (X : Stand p l e R s m args below meth c T locs cells slots) (hx : p.tables.exec = Jvm.exec) (hby : c.code = code) {x : UInt64} {v : Int32} (hd : decode code pc = .ok (.d2i, 1)) (hst : st = .double x :: st') (hv : FP.d2i x = v) (hp : pc + 1 = pc') (g : Gf p e below P T m pc' Ls (.int v :: st')) : Gf p e below P T m pc Ls st := by
  subst hp hst
  exact Go.step (fun t k => XS.d2iS X.here hx rfl (hb hby hd) rfl hv k) g
theorem g_d2l (X : Stand p l e R s m args below meth c T locs cells slots) (hx : p.tables.exec = Jvm.exec) (hby : c.code = code) {x : UInt64} {v : Int64} (hd : decode code pc = .ok (.d2l, 1)) (hst : st = .double x :: st') (hv : FP.d2l x = v) (hp : pc + 1 = pc') (g : Gf p e below P T m pc' Ls (.long v :: st')) : Gf p e below P T m pc Ls st := by
  subst hp hst
  exact Go.step (fun t k => XS.d2lS X.here hx rfl (hb hby hd) rfl hv k) g
theorem g_dneg (X : Stand p l e R s m args below meth c T locs cells slots) (hx : p.tables.exec = Jvm.exec) (hby : c.code = code) {x : UInt64} {v : UInt64} (hd : decode code pc = .ok (.dneg, 1)) (hst : st = .double x :: st') (hv : FP.dneg x = v) (hp : pc + 1 = pc') (g : Gf p e below P T m pc' Ls (.double v :: st')) : Gf p e below P T m pc Ls st := by
  subst hp hst
  exact Go.step (fun t k => XS.dnegS X.here hx rfl (hb hby hd) rfl hv k) g
theorem g_dadd (X : Stand p l e R s m args below meth c T locs cells slots) (hx : p.tables.exec = Jvm.exec) (hby : c.code = code) {x y v : UInt64} (hd : decode code pc = .ok (.dadd, 1)) (hst : st = .double y :: .double x :: st') (hn : Jvm.Free.Fl.NoNaN64 (FP.dadd x y)) (hv : FP.dadd x y = v) (hp : pc + 1 = pc') (g : Gf p e below P T m pc' Ls (.double v :: st')) : Gf p e below P T m pc Ls st := by
  subst hp hst
  exact Go.step (fun t k => XS.daddS X.here hx rfl (hb hby hd) rfl hn hv k) g
theorem g_dsub (X : Stand p l e R s m args below meth c T locs cells slots) (hx : p.tables.exec = Jvm.exec) (hby : c.code = code) {x y v : UInt64} (hd : decode code pc = .ok (.dsub, 1)) (hst : st = .double y :: .double x :: st') (hn : Jvm.Free.Fl.NoNaN64 (FP.dsub x y)) (hv : FP.dsub x y = v) (hp : pc + 1 = pc') (g : Gf p e below P T m pc' Ls (.double v :: st')) : Gf p e below P T m pc Ls st := by
  subst hp hst
  exact Go.step (fun t k => XS.dsubS X.here hx rfl (hb hby hd) rfl hn hv k) g
theorem g_dmul (X : Stand p l e R s m args below meth c T locs cells slots) (hx : p.tables.exec = Jvm.exec) (hby : c.code = code) {x y v : UInt64} (hd : decode code pc = .ok (.dmul, 1)) (hst : st = .double y :: .double x :: st') (hn : Jvm.Free.Fl.NoNaN64 (FP.dmul x y)) (hv : FP.dmul x y = v) (hp : pc + 1 = pc') (g : Gf p e below P T m pc' Ls (.double v :: st')) : Gf p e below P T m pc Ls st := by
  subst hp hst
  exact Go.step (fun t k => XS.dmulS X.here hx rfl (hb hby hd) rfl hn hv k) g
theorem g_ddiv (X : Stand p l e R s m args below meth c T locs cells slots) (hx : p.tables.exec = Jvm.exec) (hby : c.code = code) {x y v : UInt64} (hd : decode code pc = .ok (.ddiv, 1)) (hst : st = .double y :: .double x :: st') (hn : Jvm.Free.Fl.NoNaN64 (FP.ddiv x y)) (hv : FP.ddiv x y = v) (hp : pc + 1 = pc') (g : Gf p e below P T m pc' Ls (.double v :: st')) : Gf p e below P T m pc Ls st := by
  subst hp hst
  exact Go.step (fun t k => XS.ddivS X.here hx rfl (hb hby hd) rfl hn hv k) g
theorem g_dcmp (X : Stand p l e R s m args below meth c T locs cells slots) (hx : p.tables.exec = Jvm.exec) (hby : c.code = code) {o : CmpOp} {x y : UInt64} {v : Int32} (hd : decode code pc = .ok (.dcmp o, 1)) (hst : st = .double y :: .double x :: st') (hv : cmpValue (FP.dcmp x y) o = v) (hp : pc + 1 = pc') (g : Gf p e below P T m pc' Ls (.int v :: st')) : Gf p e below P T m pc Ls st := by
  subst hp hst
  exact Go.step (fun t k => XS.dcmpS X.here hx rfl (hb hby hd) rfl hv k) g
theorem g_dup (X : Stand p l e R s m args below meth c T locs cells slots) (hx : p.tables.exec = Jvm.exec) (hby : c.code = code) {x : Value} (hd : decode code pc = .ok (.dup, 1)) (hst : st = x :: st') (hc : x.category = 1) (hp : pc + 1 = pc') (g : Gf p e below P T m pc' Ls (x :: x :: st')) : Gf p e below P T m pc Ls st := by
  subst hp hst
  exact Go.step (fun t k => XS.dup X.here hx rfl (hb hby hd) rfl hc k) g
theorem g_pop (X : Stand p l e R s m args below meth c T locs cells slots) (hx : p.tables.exec = Jvm.exec) (hby : c.code = code) {x : Value} (hd : decode code pc = .ok (.pop, 1)) (hst : st = x :: st') (hc : x.category = 1) (hp : pc + 1 = pc') (g : Gf p e below P T m pc' Ls st') : Gf p e below P T m pc Ls st := by
  subst hp hst
  exact Go.step (fun t k => XS.pop X.here hx rfl (hb hby hd) rfl hc k) g
theorem g_iinc (X : Stand p l e R s m args below meth c T locs cells slots) (hx : p.tables.exec = Jvm.exec) (hby : c.code = code) {n : Nat} {i : Int} {x : Int32} (hd : decode code pc = .ok (.iinc n i, 3)) (hl : Ls[n]? = some (.val (.int x))) (hl' : storeLocals Ls n (.int (x + Int32.ofInt i)) = some Ls') (hp : pc + 3 = pc') (g : Gf p e below P T m pc' Ls' st) : Gf p e below P T m pc Ls st := by
  subst hp
  exact Go.step (fun t k => XS.iinc X.here hx rfl (hb hby hd) hl hl' k) g
theorem g_goto (X : Stand p l e R s m args below meth c T locs cells slots) (hx : p.tables.exec = Jvm.exec) (hby : c.code = code) {o : Int} (hd : decode code pc = .ok (.goto o, 3)) (ho : 0 ≤ (pc : Int) + o) (hp : ((pc : Int) + o).toNat = pc') (g : Gf p e below P T m pc' Ls st) : Gf p e below P T m pc Ls st := Go.step (fun t k => XS.goto X.here hx rfl (pc0 := pc) (pc' := pc') rfl (hb hby hd) ho hp k) g
theorem g_ifY (X : Stand p l e R s m args below meth c T locs cells slots) (hx : p.tables.exec = Jvm.exec) (hby : c.code = code) {cd : ClassFile.Cond} {o : Int} {x : Int32} (hd : decode code pc = .ok (.ifCond cd o, 3)) (hst : st = .int x :: st') (hc : if_icmp.holds cd x 0 = true) (ho : 0 ≤ (pc : Int) + o) (hp : ((pc : Int) + o).toNat = pc') (g : Gf p e below P T m pc' Ls st') : Gf p e below P T m pc Ls st := by
  subst hst
  exact Go.step (fun t k => XS.ifYes X.here hx rfl (pc0 := pc) (pc' := pc') rfl (hb hby hd) rfl ((if0 _ _).trans hc) ho hp k) g
theorem g_ifN (X : Stand p l e R s m args below meth c T locs cells slots) (hx : p.tables.exec = Jvm.exec) (hby : c.code = code) {cd : ClassFile.Cond} {o : Int} {x : Int32} (hd : decode code pc = .ok (.ifCond cd o, 3)) (hst : st = .int x :: st') (hc : if_icmp.holds cd x 0 = false) (hp : pc + 3 = pc') (g : Gf p e below P T m pc' Ls st') : Gf p e below P T m pc Ls st := by
  subst hst hp
  exact Go.step (fun t k => XS.ifNo X.here hx rfl (hb hby hd) rfl ((if0 _ _).trans hc) k) g
theorem g_icY (X : Stand p l e R s m args below meth c T locs cells slots) (hx : p.tables.exec = Jvm.exec) (hby : c.code = code) {cd : ClassFile.Cond} {o : Int} {x y : Int32} (hd : decode code pc = .ok (.if_icmp cd o, 3)) (hst : st = .int y :: .int x :: st') (hc : if_icmp.holds cd x y = true) (ho : 0 ≤ (pc : Int) + o) (hp : ((pc : Int) + o).toNat = pc') (g : Gf p e below P T m pc' Ls st') : Gf p e below P T m pc Ls st := by
  subst hst
  exact Go.step (fun t k => XS.icmpYes X.here hx rfl (pc0 := pc) (pc' := pc') rfl (hb hby hd) rfl hc ho hp k) g
theorem g_icN (X : Stand p l e R s m args below meth c T locs cells slots) (hx : p.tables.exec = Jvm.exec) (hby : c.code = code) {cd : ClassFile.Cond} {o : Int} {x y : Int32} (hd : decode code pc = .ok (.if_icmp cd o, 3)) (hst : st = .int y :: .int x :: st') (hc : if_icmp.holds cd x y = false) (hp : pc + 3 = pc') (g : Gf p e below P T m pc' Ls st') : Gf p e below P T m pc Ls st := by
  subst hst hp
  exact Go.step (fun t k => XS.icmpNo X.here hx rfl (hb hby hd) rfl hc k) g
theorem g_nullY (X : Stand p l e R s m args below meth c T locs cells slots) (hx : p.tables.exec = Jvm.exec) (hby : c.code = code) {o : Int} (hd : decode code pc = .ok (.ifnull o, 3)) (hst : st = .null :: st') (ho : 0 ≤ (pc : Int) + o) (hp : ((pc : Int) + o).toNat = pc') (g : Gf p e below P T m pc' Ls st') : Gf p e below P T m pc Ls st := by
  subst hst
  exact Go.step (fun t k => XS.ifnullYes X.here hx rfl (pc0 := pc) (pc' := pc') rfl (hb hby hd) rfl ho hp k) g
theorem g_nullN (X : Stand p l e R s m args below meth c T locs cells slots) (hx : p.tables.exec = Jvm.exec) (hby : c.code = code) {o : Int} {b : Addr} (hd : decode code pc = .ok (.ifnull o, 3)) (hst : st = .ref b :: st') (hp : pc + 3 = pc') (g : Gf p e below P T m pc' Ls st') : Gf p e below P T m pc Ls st := by
  subst hst hp
  exact Go.step (fun t k => XS.ifnullNo X.here hx rfl (hb hby hd) rfl k) g
theorem g_nnY (X : Stand p l e R s m args below meth c T locs cells slots) (hx : p.tables.exec = Jvm.exec) (hby : c.code = code) {o : Int} {b : Addr} (hd : decode code pc = .ok (.ifnonnull o, 3)) (hst : st = .ref b :: st') (ho : 0 ≤ (pc : Int) + o) (hp : ((pc : Int) + o).toNat = pc') (g : Gf p e below P T m pc' Ls st') : Gf p e below P T m pc Ls st := by
  subst hst
  exact Go.step (fun t k => XS.ifnonnullYes X.here hx rfl (pc0 := pc) (pc' := pc') rfl (hb hby hd) rfl ho hp k) g
theorem g_nnN (X : Stand p l e R s m args below meth c T locs cells slots) (hx : p.tables.exec = Jvm.exec) (hby : c.code = code) {o : Int} (hd : decode code pc = .ok (.ifnonnull o, 3)) (hst : st = .null :: st') (hp : pc + 3 = pc') (g : Gf p e below P T m pc' Ls st') : Gf p e below P T m pc Ls st := by
  subst hst hp
  exact Go.step (fun t k => XS.ifnonnullNo X.here hx rfl (hb hby hd) rfl k) g
theorem g_acmp (X : Stand p l e R s m args below meth c T locs cells slots) (hx : p.tables.exec = Jvm.exec) (hby : c.code = code) {cd : ACond} {o : Int} {x y : Value} {same : Bool} (hd : decode code pc = .ok (.if_acmp cd o, 3)) (hst : st = y :: x :: st') (h1 : x.isRef = true) (h2 : y.isRef = true) (hq : decide (x = y) = same) (ho : 0 ≤ (pc : Int) + o) (hp : pc' = if acV cd same = true then ((pc : Int) + o).toNat else pc + 3) (g : Gf p e below P T m pc' Ls st') : Gf p e below P T m pc Ls st := by
  subst hst
  exact Go.step (fun t k => Jvm.RoadKit.acmp (g := mkF m pc Ls _) X hx rfl h1 h2 (pc0 := pc) (pc' := pc') rfl (hb hby hd) rfl hq ho hp k) g
/-! the returns -/
variable {Q : Option Value → Heap → List Loc → Prop} {rm : Room} {h : Heap}
def FinR (l : Launch) (s : State) (rm : Room) (Q : Option Value → Heap → List Loc → Prop) (P : Outcome → State → Prop) : Prop := ∀ o U, (∃ v L, o = .returned v ∧ Q v U.heap L ∧ FrameEnd s o U L rm.cells rm.slots) → P o U
theorem g_retV (X : Stand p l e R s m args below meth c T locs cells slots) (hx : p.tables.exec = Jvm.exec) (hby : c.code = code) (hf : FinR l s rm Q P) (hlk : meth.locks = false) {t : FieldType} {i : Instr} {w : Value} (hret : meth.sig.returnType = some t) (hd : decode code pc = .ok (i, 1)) (hst : st = w :: st') (hn : narrow t w = w)
    (hi : (i = .ireturn ∧ (t = .int ∨ t = .boolean ∨ t = .byte ∨ t = .char ∨ t = .short) ∧ ∃ z, w = .int z) ∨ (i = .lreturn ∧ t = .long ∧ ∃ z, w = .long z) ∨ (i = .dreturn ∧ t = .double ∧ ∃ z, w = .double z) ∨ (i = .freturn ∧ t = .float ∧ ∃ z, w = .float z) ∨ (i = .areturn ∧ t.isReference = true ∧ w.isRef = true))
    (hc : cells ≤ rm.cells) (hs : slots ≤ rm.slots) (eT : T.heap = h) (q : Q (some w) h locs) : Gf p e below P T m pc Ls st := by
  subst hst
  obtain ⟨fs, hr, hrun, hended, hW, hsame⟩ := X.leave (v := some w) (fun q => by rw [hret] at q; cases q) hlk
  exact ⟨_, _, retOut X hx hret hn hi (hb hby hd) hr, hrun, hended, hf _ _ ⟨_, _, rfl, by show Q (some w) T.heap locs; rw [eT]; exact q, ⟨_, rfl⟩, hW, hsame.mono hc hs⟩⟩
theorem g_retZ (X : Stand p l e R s m args below meth c T locs cells slots) (hx : p.tables.exec = Jvm.exec) (hby : c.code = code) (hf : FinR l s rm Q P) (hlk : meth.locks = false) {t : FieldType} {z w : Int32} (hret : meth.sig.returnType = some t) (hd : decode code pc = .ok (.ireturn, 1)) (hst : st = .int z :: st') (ht : t = .boolean ∨ t = .byte ∨ t = .char ∨ t = .short)
    (hw : nar t z = w) (hc : cells ≤ rm.cells) (hs : slots ≤ rm.slots) (eT : T.heap = h) (q : Q (some (.int w)) h locs) : Gf p e below P T m pc Ls st := by
  subst hst hw
  obtain ⟨fs, hr, hrun, hended, hW, hsame⟩ := X.leave (v := some (.int (nar t z))) (fun q => by rw [hret] at q; cases q) hlk
  exact ⟨_, _, retN X hx hret ht (hb hby hd) hr, hrun, hended, hf _ _ ⟨_, _, rfl, by show Q (some (.int (nar t z))) T.heap locs; rw [eT]; exact q, ⟨_, rfl⟩, hW, hsame.mono hc hs⟩⟩
theorem g_ret (X : Stand p l e R s m args below meth c T locs cells slots) (hx : p.tables.exec = Jvm.exec) (hby : c.code = code) (hf : FinR l s rm Q P) (hlk : meth.locks = false) (hret : meth.sig.returnType = none) (hd : decode code pc = .ok (.return_, 1)) (hst : st = [])
    (hc : cells ≤ rm.cells) (hs : slots ≤ rm.slots) (eT : T.heap = h) (q : Q none h locs) : Gf p e below P T m pc Ls st := by
  subst hst
  obtain ⟨fs, hr, hrun, hended, hW, hsame⟩ := X.leave (v := none) (fun _ => rfl) hlk
  exact ⟨_, _, X.returnOut hx hret (hb hby hd) hr, hrun, hended, hf _ _ ⟨_, _, rfl, by show Q none T.heap locs; rw [eT]; exact q, ⟨_, rfl⟩, hW, hsame.mono hc hs⟩⟩
/-! the heap -/
variable {Z : State} {a0 : Array Value} {own : String} {a : Addr}
theorem g_new (X : Stand p l e R s m args below meth c T locs cells slots) (hx : p.tables.exec = Jvm.exec) (hby : c.code = code) (hZ : Z.Warmed39 s.vm) (hown : s.vm.findClass own = some m.cls) {C : String} {i n : Nat} (w : (Cond.classLink own i C).before a0 Z = true) (wi : (Cond.instantiable C n).before a0 Z = true) (wz : (Cond.initialized C).before a0 Z = true) (eT : T.heap = h)
    (hd : decode code pc = .ok (.new i, 3)) (hp : pc + 3 = pc') (hc : cells + 1 ≤ R.cells) (hl : slots + n ≤ R.slots)
    (g : ∀ (T' : State) (h' : Heap) (a : Addr), Stand p l e R s m args below meth c T' locs (cells + 1) (slots + n) → T'.heap = h' → Ext h h' → Exa Z h' a C → (∀ {O nm d : String} {ty : FieldType}, Laid Z a0 C O nm d → parseFieldDescriptor d = some ty → Fld Z h' a O nm d (defaultValue ty)) → a = h.size → Gf p e below P T' m pc' Ls (.ref a :: st)) : Gf p e below P T m pc Ls st := by
  subst hp
  obtain ⟨T', h', X', e', E', A', D', -, st'⟩ := newO X hx hZ hown w wi wz eT (g := mkF m pc Ls st) rfl (hb hby hd) hc hl
  exact Go.step st' (g T' h' h.size X' e' E' A' D' rfl)
theorem g_initO (X : Stand p l e R s m args below meth c T locs cells slots) (hx : p.tables.exec = Jvm.exec) (hby : c.code = code) (hZ : Z.Warmed39 s.vm) (hown : s.vm.findClass own = some m.cls) {i : Nat} (w1 : (Cond.methodLink own i Lib.objectInit).before a0 Z = true) (w2 : (Cond.instanceMethod Lib.objectInit).before a0 Z = true) (w3 : (Cond.code Lib.objectInit ⟨#[0xb1]⟩ 1 none).before a0 Z = true) (eT : T.heap = h)
    (hsize : Ls.size = c.maxLocals) (hst : st = .ref a :: st') (hd : decode code pc = .ok (.invokespecial i, 3)) (hp : pc + 3 = pc') (hf : 1 ≤ R.frames) {W : Nat} (hW : 2 * 0 + (st'.map fun v => v.category).sum = W) (hl : W + 12 ≤ R.locals)
    (g : ∀ (T' : State), Stand p l e R s m args below meth c T' locs cells slots → T'.heap = h → Gf p e below P T' m pc' Ls st') : Gf p e below P T m pc Ls st := by
  subst hp hst
  obtain ⟨T', X', e', k⟩ := initO X hx hZ hown w1 w2 w3 eT (g := mkF m pc Ls _) rfl hsize rfl (hb hby hd) hf (W := W) (Nat.le_of_eq hW) hl
  exact Go.step k (g T' X' e')
theorem g_getF (X : Stand p l e R s m args below meth c T locs cells slots) (hx : p.tables.exec = Jvm.exec) (hby : c.code = code) (hZ : Z.Warmed39 s.vm) (hown : s.vm.findClass own = some m.cls) {R0 O n d host : String} {i : Nat} {v : Value} (w : (Cond.fieldLink own i R0 n d).before a0 Z = true ∨ (Cond.fieldLinkNest own i R0 n d host).before a0 Z = true) (via : Via Z R0 O n d) (eT : T.heap = h) (F : Fld Z h a O n d v)
    (hst : st = .ref a :: st') (hd : decode code pc = .ok (.getfield i, 3)) (hp : pc + 3 = pc') (g : ∀ (T' : State), Stand p l e R s m args below meth c T' locs cells slots → T'.heap = h → Gf p e below P T' m pc' Ls (v :: st')) : Gf p e below P T m pc Ls st := by
  subst hp hst
  obtain ⟨T', X', e', k⟩ := getF X hx hZ hown w via eT F (g := mkF m pc Ls _) rfl rfl (hb hby hd)
  exact Go.step k (g T' X' e')
theorem g_getS (X : Stand p l e R s m args below meth c T locs cells slots) (hx : p.tables.exec = Jvm.exec) (hby : c.code = code) (hZ : Z.Warmed39 s.vm) (hown : s.vm.findClass own = some m.cls) {R0 O n d host : String} {i : Nat} {v : Value} (w : (Cond.fieldLink own i R0 n d).before a0 Z = true ∨ (Cond.fieldLinkNest own i R0 n d host).before a0 Z = true) (via : Via Z R0 O n d) (eT : T.heap = h) (F : Sta Z h O n d v)
    (hd : decode code pc = .ok (.getstatic i, 3)) (hp : pc + 3 = pc') (g : ∀ (T' : State), Stand p l e R s m args below meth c T' locs cells slots → T'.heap = h → Gf p e below P T' m pc' Ls (v :: st)) : Gf p e below P T m pc Ls st := by
  subst hp
  obtain ⟨T', X', e', k⟩ := getS2 X hx hZ hown w via eT F (g := mkF m pc Ls st) rfl (hb hby hd)
  exact Go.step k (g T' X' e')
theorem g_putF (X : Stand p l e R s m args below meth c T locs cells slots) (hx : p.tables.exec = Jvm.exec) (hby : c.code = code) (hZ : Z.Warmed39 s.vm) (hown : s.vm.findClass own = some m.cls) {R0 O n d host C : String} {i kk : Nat} {ty : FieldType} {v old : Value} (w : (Cond.fieldLink own i R0 n d).before a0 Z = true ∨ (Cond.fieldLinkNest own i R0 n d host).before a0 Z = true) (via : Via Z R0 O n d) (eT : T.heap = h) (F : Fld Z h a O n d old) (E : Exa Z h a C)
    (L : (Cond.lays C O n d).before a0 Z = true ∨ ((Cond.laysFinal C O n d).before a0 Z = true ∧ own = O ∧ meth.name = "<init>")) (wi : (Cond.instantiable C kk).before a0 Z = true) (hty : parseFieldDescriptor d = some ty) (hn : narrow ty v = v) (hf : fits ty v = true)
    (hst : st = v :: .ref a :: st') (hd : decode code pc = .ok (.putfield i, 3)) (hp : pc + 3 = pc') {k0 : Nat} (N : Fr k0 locs) (q : k0 ≤ a)
    (g : ∀ (T' : State) (h' : Heap), Stand p l e R s m args below meth c T' (locs ++ [⟨a, Jvm.RoadKit.slotOf Z O n d⟩]) cells slots → T'.heap = h' → Wr h h' a (Jvm.RoadKit.slotOf Z O n d) v → Fr k0 (locs ++ [⟨a, Jvm.RoadKit.slotOf Z O n d⟩]) → Gf p e below P T' m pc' Ls st') : Gf p e below P T m pc Ls st := by
  subst hp hst
  obtain ⟨T', h', X', e', W', k⟩ := putF X hx hZ hown w via eT F E L wi hty hn hf (g := mkF m pc Ls _) rfl rfl (hb hby hd)
  exact Go.step k (g T' h' X' e' W' (Fr.snoc X' N q))
/-! the calls, by a callee's contract -/
def Con (l : Launch) (Z : State) (y : MethodName) (bytes : ByteArray) (maxL : Nat) (ret : Option FieldType) (ws : List Cond) (rm : Room) (as : Array Value) (h : Heap) (Q : Option Value → Heap → List Loc → Prop) : Prop :=
  MetFree l y (head1 (Cond.code y bytes maxL ret :: ws) rm) (fun a U => a = as ∧ Z.Warmed39 U.vm ∧ U.heap = h) (fun _ _ _ _ _ => True) (fun _ U o U' => ∃ v L, o = .returned v ∧ Q v U'.heap L ∧ FrameEnd U o U' L rm.cells rm.slots)
theorem Con.start {y : MethodName} {bytes : ByteArray} {maxL : Nat} {ret : Option FieldType} {ws : List Cond} {as : Array Value} (Ls : Array Slot) (hn : plainFor y = true) (hef : ∀ m, entryFrame m as maxL = mkF m 0 Ls [])
    (k : ∀ (p : Program) (e : Env) (s : State) (m : MethodId) (below : List Frame) (meth : Method) (c : Code) (s₁ : State) (P : Outcome → State → Prop), Stand p l e rm s m as below meth c s₁ [] 0 0 → p.tables.exec = Jvm.exec → c.code = bytes → c.maxLocals = maxL → meth.sig.returnType = ret → meth.locks = false → s.vm.findClass y.cls = some m.cls → meth.name = y.name → Z.Warmed39 s.vm → s₁.heap = h → FinR l s rm Q P → Gf p e below P s₁ m 0 Ls []) :
    Con l Z y bytes maxL ret ws rm as h Q := by
  refine MetFree.of_bodySF hn hisR ?_
  intro p e s m args below meth c s₁ Bd hml0 hP hK
  obtain ⟨rfl, hZ, hh⟩ := hP
  have e0 : s₁.heap = h := by rw [← hh, Bd.state]; rfl
  obtain ⟨s2, o, h1, h2⟩ := k p e s m below meth c s₁ _ (Stand.of_body Bd) Bd.exec Bd.bytes hml0 Bd.returns (BodyLoose.notSynchronized Bd) (findClass_of_methodNamed Bd.named) (name_of_methodNamed Bd.named Bd.method).1 hZ e0 (fun o U q => q)
  exact ⟨s2, o, castTop (hef m) h1, h2⟩
theorem g_callS (X : Stand p l e R s m args below meth c T locs cells slots) (hx : p.tables.exec = Jvm.exec) (hby : c.code = code) (hml : Ls.size = c.maxLocals) (hZ : Z.Warmed39 s.vm) (hown : s.vm.findClass own = some m.cls) {i : Nat} {y : MethodName} {bytes : ByteArray} {maxL W : Nat} {ret : Option FieldType} {ps : List FieldType} {argsL : List Value} (eT : T.heap = h)
    (hM : Con l Z y bytes maxL ret [] rm argsL.toArray h Q) (w1 : (Cond.methodLink own i y).before a0 Z = true) (w2 : (Cond.static y).before a0 Z = true) (w3 : (Cond.initialized y.cls).before a0 Z = true) (w4 : (Cond.code y bytes maxL ret).before a0 Z = true) (hy : y.cls ≠ "java/lang/invoke/MethodHandle" ∧ y.cls ≠ "java/lang/invoke/VarHandle")
    (hpd : parseMethodDescriptor y.desc = some ⟨ps, ret⟩) (hlen : argsL.length = ps.length) (hst : st = argsL.reverse ++ st') (hW : 2 * 0 + (st'.map fun v => v.category).sum = W) (hf : rm.frames + 1 ≤ R.frames) (hl : W + (maxL + 11) + rm.locals ≤ R.locals) (hc : cells + rm.cells ≤ R.cells) (hs : slots + rm.slots ≤ R.slots)
    (hd : decode code pc = .ok (.invokestatic i, 3)) (hp : pc + 3 = pc')
    (g : ∀ (T' : State) (v : Option Value) (L : List Loc), Stand p l e R s m args below meth c T' (locs ++ L) (cells + rm.cells) (slots + rm.slots) → Q v T'.heap L → Gf p e below P T' m pc' Ls (v.toList ++ st')) : Gf p e below P T m pc Ls st := by
  subst hp hst
  obtain ⟨v, _, ⟨T', L', k', n'⟩, -, X', ⟨Lc, hQ, hl', hy', hz'⟩, k⟩ := Jvm.LawKit.callS X hx (y := y) hown (mvT hZ w1) (mvT hZ w2) (mvT hZ w3) (mvT hZ w4) hy (backOf (W := W) hM hZ w4 w3 hf hl) (g := mkF m pc Ls _) rfl hml (argsL := argsL) (rest := st') (lenOf hpd hlen) rfl (Nat.le_of_eq hW) (hb hby hd) (fun _ _ => ⟨rfl, eT, hc, hs⟩)
  dsimp only [Pt.U, Pt.locs, Pt.cells, Pt.slots] at X' hl' hy' hz' k hQ
  subst hl' hy' hz'
  exact Go.step k (g T' v Lc X' hQ)
theorem g_init (X : Stand p l e R s m args below meth c T locs cells slots) (hx : p.tables.exec = Jvm.exec) (hby : c.code = code) (hml : Ls.size = c.maxLocals) (hZ : Z.Warmed39 s.vm) (hown : s.vm.findClass own = some m.cls) {i : Nat} {y : MethodName} {bytes : ByteArray} {maxL W : Nat} {ps : List FieldType} {argsL : List Value} (hy1 : y.name = "<init>") (eT : T.heap = h)
    (hM : Con l Z y bytes maxL none [] rm (.ref a :: argsL).toArray h Q) (w1 : (Cond.methodLink own i y).before a0 Z = true) (w2 : (Cond.instanceMethod y).before a0 Z = true) (w3 : (Cond.initialized y.cls).before a0 Z = true) (w4 : (Cond.code y bytes maxL none).before a0 Z = true) (hy : y.cls ≠ "java/lang/invoke/MethodHandle" ∧ y.cls ≠ "java/lang/invoke/VarHandle")
    (hpd : parseMethodDescriptor y.desc = some ⟨ps, none⟩) (hlen : argsL.length = ps.length) (hst : st = argsL.reverse ++ .ref a :: st') (hW : 2 * 0 + (st'.map fun v => v.category).sum = W) (hf : rm.frames + 1 ≤ R.frames) (hl : W + (maxL + 11) + rm.locals ≤ R.locals) (hc : cells + rm.cells ≤ R.cells) (hs : slots + rm.slots ≤ R.slots)
    (hd : decode code pc = .ok (.invokespecial i, 3)) (hp : pc + 3 = pc')
    (g : ∀ (T' : State) (v : Option Value) (L : List Loc), Stand p l e R s m args below meth c T' (locs ++ L) (cells + rm.cells) (slots + rm.slots) → Q v T'.heap L → Gf p e below P T' m pc' Ls (v.toList ++ st')) : Gf p e below P T m pc Ls st := by
  subst hp hst
  obtain ⟨v, _, ⟨T', L', k', n'⟩, -, X', ⟨Lc, hQ, hl', hy', hz'⟩, k⟩ := X.specialBack hx (y := y) hy1 hown (mvT hZ w1) (mvT hZ w2) (mvT hZ w4) hy (backOf (W := W) hM hZ w4 w3 hf hl) (g := mkF m pc Ls _) rfl hml (Steps.refl _) (a := a) (argsL := argsL) (rest := st') (lenOf hpd hlen) rfl (Nat.le_of_eq hW) (hb hby hd) (fun _ _ => ⟨rfl, eT, hc, hs⟩)
  dsimp only [Pt.U, Pt.locs, Pt.cells, Pt.slots] at X' hl' hy' hz' k hQ
  subst hl' hy' hz'
  exact Go.step (fun t k2 => k.trans k2) (g T' v Lc X' hQ)
theorem g_virt (X : Stand p l e R s m args below meth c T locs cells slots) (hx : p.tables.exec = Jvm.exec) (hby : c.code = code) (hml : Ls.size = c.maxLocals) (hZ : Z.Warmed39 s.vm) (hown : s.vm.findClass own = some m.cls) {i : Nat} {y : MethodName} {bytes : ByteArray} {maxL W : Nat} {ret : Option FieldType} {ps : List FieldType} {argsL : List Value} {C : String} (eT : T.heap = h)
    (hM : Con l Z y bytes maxL ret [] rm (.ref a :: argsL).toArray h Q) (w1 : (Cond.methodLink own i y).before a0 Z = true) (wd : (Cond.declares y).before a0 Z = true) (ws : (Cond.selects C y y).before a0 Z = true) (w2 : (Cond.instanceMethod y).before a0 Z = true) (w3 : (Cond.initialized y.cls).before a0 Z = true) (w4 : (Cond.code y bytes maxL ret).before a0 Z = true) (hy : y.cls ≠ "java/lang/invoke/MethodHandle" ∧ y.cls ≠ "java/lang/invoke/VarHandle") (E : Exa Z h a C)
    (hpd : parseMethodDescriptor y.desc = some ⟨ps, ret⟩) (hlen : argsL.length = ps.length) (hst : st = argsL.reverse ++ .ref a :: st') (hW : 2 * 0 + (st'.map fun v => v.category).sum = W) (hf : rm.frames + 1 ≤ R.frames) (hl : W + (maxL + 11) + rm.locals ≤ R.locals) (hc : cells + rm.cells ≤ R.cells) (hs : slots + rm.slots ≤ R.slots)
    (hd : decode code pc = .ok (.invokevirtual i, 3)) (hp : pc + 3 = pc')
    (g : ∀ (T' : State) (v : Option Value) (L : List Loc), Stand p l e R s m args below meth c T' (locs ++ L) (cells + rm.cells) (slots + rm.slots) → Q v T'.heap L → Gf p e below P T' m pc' Ls (v.toList ++ st')) : Gf p e below P T m pc Ls st := by
  subst hp hst
  obtain ⟨cq, kq, qa, qb, qc⟩ := isOf hZ eT E
  obtain ⟨v, _, ⟨T', L', k', n'⟩, -, X', ⟨Lc, hQ, hl', hy', hz'⟩, k⟩ := X.virtualBack hx (y := y) (z := y) hown (mvT hZ w1) (mvT hZ wd) (notFace_of_selects (args := #[]) (mvT hZ ws)) (mvT hZ ws) (mvT hZ w2) hy (backOf (W := W) hM hZ w4 w3 hf hl) qa qc (g := mkF m pc Ls _) rfl hml (Steps.refl _) (argsL := argsL) (rest := st') (lenOf hpd hlen) rfl (Nat.le_of_eq hW) (hb hby hd) (fun _ _ => ⟨rfl, eT, hc, hs⟩)
  dsimp only [Pt.U, Pt.locs, Pt.cells, Pt.slots] at X' hl' hy' hz' k hQ
  subst hl' hy' hz'
  exact Go.step (fun t k2 => k.trans k2) (g T' v Lc X' hQ)
theorem g_newA (X : Stand p l e R s m args below meth c T locs cells slots) (hx : p.tables.exec = Jvm.exec) (hby : c.code = code) (hZ : Z.Warmed39 s.vm) {aty : ArrayType} {n : Int32} {cap : Nat} (w : (Cond.arrayClass (newarray.typeOf aty)).before a0 Z = true) (eT : T.heap = h) (hst : st = .int n :: st') (hn : ¬ n < 0) (hcap : n.toNatClampNeg ≤ cap) (hb8 : cap * 8 ≤ 536870912)
    (hc : cells + 1 ≤ R.cells) (hl : slots + cap ≤ R.slots) (hd : decode code pc = .ok (.newarray aty, 2)) (hp : pc + 2 = pc') (k : Nat)
    (g : ∀ (T' : State) (h' : Heap) (cA : ClassId) (a : Addr), Stand p l e R s m args below meth c T' locs (cells + 1) (slots + cap) → T'.heap = h' → Ext h h' → Arv Z h' a cA (newarray.typeOf aty) n ([] ++ List.replicate k (defaultValue (newarray.typeOf aty))) (defaultValue (newarray.typeOf aty)) → a = h.size → Gf p e below P T' m pc' Ls (.ref a :: st')) : Gf p e below P T m pc Ls st := by
  subst hp hst
  obtain ⟨T', h', cA, X', e', E', A', k'⟩ := newP X hx hZ w eT (g := mkF m pc Ls _) rfl (hb hby hd) rfl hn hcap hb8 hc hl
  exact Go.step k' (g T' h' cA h.size X' e' E' ((Arv.new A' hn).pad (pad_rep [] _ k)) rfl)
theorem g_stC (X : Stand p l e R s m args below meth c T locs cells slots) (hx : p.tables.exec = Jvm.exec) (hby : c.code = code) (hZ : Z.Warmed39 s.vm) {cA : ClassId} {n j x : Int32} {vs : List Value} {dv : Value} (eT : T.heap = h) (V : Arv Z h a cA .char n vs dv) (hj : ¬ j < 0 ∧ j < n) (i : Nat) (hi : j.toNatClampNeg = i) (hl : i < vs.length) (hst : st = .int x :: .int j :: .ref a :: st') (hd : decode code pc = .ok (.castore, 1)) (hp : pc + 1 = pc') {k0 : Nat} (N : Fr k0 locs) (q : k0 ≤ a)
    (g : ∀ (T' : State) (h' : Heap), Stand p l e R s m args below meth c T' (locs ++ [⟨a, j.toNatClampNeg⟩]) cells slots → T'.heap = h' → Wr h h' a j.toNatClampNeg (.int (nar .char x)) → Fr k0 (locs ++ [⟨a, j.toNatClampNeg⟩]) → Arv Z h' a cA .char n (vs.set i (.int (nar .char x))) dv → Gf p e below P T' m pc' Ls st') : Gf p e below P T m pc Ls st := by
  subst hp hst
  obtain ⟨c1, A1, q1, S1, M1, H1, U1⟩ := id V
  obtain ⟨T', h', X', e', W', k'⟩ := stC X hx hZ eT A1 (inb_of S1 hj) (g := mkF m pc Ls _) rfl rfl (hb hby hd)
  exact Go.step k' (g T' h' X' e' W' (Fr.snoc X' N q) (Arv.set A1 q1 S1 M1 H1 U1 (fits_nar_char _) W' i hi hl))
theorem g_stD (X : Stand p l e R s m args below meth c T locs cells slots) (hx : p.tables.exec = Jvm.exec) (hby : c.code = code) (hZ : Z.Warmed39 s.vm) {cA : ClassId} {n j : Int32} {x : UInt64} {vs : List Value} {dv : Value} (eT : T.heap = h) (V : Arv Z h a cA .double n vs dv) (hj : ¬ j < 0 ∧ j < n) (i : Nat) (hi : j.toNatClampNeg = i) (hl : i < vs.length) (hst : st = .double x :: .int j :: .ref a :: st') (hd : decode code pc = .ok (.dastore, 1)) (hp : pc + 1 = pc') {k0 : Nat} (N : Fr k0 locs) (q : k0 ≤ a)
    (g : ∀ (T' : State) (h' : Heap), Stand p l e R s m args below meth c T' (locs ++ [⟨a, j.toNatClampNeg⟩]) cells slots → T'.heap = h' → Wr h h' a j.toNatClampNeg (.double x) → Fr k0 (locs ++ [⟨a, j.toNatClampNeg⟩]) → Arv Z h' a cA .double n (vs.set i (.double x)) dv → Gf p e below P T' m pc' Ls st') : Gf p e below P T m pc Ls st := by
  subst hp hst
  obtain ⟨c1, A1, q1, S1, M1, H1, U1⟩ := id V
  obtain ⟨T', h', X', e', W', k'⟩ := stD X hx hZ eT A1 (inb_of S1 hj) (g := mkF m pc Ls _) rfl rfl (hb hby hd)
  exact Go.step k' (g T' h' X' e' W' (Fr.snoc X' N q) (Arv.set A1 q1 S1 M1 H1 U1 rfl W' i hi hl))
theorem g_ldD (X : Stand p l e R s m args below meth c T locs cells slots) (hx : p.tables.exec = Jvm.exec) (hby : c.code = code) (hZ : Z.Warmed39 s.vm) {cA : ClassId} {n j : Int32} {v : UInt64} {vs : List Value} {dv : Value} (eT : T.heap = h) (V : Arv Z h a cA .double n vs dv) (hj : ¬ j < 0 ∧ j < n) (hv : vs.getD j.toNatClampNeg dv = .double v) (hst : st = .int j :: .ref a :: st') (hd : decode code pc = .ok (.daload, 1)) (hp : pc + 1 = pc')
    (g : Gf p e below P T m pc' Ls (.double v :: st')) : Gf p e below P T m pc Ls st := by
  subst hp hst
  obtain ⟨c1, A1, q1, S1, M1, H1, U1⟩ := id V
  have hj' := inb_of S1 hj
  exact Go.step (fun t k => X.daload hx (a := a) (cell := c1) (j := j) (v := .double v) (by rw [eT]; exact A1.1) (State.isArrayOf_alike hZ.alike A1.2.1) A1.2.2 hj' (Has.at H1 hj' hv) (g := mkF m pc Ls _) rfl rfl (hb hby hd) t k) g
theorem g_absD (X : Stand p l e R s m args below meth c T locs cells slots) (hx : p.tables.exec = Jvm.exec) (hby : c.code = code) (hml : Ls.size = c.maxLocals) (hZ : Z.Warmed39 s.vm) (hown : s.vm.findClass own = some m.cls) {i : Nat} {x v : UInt64} (eT : T.heap = h) (w1 : (Cond.methodLink own i Jvm.Free.Fl.Abs.absDN).before a0 Z = true) (w2 : (Cond.static Jvm.Free.Fl.Abs.absDN).before a0 Z = true) (w3 : (Cond.initialized "java/lang/Math").before a0 Z = true) (w4 : (Cond.code Jvm.Free.Fl.Abs.absDN Jvm.Free.Fl.Abs.absDCode 2 (some .double)).before a0 Z = true)
    (hn : Jvm.Free.Fl.NoNaN64 x) (hv : x &&& 0x7fffffffffffffff = v) (hst : st = .double x :: st') {W : Nat} (hW : 2 * 0 + (st'.map fun v => v.category).sum = W) (hf : 1 ≤ R.frames) (hl : W + 13 ≤ R.locals) (hc : cells ≤ R.cells) (hs : slots ≤ R.slots) (hd : decode code pc = .ok (.invokestatic i, 3)) (hp : pc + 3 = pc')
    (g : ∀ (T' : State), Stand p l e R s m args below meth c T' locs cells slots → T'.heap = h → Gf p e below P T' m pc' Ls (.double v :: st')) : Gf p e below P T m pc Ls st := by
  subst hp hst hv
  obtain ⟨T', X', e', k⟩ := natS X hx hZ hown w1 w2 w3 w4 (by decide) eT (F := fun a' => a' = #[.double x] ∧ Jvm.Free.Fl.NoNaN64 x) (fun hcode => Jvm.Free.Fl.Abs.absD_pays x hcode hf hl) (g := mkF m pc Ls _) rfl hml (argsL := [.double x]) (rest := st') (lenOf (ps := [.double]) (r := some .double) (by decide +kernel) rfl) rfl (Nat.le_of_eq hW) (hb hby hd) hc hs ⟨rfl, hn⟩ rfl
  exact Go.step k (g T' X' e')
theorem g_maxD (X : Stand p l e R s m args below meth c T locs cells slots) (hx : p.tables.exec = Jvm.exec) (hby : c.code = code) (hml : Ls.size = c.maxLocals) (hZ : Z.Warmed39 s.vm) (hown : s.vm.findClass own = some m.cls) {i : Nat} {x y v : UInt64} (eT : T.heap = h) (w1 : (Cond.methodLink own i Jvm.Free.Fl.Abs.maxDN).before a0 Z = true) (w2 : (Cond.static Jvm.Free.Fl.Abs.maxDN).before a0 Z = true) (w3 : (Cond.initialized "java/lang/Math").before a0 Z = true) (w4 : (Cond.code Jvm.Free.Fl.Abs.maxDN Jvm.Free.Fl.Abs.maxDCode 4 (some .double)).before a0 Z = true)
    (hn : Jvm.Free.Fl.NoNaN64 x) (hm : Jvm.Free.Fl.NoNaN64 y) (hv : Jvm.Native.java_lang_Math.nans.pick64 true x y = v) (hst : st = .double y :: .double x :: st') {W : Nat} (hW : 2 * 0 + (st'.map fun v => v.category).sum = W) (hf : 1 ≤ R.frames) (hl : W + 15 ≤ R.locals) (hc : cells ≤ R.cells) (hs : slots ≤ R.slots) (hd : decode code pc = .ok (.invokestatic i, 3)) (hp : pc + 3 = pc')
    (g : ∀ (T' : State), Stand p l e R s m args below meth c T' locs cells slots → T'.heap = h → Gf p e below P T' m pc' Ls (.double v :: st')) : Gf p e below P T m pc Ls st := by
  subst hp hst hv
  obtain ⟨T', X', e', k⟩ := natS X hx hZ hown w1 w2 w3 w4 (by decide) eT (F := fun a' => a' = #[.double x, .double y] ∧ Jvm.Free.Fl.NoNaN64 x ∧ Jvm.Free.Fl.NoNaN64 y) (fun hcode => Jvm.Free.Fl.Abs.maxD_pays x y hcode hf hl) (g := mkF m pc Ls _) rfl hml (argsL := [.double x, .double y]) (rest := st') (lenOf (ps := [.double, .double]) (r := some .double) (by decide +kernel) rfl) rfl (Nat.le_of_eq hW) (hb hby hd) hc hs ⟨rfl, hn, hm⟩ rfl
  exact Go.step k (g T' X' e')
theorem g_pop2D (X : Stand p l e R s m args below meth c T locs cells slots) (hx : p.tables.exec = Jvm.exec) (hby : c.code = code) {x : UInt64} (hd : decode code pc = .ok (.pop2, 1)) (hst : st = .double x :: st') (hp : pc + 1 = pc') (g : Gf p e below P T m pc' Ls st') : Gf p e below P T m pc Ls st := by
  subst hp hst
  have hd' := hb hby hd
  refine Go.step (fun t k => ?_) g
  show Steps p.tables e below (T.setTop { method := m, pc := pc, locals := Ls, stack := .double x :: st', locked := none }) t
  jvm_step X.here [X.here.top, hx, hd', Value.category]
  exact k
/-! where a String constant may be loaded for the first time: the Stand lies over (s.setVm vm0) -/
theorem g_ldcS {vm0 : Vm} (X : Stand p l e R (s.setVm vm0) m args below meth c T locs cells slots) (hx : p.tables.exec = Jvm.exec) (hby : c.code = code) (hZ : Z.Warmed39 vm0) (hown : vm0.findClass own = some m.cls) {i n : Nat} {text : String} (w : (Cond.stringLink own i text).before a0 Z = true) (wS : ∀ a ∈ Bundle.stringAtoms, a.before a0 Z = true) (eT : T.heap = h) {k0 : Nat} (hS : s.Since vm0 k0) (hk : k0 ≤ h.size)
    (hd : decode code pc = .ok (.ldc i, 2)) (hp : pc + 2 = pc') (hn : 4 * text.toList.length ≤ n) (hbig : n ≤ 536870912) (hc : cells + 2 ≤ R.cells) (hl : slots + (n + 4) ≤ R.slots)
    (g : ∀ (a : Addr) (T' : State) (h' : Heap) (k1 : Nat), Stand p l e R (s.setVm T'.vm) m args below meth c T' locs (cells + 2) (slots + (n + 4)) → T'.heap = h' → Ext h h' → s.Since T'.vm k1 → k1 ≤ h'.size → Z.Warmed39 (s.setVm T'.vm).vm → (s.setVm T'.vm).vm.findClass own = some m.cls → Gf p e below P T' m pc' Ls (.ref a :: st)) : Gf p e below P T m pc Ls st := by
  subst hp
  obtain ⟨a, T', h', k1, X', e', E', hS', hk', hZ', hown', k⟩ := ldcS X hx hZ hown w wS eT hS hk (g := mkF m pc Ls st) rfl (hb hby hd) hn hbig hc hl
  exact Go.step k (g a T' h' k1 X' e' E' hS' hk' hZ' hown')
def ConW (l : Launch) (Z : State) (y : MethodName) (bytes : ByteArray) (maxL : Nat) (ret : Option FieldType) (ws : List Cond) (rm : Room) (as : Array Value) (h : Heap) (Q : Option Value → Heap → List Loc → Prop) : Prop :=
  MetFree l y (head1 (Cond.code y bytes maxL ret :: ws) rm) (fun a U => a = as ∧ Z.Warmed39 U.vm ∧ U.heap = h) (fun _ _ _ _ _ => True) (fun _ U o U' => ∃ v L, o = .returned v ∧ Q v U'.heap L ∧ ReturnedEndW U o U' L rm.cells rm.slots)
def FinW (l : Launch) (s : State) (rm : Room) (Q : Option Value → Heap → List Loc → Prop) (P : Outcome → State → Prop) : Prop := ∀ o U, (∃ v L, o = .returned v ∧ Q v U.heap L ∧ ReturnedEndW s o U L rm.cells rm.slots) → P o U
theorem ConW.start {y : MethodName} {bytes : ByteArray} {maxL : Nat} {ret : Option FieldType} {ws : List Cond} {as : Array Value} (Ls : Array Slot) (hn : plainFor y = true) (hef : ∀ m, entryFrame m as maxL = mkF m 0 Ls [])
    (k : ∀ (p : Program) (e : Env) (s : State) (m : MethodId) (below : List Frame) (meth : Method) (c : Code) (s₁ : State) (P : Outcome → State → Prop), Stand p l e rm (s.setVm s.vm) m as below meth c s₁ [] 0 0 → p.tables.exec = Jvm.exec → c.code = bytes → c.maxLocals = maxL → meth.sig.returnType = ret → meth.locks = false → (s.setVm s.vm).vm.findClass y.cls = some m.cls → meth.name = y.name → Z.Warmed39 (s.setVm s.vm).vm → s₁.heap = h → FinW l s rm Q P → s.Since s.vm 0 → Gf p e below P s₁ m 0 Ls []) :
    ConW l Z y bytes maxL ret ws rm as h Q := by
  refine MetFree.of_bodySF hn hisR ?_
  intro p e s m args below meth c s₁ Bd hml0 hP hK
  obtain ⟨rfl, hZ, hh⟩ := hP
  have e0 : s₁.heap = h := by rw [← hh, Bd.state]; rfl
  obtain ⟨s2, o, h1, h2⟩ := k p e s m below meth c s₁ _ (Stand.of_body Bd) Bd.exec Bd.bytes hml0 Bd.returns (BodyLoose.notSynchronized Bd) (findClass_of_methodNamed Bd.named) (name_of_methodNamed Bd.named Bd.method).1 hZ e0 (fun o U q => q) ((State.WarmedH.refl s).since 0)
  exact ⟨s2, o, castTop (hef m) h1, h2⟩
theorem own_endW {s t : State} {o : Outcome} {L : List Loc} {k n k' n' : Nat} (h : ReturnedEndW s o t L k n) (hk : k ≤ k') (hn : n ≤ n') : ReturnedEndW s o t L k' n' := ⟨h.1, h.2.1, h.2.2.1, h.2.2.2.mono hk hn⟩
theorem g_retVW {vm0 : Vm} (X : Stand p l e R (s.setVm vm0) m args below meth c T locs cells slots) (hx : p.tables.exec = Jvm.exec) (hby : c.code = code) {k0 : Nat} (hS : s.Since vm0 k0) (hk : k0 ≤ h.size) (hf : FinW l s rm Q P) (hlk : meth.locks = false) {t : FieldType} {i : Instr} {w : Value} (hret : meth.sig.returnType = some t) (hd : decode code pc = .ok (i, 1)) (hst : st = w :: st') (hn : narrow t w = w)
    (hi : (i = .ireturn ∧ (t = .int ∨ t = .boolean ∨ t = .byte ∨ t = .char ∨ t = .short) ∧ ∃ z, w = .int z) ∨ (i = .lreturn ∧ t = .long ∧ ∃ z, w = .long z) ∨ (i = .dreturn ∧ t = .double ∧ ∃ z, w = .double z) ∨ (i = .freturn ∧ t = .float ∧ ∃ z, w = .float z) ∨ (i = .areturn ∧ t.isReference = true ∧ w.isRef = true))
    (hc : cells ≤ rm.cells) (hs : slots ≤ rm.slots) (eT : T.heap = h) (q : Q (some w) h locs) : Gf p e below P T m pc Ls st := by
  subst hst
  obtain ⟨fs, hr, hrun, hended, hE⟩ := X.leaveW hS (by rw [eT]; exact hk) (v := some w) (fun q => by rw [hret] at q; cases q) hlk
  exact ⟨_, _, retOut X hx hret hn hi (hb hby hd) hr, hrun, hended, hf _ _ ⟨_, _, rfl, by show Q (some w) T.heap locs; rw [eT]; exact q, own_endW hE hc hs⟩⟩
theorem g_retZW {vm0 : Vm} (X : Stand p l e R (s.setVm vm0) m args below meth c T locs cells slots) (hx : p.tables.exec = Jvm.exec) (hby : c.code = code) {k0 : Nat} (hS : s.Since vm0 k0) (hk : k0 ≤ h.size) (hf : FinW l s rm Q P) (hlk : meth.locks = false) {t : FieldType} {z w : Int32} (hret : meth.sig.returnType = some t) (hd : decode code pc = .ok (.ireturn, 1)) (hst : st = .int z :: st') (ht : t = .boolean ∨ t = .byte ∨ t = .char ∨ t = .short)
    (hw : nar t z = w) (hc : cells ≤ rm.cells) (hs : slots ≤ rm.slots) (eT : T.heap = h) (q : Q (some (.int w)) h locs) : Gf p e below P T m pc Ls st := by
  subst hst hw
  obtain ⟨fs, hr, hrun, hended, hE⟩ := X.leaveW hS (by rw [eT]; exact hk) (v := some (.int (nar t z))) (fun q => by rw [hret] at q; cases q) hlk
  exact ⟨_, _, retN X hx hret ht (hb hby hd) hr, hrun, hended, hf _ _ ⟨_, _, rfl, by show Q (some (.int (nar t z))) T.heap locs; rw [eT]; exact q, own_endW hE hc hs⟩⟩
theorem g_retW {vm0 : Vm} (X : Stand p l e R (s.setVm vm0) m args below meth c T locs cells slots) (hx : p.tables.exec = Jvm.exec) (hby : c.code = code) {k0 : Nat} (hS : s.Since vm0 k0) (hk : k0 ≤ h.size) (hf : FinW l s rm Q P) (hlk : meth.locks = false) (hret : meth.sig.returnType = none) (hd : decode code pc = .ok (.return_, 1)) (hst : st = [])
    (hc : cells ≤ rm.cells) (hs : slots ≤ rm.slots) (eT : T.heap = h) (q : Q none h locs) : Gf p e below P T m pc Ls st := by
  subst hst
  obtain ⟨fs, hr, hrun, hended, hE⟩ := X.leaveW hS (by rw [eT]; exact hk) (v := none) (fun _ => rfl) hlk
  exact ⟨_, _, X.returnOut hx hret (hb hby hd) hr, hrun, hended, hf _ _ ⟨_, _, rfl, by show Q none T.heap locs; rw [eT]; exact q, own_endW hE hc hs⟩⟩
theorem g_initW {vm0 : Vm} (X : Stand p l e R (s.setVm vm0) m args below meth c T locs cells slots) (hx : p.tables.exec = Jvm.exec) (hby : c.code = code) (hml : Ls.size = c.maxLocals) (hZ : Z.Warmed39 (s.setVm vm0).vm) (hown : (s.setVm vm0).vm.findClass own = some m.cls) {k0 : Nat} (hS : s.Since vm0 k0) (hk : k0 ≤ h.size) {i : Nat} {y : MethodName} {bytes : ByteArray} {maxL W : Nat} {ps : List FieldType} {argsL : List Value} (hy1 : y.name = "<init>") (eT : T.heap = h)
    (hM : ConW l Z y bytes maxL none [] rm (.ref a :: argsL).toArray h Q) (w1 : (Cond.methodLink own i y).before a0 Z = true) (w2 : (Cond.instanceMethod y).before a0 Z = true) (w3 : (Cond.initialized y.cls).before a0 Z = true) (w4 : (Cond.code y bytes maxL none).before a0 Z = true) (hy : y.cls ≠ "java/lang/invoke/MethodHandle" ∧ y.cls ≠ "java/lang/invoke/VarHandle")
    (hpd : parseMethodDescriptor y.desc = some ⟨ps, none⟩) (hlen : argsL.length = ps.length) (hst : st = argsL.reverse ++ .ref a :: st') (hW : 2 * 0 + (st'.map fun v => v.category).sum = W) (hf : rm.frames + 1 ≤ R.frames) (hl : W + (maxL + 11) + rm.locals ≤ R.locals) (hc : cells + rm.cells ≤ R.cells) (hs : slots + rm.slots ≤ R.slots)
    (hd : decode code pc = .ok (.invokespecial i, 3)) (hp : pc + 3 = pc')
    (g : ∀ (T' : State) (v : Option Value) (L : List Loc), Stand p l e R (s.setVm T'.vm) m args below meth c T' (locs ++ L) (cells + rm.cells) (slots + rm.slots) → Q v T'.heap L → s.Since T'.vm T'.heap.size → Z.Warmed39 (s.setVm T'.vm).vm → (s.setVm T'.vm).vm.findClass own = some m.cls → Gf p e below P T' m pc' Ls (v.toList ++ st')) : Gf p e below P T m pc Ls st := by
  subst hp hst
  obtain ⟨v, _, ⟨T', L', k', n'⟩, -, X', hS', hgr, ⟨Lc, hQ, hl', hy', hz'⟩, k⟩ := X.specialBackS hx (y := y) hy1 hown (mvT hZ w1) (mvT hZ w2) (mvT hZ w4) hy (backOfS (W := W) hM hZ w4 w3 hf hl) (g := mkF m pc Ls _) rfl hml (Steps.refl _) (a := a) (argsL := argsL) (rest := st') (lenOf hpd hlen) rfl (Nat.le_of_eq hW) (hb hby hd) (fun _ _ => ⟨rfl, eT, hc, hs⟩)
  dsimp only [Pt.U, Pt.locs, Pt.cells, Pt.slots] at X' hl' hy' hz' k hQ hS' hgr
  subst hl' hy' hz'
  have hZ' : Z.Warmed39 (s.setVm T'.vm).vm := State.Warmed39.trans (t := s.setVm vm0) hZ hS'.1
  exact Go.step (fun t k2 => k.trans k2) (g T' v Lc X' hQ (foldS hS (by rw [eT]; exact hk) hS' hgr) hZ' (by rw [show (s.setVm T'.vm).vm = T'.vm from rfl, hS'.1.alike.findClass]; exact hown))
theorem own_join {G : Prop} (P : Outcome → State → Prop) (X : Stand p l e R s m args below meth c T locs cells slots) (eT : T.heap = h) (pc : Nat) (Ls : Array Slot) (st : List Value) (J : ∀ T', Stand p l e R s m args below meth c T' locs cells slots → T'.heap = h → Gf p e below P T' m pc Ls st)
    (k : (∀ T', Stand p l e R s m args below meth c T' locs cells slots → T'.heap = h → Gf p e below P T' m pc Ls st) → G) : G := k J
end Steps1
theorem own_sta_keep {Z : State} {h h' : Heap} {ws : List Addr} {C n d : String} {v : Value} (F : Sta Z h C n d v) (K : Keep h h' ws) (q : ∀ x ∈ ws, ∃ C', Exa Z h x C') : Sta Z h' C n d v := by
  obtain ⟨cf, i, k, f, st, cell, h1, h2, h3, h4, h5, h6, h7⟩ := F
  refine ⟨cf, i, k, f, st, cell, h1, h2, h3, h4, K.2.1 st cell h5 fun hm => ?_, h6, h7⟩
  obtain ⟨C', cell', _, g1, -, -, g4, -⟩ := q st hm
  cases h5.symm.trans g1
  rw [g4] at h6
  cases h6
theorem own_ef {m : MethodId} {as : Array Value} {n : Nat} {Ls : Array Slot} (h : Jvm.Sym.laidSlots as.toList ++ List.replicate (n - (Jvm.Sym.laidSlots as.toList).length) .unset = Ls.toList) : entryFrame m as n = mkF m 0 Ls [] := by
  have e : argsToLocals as n = Ls := Array.toList_inj.mp (by rw [Jvm.Sym.argsToLocals_toList]; exact h)
  first | exact congrArg (fun L => mkF m 0 L []) e | (show mkF m 0 (argsToLocals as n) [] = mkF m 0 Ls []; rw [e])
theorem own_fitZ {z : Int32} (h : z = 0 ∨ z = 1) : fits .boolean (.int z) = true := by rcases h with rfl | rfl <;> rfl
theorem own_narZ {z : Int32} (h : z = 0 ∨ z = 1) : narrow .boolean (.int z) = .int z := by rcases h with rfl | rfl <;> rfl
theorem own_nar {z : Int32} (h : z = 0 ∨ z = 1) : nar .boolean z = z := by rcases h with rfl | rfl <;> rfl
theorem own_01 {c : Prop} [Decidable c] {z : Int32} (h : z = if c then 0 else 1) : z = 0 ∨ z = 1 := by subst h; split <;> simp
theorem own_10 {c : Prop} [Decidable c] {z : Int32} (h : z = if c then 1 else 0) : z = 0 ∨ z = 1 := by subst h; split <;> simp
end Jvm.Own
namespace Jvm.Own
open Jvm.FP Jvm.FP.Core
/-- a double's value in units of 2^(-1074) -/
abbrev zv (a : UInt64) : Int := zval b64 (val64 a)
theorem own_qmin : b64.qmin = -1074 := by decide +kernel
theorem own_qmax : b64.qmax = 971 := by decide +kernel
theorem ring1 {za zb d d' n n' o zV : Int} (h1 : za * d = n * o) (h2 : zb * d' = n' * o) (h3 : zV * (d * d') = n * n' * o) : za * zb * (d * d') = zV * o * (d * d') := by
  calc za * zb * (d * d') = (za * d) * (zb * d') := by ac_rfl
    _ = n * o * (n' * o) := by rw [h1, h2]
    _ = (n * n' * o) * o := by ac_rfl
    _ = zV * o * (d * d') := by rw [← h3]; ac_rfl
theorem ring2 {za zb d d' k n n' m o zV : Int} (h1 : za * d = n * o) (h2 : zb * d' = n' * o) (h3 : zV * k = m * o) (h : m * (d * n') = n * (d' * k)) : za * o * (d * (d' * k)) = zV * zb * (d * (d' * k)) := by
  calc za * o * (d * (d' * k)) = (za * d) * (o * (d' * k)) := by ac_rfl
    _ = (n * (d' * k)) * (o * o) := by rw [h1]; ac_rfl
    _ = (m * (d * n')) * (o * o) := by rw [h]
    _ = (m * o) * ((n' * o) * d) := by ac_rfl
    _ = (zV * k) * ((zb * d') * d) := by rw [h2, h3]
    _ = zV * zb * (d * (d' * k)) := by ac_rfl
theorem ring3 {z d d' n o : Int} (h : z * d = n * o) : z * (d * d') = n * d' * o := by rw [← Int.mul_assoc, h]; ac_rfl
theorem ring4 {z d d' n o : Int} (h : z * d' = n * o) : z * (d * d') = n * d * o := by rw [Int.mul_comm d, ← Int.mul_assoc, h]; ac_rfl
theorem own_fin {a : UInt64} (h : DFin a) : ∃ s c q, val64 a = .fin s c q ∧ Jvm.FP.Core.fits b64 (.fin s c q) := by
  obtain ⟨s, c, q, h⟩ := h
  exact ⟨s, c, q, h, h ▸ val64_fits a⟩
/-- what has a finite number's value is finite -/
theorem own_fin_of {x V : UInt64} (hx : val64 x ≠ .nan) (hV : DFin V) (h : (zv x).natAbs ≤ (zv V).natAbs) : DFin x := by
  have h1 := hV.zval_lt
  cases hv : val64 x with
  | nan => exact absurd hv hx
  | fin s c q => exact ⟨s, c, q, hv⟩
  | inf s =>
    exfalso
    unfold zv zval at h
    rw [natAbs_signed, natAbs_signed, hv] at h
    have h2 : b64.tails * 2 ^ (b64.exps - 2) ≤ zmag b64 (val64 V) := h
    exact absurd h1 (Nat.not_lt.mpr h2)
/-- Rv a n d: a is finite and of the value n / d -/
def Rv (a : UInt64) (n : Int) (d : Nat) : Prop := DFin a ∧ zv a * (d : Int) = n * (one64 : Int)
theorem one_pos : 0 < (one64 : Int) := Int.natCast_pos.mpr one64_pos
theorem round_units {s : Bool} {c : Nat} {q e0 : Int} {V : UInt64} (hV : DFin V) (h0 : e0 ≤ b64.qmin) (h0e : e0 ≤ q) (h : signed s (inUnits c q e0) = zv V * ((2 ^ (b64.qmin - e0).toNat : Nat) : Int)) : zval b64 (round b64 (.fin s c q)) = zv V := by
  have h1 := zval_round_le good_b64 (V := val64 V) (val64_fits V) hV.ne_nan h0 h0e (Int.le_of_eq h)
  have h2 := zval_round_ge good_b64 (V := val64 V) (val64_fits V) hV.ne_nan h0 h0e (Int.le_of_eq h.symm)
  exact Int.le_antisymm h1 h2
theorem dadd_zv {a b V : UInt64} (ha : DFin a) (hb : DFin b) (hV : DFin V) (h : zv a + zv b = zv V) : DFin (FP.dadd a b) ∧ zv (FP.dadd a b) = zv V := by
  have hn : val64 (FP.dadd a b) ≠ .nan := (notNaN_iff _).mp (dadd_out ha.notNaN hb)
  obtain ⟨s, c, q, h1, f1⟩ := own_fin ha
  obtain ⟨t, d, r, h2, f2⟩ := own_fin hb
  obtain ⟨sg, n, e, p1, p2, p3⟩ := sum_units f1 f2
  have hz : zv (FP.dadd a b) = zv V := by
    show zval b64 (val64 (Core.dadd a b)) = _
    rw [val64_dadd, h1, h2, p1]
    refine round_units hV (Int.le_refl _) p2 ?_
    rw [p3, Int.sub_self, Int.toNat_zero, Nat.pow_zero, ← h, ← h1, ← h2]
    exact (Int.mul_one _).symm
  exact ⟨own_fin_of hn hV (Nat.le_of_eq (by rw [hz])), hz⟩
theorem zv_dneg (a : UInt64) : zv (FP.dneg a) = -zv a := by
  show zval b64 (val64 (FP.dneg a)) = _
  rw [Jvm.FP.val64_dneg, zval_negate]
theorem fin_dneg {a : UInt64} (h : DFin a) : DFin (FP.dneg a) := by
  obtain ⟨s, c, q, h⟩ := h
  exact ⟨!s, c, q, by rw [Jvm.FP.val64_dneg, h]; rfl⟩
theorem dsub_zv {a b V : UInt64} (ha : DFin a) (hb : DFin b) (hV : DFin V) (h : zv a - zv b = zv V) : DFin (FP.dsub a b) ∧ zv (FP.dsub a b) = zv V := by
  have e : FP.dsub a b = FP.dadd a (FP.dneg b) := by rw [Jvm.FP.dneg_core hb.notNaN]; exact dsub_eq a b
  rw [e]
  refine dadd_zv ha (fin_dneg hb) hV ?_
  rw [zv_dneg]; omega
theorem dmul_zv {a b V : UInt64} (ha : DFin a) (hb : DFin b) (hV : DFin V) (h : zv a * zv b = zv V * (one64 : Int)) : DFin (FP.dmul a b) ∧ zv (FP.dmul a b) = zv V := by
  have hn : val64 (FP.dmul a b) ≠ .nan := (notNaN_iff _).mp (dmul_out ha hb)
  obtain ⟨s, c, q, h1, f1⟩ := own_fin ha
  obtain ⟨t, d, r, h2, f2⟩ := own_fin hb
  obtain ⟨p1, p2, p3⟩ := product_units f1 f2
  have hz : zv (FP.dmul a b) = zv V := by
    show zval b64 (val64 (Core.dmul a b)) = _
    rw [val64_dmul, h1, h2, p1]
    refine round_units hV (by have := own_qmin; omega) p2 ?_
    rw [p3, signed_xor, show (b64.qmin - 2 * b64.qmin).toNat = (-b64.qmin).toNat by omega, pow_qmin64, ← h]
    show _ = zval b64 (val64 a) * zval b64 (val64 b)
    rw [h1, h2]; rfl
  exact ⟨own_fin_of hn hV (Nat.le_of_eq (by rw [hz])), hz⟩
/-- the quotient of two finite numbers, as a rounding -/
theorem ddiv_val {a b : UInt64} {s t : Bool} {c d : Nat} {q r : Int} (h1 : val64 a = .fin s c q) (h2 : val64 b = .fin t d r) (hd : d ≠ 0) : val64 (FP.ddiv a b) = roundRatio b64 (s != t) c d (q - r) := by
  show val64 (Core.ddiv a b) = _
  rw [val64_ddiv, h1, h2]
  simp only [quotient, if_neg hd]
theorem zero_of {b : UInt64} {t : Bool} {d : Nat} {r : Int} (h2 : val64 b = .fin t d r) (hz : zv b ≠ 0) : d ≠ 0 := by
  intro h0
  apply hz
  show zval b64 (val64 b) = 0
  rw [h2, h0]
  show signed t (inUnits 0 r b64.qmin) = 0
  unfold inUnits
  rw [Nat.zero_mul, signed_zero]
theorem zv_mag {a : UInt64} {s : Bool} {c : Nat} {q : Int} (h : val64 a = .fin s c q) : zv a = signed s (inUnits c q b64.qmin) := by
  show zval b64 (val64 a) = _
  rw [h]; rfl
theorem ddiv_units {a b : UInt64} {s t : Bool} {c d : Nat} {q r : Int} (f1 : Jvm.FP.Core.fits b64 (.fin s c q)) (f2 : Jvm.FP.Core.fits b64 (.fin t d r)) :
    (2 * b64.qmin - r ≤ b64.qmin ∧ 2 * b64.qmin - r ≤ q - r) ∧ inUnits c (q - r) (2 * b64.qmin - r) = inUnits c q b64.qmin * one64 ∧ ∀ V : Nat, V * 2 ^ (b64.qmin - (2 * b64.qmin - r)).toNat * d = V * inUnits d r b64.qmin := by
  have hx1 := f1.2.1
  have hy1 := f2.2.1
  refine ⟨⟨by omega, by have := own_qmin; omega⟩, ?_, fun V => ?_⟩
  · rw [← pow_qmin64]; unfold inUnits
    rw [Nat.mul_assoc, ← Nat.pow_add]; congr 2; have := own_qmin; omega
  · unfold inUnits
    rw [Nat.mul_assoc, Nat.mul_comm _ d]; congr 3; omega
theorem ddiv_zv_le {a b V : UInt64} (ha : DFin a) (hb : DFin b) (hz : zv b ≠ 0) (hV : DFin V) (h : (zv a).natAbs * one64 ≤ (zv V).natAbs * (zv b).natAbs) : (zv (FP.ddiv a b)).natAbs ≤ (zv V).natAbs := by
  obtain ⟨s, c, q, h1, f1⟩ := own_fin ha
  obtain ⟨t, d, r, h2, f2⟩ := own_fin hb
  obtain ⟨u, k, w, h3, f3⟩ := own_fin hV
  have hd := zero_of h2 hz
  obtain ⟨⟨p1, p2⟩, p3, p4⟩ := ddiv_units (a := a) (b := b) f1 f2
  have hv := ddiv_val h1 h2 hd
  rw [zv_mag h1, zv_mag h2, zv_mag h3, natAbs_signed, natAbs_signed, natAbs_signed] at h
  unfold zv zval
  rw [natAbs_signed, natAbs_signed, hv, h3]
  refine zmag_roundRatio_le good_b64 (Nat.pos_of_ne_zero hd) f3 (by simp) p1 p2 ?_
  rw [p3, p4]
  exact h
theorem ddiv_zv_ge {a b V : UInt64} (ha : DFin a) (hb : DFin b) (hz : zv b ≠ 0) (hV : DFin V) (h : (zv V).natAbs * (zv b).natAbs ≤ (zv a).natAbs * one64) : (zv V).natAbs ≤ (zv (FP.ddiv a b)).natAbs := by
  obtain ⟨s, c, q, h1, f1⟩ := own_fin ha
  obtain ⟨t, d, r, h2, f2⟩ := own_fin hb
  obtain ⟨u, k, w, h3, f3⟩ := own_fin hV
  have hd := zero_of h2 hz
  obtain ⟨⟨p1, p2⟩, p3, p4⟩ := ddiv_units (a := a) (b := b) f1 f2
  have hv := ddiv_val h1 h2 hd
  rw [zv_mag h1, zv_mag h2, zv_mag h3, natAbs_signed, natAbs_signed, natAbs_signed] at h
  unfold zv zval
  rw [natAbs_signed, natAbs_signed, hv, h3]
  refine zmag_roundRatio_ge good_b64 (Nat.pos_of_ne_zero hd) f3 p1 p2 ?_
  rw [p3, p4]
  exact h
/-- the sign of a quotient -/
theorem ddiv_sign {a b : UInt64} (ha : DFin a) (hb : DFin b) (hz : zv b ≠ 0) : (0 ≤ zv a → 0 < zv b → 0 ≤ zv (FP.ddiv a b)) ∧ (zv a ≤ 0 → 0 < zv b → zv (FP.ddiv a b) ≤ 0) ∧ (0 ≤ zv a → zv b < 0 → zv (FP.ddiv a b) ≤ 0) ∧ (zv a ≤ 0 → zv b < 0 → 0 ≤ zv (FP.ddiv a b)) := by
  obtain ⟨s, c, q, h1, f1⟩ := own_fin ha
  obtain ⟨t, d, r, h2, f2⟩ := own_fin hb
  have hd := zero_of h2 hz
  have hv := ddiv_val h1 h2 hd
  have e3 : zv (FP.ddiv a b) = signed (s != t) (zmag b64 (val64 (FP.ddiv a b))) := by
    show signed (sgn (val64 (FP.ddiv a b))) _ = _
    rw [hv, sgn_roundRatio]
  have k0 : zv a = 0 → zv (FP.ddiv a b) = 0 := fun e => by
    have := ddiv_zv_le ha hb hz ha (by rw [e]; simp)
    rw [e] at this; omega
  have e1 := zv_mag h1
  have e2 := zv_mag h2
  cases s <;> cases t <;> simp [signed] at e1 e2 e3 <;> refine ⟨fun x y => ?_, fun x y => ?_, fun x y => ?_, fun x y => ?_⟩ <;> first | omega | (have := k0 (by omega); omega)
theorem ddiv_nn {a b : UInt64} (ha : DFin a) (hb : DFin b) (hz : zv b ≠ 0) : val64 (FP.ddiv a b) ≠ .nan := by
  obtain ⟨s, c, q, h1, f1⟩ := own_fin ha
  obtain ⟨t, d, r, h2, f2⟩ := own_fin hb
  rw [ddiv_val h1 h2 (zero_of h2 hz)]
  exact roundRatio_ne_nan _ _ _ _ _
theorem ddiv_zv {a b V : UInt64} (ha : DFin a) (hb : DFin b) (hz : zv b ≠ 0) (hV : DFin V) (h : zv a * (one64 : Int) = zv V * zv b) : DFin (FP.ddiv a b) ∧ zv (FP.ddiv a b) = zv V := by
  have hm : (zv a).natAbs * one64 = (zv V).natAbs * (zv b).natAbs := by
    have := congrArg Int.natAbs h
    rw [Int.natAbs_mul, Int.natAbs_mul, Int.natAbs_natCast] at this
    exact this
  have l1 := ddiv_zv_le ha hb hz hV (Nat.le_of_eq hm)
  have l2 := ddiv_zv_ge ha hb hz hV (Nat.le_of_eq hm.symm)
  have hn := ddiv_nn ha hb hz
  obtain ⟨s1, s2, s3, s4⟩ := ddiv_sign ha hb hz
  have p := one_pos
  refine ⟨own_fin_of hn hV l1, ?_⟩
  rcases Int.lt_or_gt_of_ne hz with hb' | hb'
  · rcases Int.le_total 0 (zv a) with ha' | ha'
    · have := s3 ha' hb'
      have : zv V ≤ 0 := by
        apply Int.not_lt.mp; intro hv
        have h1 := Int.mul_neg_of_pos_of_neg hv hb'
        have h2 := Int.mul_nonneg ha' (Int.le_of_lt p)
        omega
      omega
    · have := s4 ha' hb'
      have : 0 ≤ zv V := by
        apply Int.not_lt.mp; intro hv
        have h1 := Int.mul_pos_of_neg_of_neg hv hb'
        have h2 := Int.mul_nonpos_of_nonpos_of_nonneg ha' (Int.le_of_lt p)
        omega
      omega
  · rcases Int.le_total 0 (zv a) with ha' | ha'
    · have := s1 ha' hb'
      have : 0 ≤ zv V := by
        apply Int.not_lt.mp; intro hv
        have h1 := Int.mul_neg_of_neg_of_pos hv hb'
        have h2 := Int.mul_nonneg ha' (Int.le_of_lt p)
        omega
      omega
    · have := s2 ha' hb'
      have : zv V ≤ 0 := by
        apply Int.not_lt.mp; intro hv
        have h1 := Int.mul_pos hv hb'
        have h2 := Int.mul_nonpos_of_nonpos_of_nonneg ha' (Int.le_of_lt p)
        omega
      omega
/-- there is a double of each value m * 2^(e - 1074) -/
theorem rep (m : Int) (e : Nat) (hm : m.natAbs < 2 ^ 53) (he : e ≤ 2045) : ∃ V : UInt64, DFin V ∧ zv V = m * ((2 ^ e : Nat) : Int) := by
  have hq := own_qmin
  obtain ⟨c', q', h1, h2⟩ := round_exact good_b64 (decide (m < 0)) (c := m.natAbs) (q := (e : Int) - 1074) hm (by omega) (by rw [own_qmax]; omega)
  have hf := round_fits good_b64 (.fin (decide (m < 0)) m.natAbs ((e : Int) - 1074))
  have hv : val64 (of64 (round b64 (.fin (decide (m < 0)) m.natAbs ((e : Int) - 1074)))) = .fin (decide (m < 0)) c' q' := (val64_of64 hf).trans h1
  refine ⟨_, ⟨_, _, _, hv⟩, ?_⟩
  rw [zv_mag hv, h2]
  unfold inUnits
  rw [show ((e : Int) - 1074 - b64.qmin).toNat = e by omega, signed_mul]
  congr 1
  unfold signed
  by_cases h : m < 0 <;> simp [h] <;> omega
theorem rv_fin {a : UInt64} {n : Int} {d : Nat} (h : Rv a n d) : DFin a := h.1
theorem ex_rv (n : Int) (k : Nat) (hn : n.natAbs < 2 ^ 53) (hk : k ≤ 1074) : ∃ V, Rv V n (2 ^ k) := by
  obtain ⟨V, h1, h2⟩ := rep n (1074 - k) hn (by omega)
  refine ⟨V, h1, ?_⟩
  rw [h2, Int.mul_assoc, ← Int.natCast_mul, ← Nat.pow_add, show 1074 - k + k = 1074 by omega]; rfl
theorem ex_rvU (n : Int) (j : Nat) (hn : n.natAbs < 2 ^ 53) (hk : j ≤ 971) : ∃ V, Rv V (n * ((2 ^ j : Nat) : Int)) 1 := by
  obtain ⟨V, h1, h2⟩ := rep n (1074 + j) hn (by omega)
  refine ⟨V, h1, ?_⟩
  rw [h2, Nat.pow_add, Int.natCast_mul, Int.mul_comm ((2 ^ 1074 : Nat) : Int), ← Int.mul_assoc]
  exact Int.mul_one _
theorem rv_unique {a b : UInt64} {n : Int} {d : Nat} (hd : 0 < d) (ha : Rv a n d) (hb : Rv b n d) : zv a = zv b := by
  have h := ha.2.trans hb.2.symm
  exact Int.eq_of_mul_eq_mul_right (by omega) h
theorem rv_scale {a : UInt64} {n : Int} {d : Nat} (k : Nat) (h : Rv a n d) : Rv a (n * (k : Int)) (d * k) := by
  refine ⟨h.1, ?_⟩
  rw [Int.natCast_mul, ← Int.mul_assoc, h.2, Int.mul_assoc, Int.mul_assoc, Int.mul_comm (k : Int)]
theorem rv_unscale {a : UInt64} {n : Int} {d : Nat} (k : Nat) (hk : 0 < k) (h : Rv a (n * (k : Int)) (d * k)) : Rv a n d := by
  refine ⟨h.1, ?_⟩
  have h2 := h.2
  rw [Int.natCast_mul, ← Int.mul_assoc, Int.mul_assoc n, Int.mul_comm (k : Int) (one64 : Int), ← Int.mul_assoc] at h2
  exact Int.eq_of_mul_eq_mul_right (by omega) h2
theorem rv_i2d (n : Int32) : Rv (FP.i2d n) n.toInt 1 := ⟨i2d_fin n, by rw [show ((1 : Nat) : Int) = 1 from rfl, Int.mul_one]; exact DInt_zval (i2d_int n)⟩
theorem rv_l2d {n : Int64} (h : n.toInt.natAbs ≤ 2 ^ 53) : Rv (FP.l2d n) n.toInt 1 := ⟨l2d_fin n, by rw [show ((1 : Nat) : Int) = 1 from rfl, Int.mul_one]; exact DInt_zval (l2d_int h)⟩
theorem rv_neg {a : UInt64} {n : Int} {d : Nat} (h : Rv a n d) : Rv (FP.dneg a) (-n) d := ⟨fin_dneg h.1, by rw [zv_dneg, Int.neg_mul, Int.neg_mul, h.2]⟩
theorem rv_add {a b V : UInt64} {n n' : Int} {d : Nat} (hd : 0 < d) (ha : Rv a n d) (hb : Rv b n' d) (hV : Rv V (n + n') d) : Rv (FP.dadd a b) (n + n') d := by
  have e : zv a + zv b = zv V := by
    refine Int.eq_of_mul_eq_mul_right (a := (d : Int)) (by omega) ?_
    rw [Int.add_mul, ha.2, hb.2, hV.2, Int.add_mul]
  obtain ⟨h1, h2⟩ := dadd_zv ha.1 hb.1 hV.1 e
  exact ⟨h1, by rw [h2]; exact hV.2⟩
theorem rv_sub {a b V : UInt64} {n n' : Int} {d : Nat} (hd : 0 < d) (ha : Rv a n d) (hb : Rv b n' d) (hV : Rv V (n - n') d) : Rv (FP.dsub a b) (n - n') d := by
  have e : zv a - zv b = zv V := by
    refine Int.eq_of_mul_eq_mul_right (a := (d : Int)) (by omega) ?_
    rw [Int.sub_mul, ha.2, hb.2, hV.2, Int.sub_mul]
  obtain ⟨h1, h2⟩ := dsub_zv ha.1 hb.1 hV.1 e
  exact ⟨h1, by rw [h2]; exact hV.2⟩
theorem rv_mul {a b V : UInt64} {n n' : Int} {d d' : Nat} (hd : 0 < d) (hd' : 0 < d') (ha : Rv a n d) (hb : Rv b n' d') (hV : Rv V (n * n') (d * d')) : Rv (FP.dmul a b) (n * n') (d * d') := by
  have e : zv a * zv b = zv V * (one64 : Int) := by
    refine Int.eq_of_mul_eq_mul_right (a := ((d * d' : Nat) : Int)) (by have := Nat.mul_pos hd hd'; omega) ?_
    have h3 := hV.2
    rw [Int.natCast_mul] at h3 ⊢
    exact ring1 ha.2 hb.2 h3
  obtain ⟨h1, h2⟩ := dmul_zv ha.1 hb.1 hV.1 e
  exact ⟨h1, by rw [h2]; exact hV.2⟩
theorem rv_nz {b : UInt64} {n : Int} {d : Nat} (hb : Rv b n d) (hn : n ≠ 0) : zv b ≠ 0 := by
  intro h
  have h1 := hb.2
  rw [h, Int.zero_mul] at h1
  rcases Int.mul_eq_zero.mp h1.symm with h2 | h2
  · exact hn h2
  · have := one_pos; omega
theorem rv_div {a b V : UInt64} {n n' m : Int} {d d' k : Nat} (hd : 0 < d) (hd' : 0 < d') (hk : 0 < k) (ha : Rv a n d) (hb : Rv b n' d') (hn : n' ≠ 0) (hV : Rv V m k) (h : m * ((d : Int) * n') = n * ((d' : Int) * (k : Int))) : Rv (FP.ddiv a b) m k := by
  have e : zv a * (one64 : Int) = zv V * zv b := by
    refine Int.eq_of_mul_eq_mul_right (a := ((d * (d' * k) : Nat) : Int)) (by have := Nat.mul_pos hd (Nat.mul_pos hd' hk); omega) ?_
    rw [Int.natCast_mul, Int.natCast_mul]
    exact ring2 ha.2 hb.2 hV.2 h
  obtain ⟨h1, h2⟩ := ddiv_zv ha.1 hb.1 (rv_nz hb hn) hV.1 e
  exact ⟨h1, by rw [h2]; exact hV.2⟩
theorem cmp_mul (x y : Int) {k : Int} (hk : 0 < k) : compare x y = compare (x * k) (y * k) := (compare_mul_pos x y k hk).symm
theorem rv_cmp {a b : UInt64} {n n' : Int} {d d' : Nat} (hd : 0 < d) (hd' : 0 < d') (ha : Rv a n d) (hb : Rv b n' d') : FP.dcmp a b = some (compare (n * (d' : Int)) (n' * (d : Int))) := by
  show Core.dcmp a b = _
  rw [dcmp_zval ha.1.ne_nan hb.1.ne_nan]
  congr 1
  have p := one_pos
  rw [cmp_mul (zval b64 (val64 a)) _ (show 0 < ((d * d' : Nat) : Int) by have := Nat.mul_pos hd hd'; omega), cmp_mul (n * (d' : Int)) _ p]
  have h1 : zval b64 (val64 a) * ((d * d' : Nat) : Int) = n * (d' : Int) * (one64 : Int) := by rw [Int.natCast_mul]; exact ring3 ha.2
  have h2 : zval b64 (val64 b) * ((d * d' : Nat) : Int) = n' * (d : Int) * (one64 : Int) := by rw [Int.natCast_mul]; exact ring4 hb.2
  rw [h1, h2]
theorem zv_cmp {a b : UInt64} (ha : val64 a ≠ .nan) (hb : val64 b ≠ .nan) : FP.dcmp a b = some (compare (zv a) (zv b)) := dcmp_zval ha hb
theorem rv_zero : Rv 0 0 1 := ⟨⟨_, _, _, val64_zero⟩, by rw [show zv 0 = 0 from zval64_zero]; simp⟩
theorem rv_one : Rv 4607182418800017408 1 1 := ⟨⟨_, _, _, val64_dconst1⟩, by rw [show zv 4607182418800017408 = 1 * (one64 : Int) from DInt_zval dint_one]; simp⟩
theorem nn64 {a : UInt64} (h : val64 a ≠ .nan) : Jvm.Free.Fl.NoNaN64 a := Jvm.Free.Fl.noNaN64_no.mpr ((notNaN_iff a).mpr h)
theorem rv_nn {a : UInt64} {n : Int} {d : Nat} (h : Rv a n d) : Jvm.Free.Fl.NoNaN64 a := nn64 h.1.ne_nan
theorem rcv {a b : UInt64} {n n' : Int} {d d' : Nat} (hd : 0 < d) (hd' : 0 < d') (ha : Rv a n d) (hb : Rv b n' d') (o : Jvm.ClassFile.CmpOp) :
    (Jvm.Op.cmpValue (FP.dcmp a b) o < 0 ↔ n * (d' : Int) < n' * (d : Int)) ∧ (0 < Jvm.Op.cmpValue (FP.dcmp a b) o ↔ n' * (d : Int) < n * (d' : Int)) ∧ (Jvm.Op.cmpValue (FP.dcmp a b) o = 0 ↔ n * (d' : Int) = n' * (d : Int)) := by
  rw [rv_cmp hd hd' ha hb, compare_ite]
  generalize n * (d' : Int) = x
  generalize n' * (d : Int) = y
  split
  · exact ⟨⟨fun _ => by omega, fun _ => by cases o <;> decide⟩, ⟨fun h => absurd h (by cases o <;> decide), fun h => by omega⟩, ⟨fun h => absurd h (by cases o <;> decide), fun h => by omega⟩⟩
  · split
    · exact ⟨⟨fun h => absurd h (by cases o <;> decide), fun h => by omega⟩, ⟨fun h => absurd h (by cases o <;> decide), fun h => by omega⟩, ⟨fun _ => by omega, fun _ => by cases o <;> decide⟩⟩
    · exact ⟨⟨fun h => absurd h (by cases o <;> decide), fun h => by omega⟩, ⟨fun _ => by omega, fun _ => by cases o <;> decide⟩, ⟨fun h => absurd h (by cases o <;> decide), fun h => by omega⟩⟩
theorem zcv {a b : UInt64} (ha : val64 a ≠ .nan) (hb : val64 b ≠ .nan) (o : Jvm.ClassFile.CmpOp) :
    (Jvm.Op.cmpValue (FP.dcmp a b) o < 0 ↔ zv a < zv b) ∧ (0 < Jvm.Op.cmpValue (FP.dcmp a b) o ↔ zv b < zv a) ∧ (Jvm.Op.cmpValue (FP.dcmp a b) o = 0 ↔ zv a = zv b) := by
  rw [zv_cmp ha hb, compare_ite]
  generalize zv a = x
  generalize zv b = y
  split
  · exact ⟨⟨fun _ => by omega, fun _ => by cases o <;> decide⟩, ⟨fun h => absurd h (by cases o <;> decide), fun h => by omega⟩, ⟨fun h => absurd h (by cases o <;> decide), fun h => by omega⟩⟩
  · split
    · exact ⟨⟨fun h => absurd h (by cases o <;> decide), fun h => by omega⟩, ⟨fun h => absurd h (by cases o <;> decide), fun h => by omega⟩, ⟨fun _ => by omega, fun _ => by cases o <;> decide⟩⟩
    · exact ⟨⟨fun h => absurd h (by cases o <;> decide), fun h => by omega⟩, ⟨fun _ => by omega, fun _ => by cases o <;> decide⟩, ⟨fun h => absurd h (by cases o <;> decide), fun h => by omega⟩⟩
theorem own_isfinO {d : UInt64} (h : DFin d) (o : Jvm.ClassFile.CmpOp) : ¬ (0 : Int32) < Jvm.Op.cmpValue (FP.dcmp (d &&& 0x7fffffffffffffff) 9218868437227405311) o := by
  have h1 := (fin_bits d).mp h
  have n1 := mask_ne_nan h.ne_nan
  have n2 : val64 9218868437227405311 ≠ .nan := by rw [ne_nan]; decide
  have e : FP.dcmp (d &&& 0x7fffffffffffffff) 9218868437227405311 = _ := dcmp_key n1 n2
  rw [e, mask_key, show dkey 9218868437227405311 = 9218868437227405311 from by decide, compare_ite]
  split
  · cases o <;> decide
  · split
    · cases o <;> decide
    · omega
theorem own_isfin {d : UInt64} (h : DFin d) : ¬ (0 : Int32) < Jvm.Op.cmpValue (FP.dcmp (d &&& 0x7fffffffffffffff) 9218868437227405311) .g := own_isfinO h .g
theorem own_inf {d : UInt64} (h : DFin d) : Jvm.Op.cmpValue (FP.dcmp d 9218868437227405312) .g < (0 : Int32) := by
  rw [Jvm.RoadKit.dcmp_pinf (Jvm.Free.Fl.fin64_core.mpr h) .g]; decide
theorem own_pos {mu : UInt64} {n : Int} {d : Nat} (hd : 0 < d) (h : Rv mu n d) (hn : 0 < n) : (0 : Int32) < Jvm.Op.cmpValue (FP.dcmp mu 0) .l := (rcv hd (by decide) h rv_zero .l).2.1.mpr (by simp; omega)
/-- two quotients of one value are one -/
theorem ddiv_congr {a b a' b' : UInt64} (ha : DFin a) (hb : DFin b) (ha' : DFin a') (hb' : DFin b') (pa : 0 < zv a) (pb : 0 < zv b) (pa' : 0 < zv a') (pb' : 0 < zv b') (h : zv a * zv b' = zv a' * zv b) : val64 (FP.ddiv a b) = val64 (FP.ddiv a' b') := by
  obtain ⟨s, c, q, h1, f1⟩ := own_fin ha
  obtain ⟨t, d, r, h2, f2⟩ := own_fin hb
  obtain ⟨s', c', q', h3, f3⟩ := own_fin ha'
  obtain ⟨t', d', r', h4, f4⟩ := own_fin hb'
  have d1 := zero_of h2 (by omega)
  have d2 := zero_of h4 (by omega)
  rw [ddiv_val h1 h2 d1, ddiv_val h3 h4 d2]
  rw [zv_mag h1] at pa h
  rw [zv_mag h2] at pb h
  rw [zv_mag h3] at pa' h
  rw [zv_mag h4] at pb' h
  have sg : ∀ (u : Bool) (x : Nat), 0 < signed u x → u = false := fun u x hp => by cases u <;> simp [signed] at hp ⊢; omega
  obtain rfl := sg _ _ pa
  obtain rfl := sg _ _ pb
  obtain rfl := sg _ _ pa'
  obtain rfl := sg _ _ pb'
  have g1 := f1.2.1
  have g2 := f2.2.1
  have g3 := f3.2.1
  have g4 := f4.2.1
  refine roundRatio_congr (Nat.pos_of_ne_zero d1) (Nat.pos_of_ne_zero d2) ?_
  have h' : inUnits c q b64.qmin * inUnits d' r' b64.qmin = inUnits c' q' b64.qmin * inUnits d r b64.qmin := by
    have : ((inUnits c q b64.qmin * inUnits d' r' b64.qmin : Nat) : Int) = ((inUnits c' q' b64.qmin * inUnits d r b64.qmin : Nat) : Int) := by rw [Int.natCast_mul, Int.natCast_mul]; exact h
    exact Int.ofNat.inj this
  unfold inUnits at h'
  have k1 : c * 2 ^ (q - b64.qmin).toNat * (d' * 2 ^ (r' - b64.qmin).toNat) = c * d' * 2 ^ ((q - b64.qmin).toNat + (r' - b64.qmin).toNat) := by rw [Nat.pow_add, Nat.mul_mul_mul_comm]
  have k2 : c' * 2 ^ (q' - b64.qmin).toNat * (d * 2 ^ (r - b64.qmin).toNat) = c' * d * 2 ^ ((q' - b64.qmin).toNat + (r - b64.qmin).toNat) := by rw [Nat.pow_add, Nat.mul_mul_mul_comm]
  rw [k1, k2] at h'
  rcases Int.le_total (q' - r') (q - r) with hl | hl
  · have e1 : (q - b64.qmin).toNat + (r' - b64.qmin).toNat = (q - r - (q' - r')).toNat + ((q' - b64.qmin).toNat + (r - b64.qmin).toNat) := by omega
    rw [e1, Nat.pow_add, ← Nat.mul_assoc] at h'
    rw [show (q' - r' - (q - r)).toNat = 0 by omega, Nat.pow_zero, Nat.mul_one]
    exact Nat.eq_of_mul_eq_mul_right (Nat.two_pow_pos _) h'
  · have e1 : (q' - b64.qmin).toNat + (r - b64.qmin).toNat = (q' - r' - (q - r)).toNat + ((q - b64.qmin).toNat + (r' - b64.qmin).toNat) := by omega
    rw [e1, Nat.pow_add 2 (q' - r' - (q - r)).toNat, ← Nat.mul_assoc (c' * d)] at h'
    rw [show (q - r - (q' - r')).toNat = 0 by omega, Nat.pow_zero, Nat.mul_one]
    exact Nat.eq_of_mul_eq_mul_right (Nat.two_pow_pos _) h'
theorem own_same {x y : UInt64} (h : val64 x = val64 y) (hn : val64 x ≠ .nan) (o : Jvm.ClassFile.CmpOp) : Jvm.Op.cmpValue (FP.dcmp x y) o = 0 := by
  have e : FP.dcmp x y = some .eq := by
    show order (val64 x) (val64 y) = _
    rw [← h]; exact order_self hn
  rw [e]; cases o <;> rfl
theorem own_t0 {te t0 : Int32} (h : te &&& (31 : Int32) = t0) : ∃ k : Fin 32, t0 = Int32.ofNat k.val := by
  have e := Jvm.Kit.i32_mask te 31 (k := 5) (by decide) (by decide)
  rw [h] at e
  have hk : (t0.toInt.toNat) < 32 := by omega
  refine ⟨⟨t0.toInt.toNat, hk⟩, ?_⟩
  apply Int32.toInt_inj.mp
  rw [Int32.toInt_ofNat_small (by show t0.toInt.toNat < _; omega)]
  show _ = ((t0.toInt.toNat : Nat) : Int)
  omega
theorem own_shl : ∀ k : Fin 32, ((1 : Int64) <<< ((Int32.ofNat k.val) &&& 0x3f).toInt64).toInt = ((2 ^ k.val : Nat) : Int) := by decide
/-- (double) (1L << e), e below 32 -/
theorem own_pow {te t0 : Int32} {sc : UInt64} (h : te &&& (31 : Int32) = t0) (hs : FP.l2d ((1 : Int64) <<< (t0 &&& 0x3f).toInt64) = sc) : ∃ k : Nat, k < 32 ∧ Rv sc ((2 ^ k : Nat) : Int) 1 := by
  obtain ⟨k, hk⟩ := own_t0 h
  have e : ((1 : Int64) <<< (t0 &&& 0x3f).toInt64).toInt = ((2 ^ k.val : Nat) : Int) := by rw [hk]; exact own_shl k
  have hp : 2 ^ k.val ≤ 2 ^ 31 := Nat.pow_le_pow_right (by decide) (by have := k.isLt; omega)
  have := rv_l2d (n := (1 : Int64) <<< (t0 &&& 0x3f).toInt64) (by rw [e, Int.natAbs_natCast]; exact Nat.le_trans hp (by decide))
  rw [e, hs] at this
  exact ⟨k.val, k.isLt, this⟩
end Jvm.Own
namespace Jvm.Own
/-- a is finite, of the value n / 2^k, and n is at most N in size -/
def Rb (a : UInt64) (n : Int) (k N : Nat) : Prop := Rv a n (2 ^ k) ∧ n.natAbs ≤ N
theorem nb_mul {a b : Int} {A B : Nat} (ha : a.natAbs ≤ A) (hb : b.natAbs ≤ B) : (a * b).natAbs ≤ A * B := by
  rw [Int.natAbs_mul]; exact Nat.mul_le_mul ha hb
theorem nb_add {a b : Int} {A B : Nat} (ha : a.natAbs ≤ A) (hb : b.natAbs ≤ B) : (a + b).natAbs ≤ A + B := by omega
theorem nb_sub {a b : Int} {A B : Nat} (ha : a.natAbs ≤ A) (hb : b.natAbs ≤ B) : (a - b).natAbs ≤ A + B := by omega
theorem nb_neg {a : Int} {A : Nat} (ha : a.natAbs ≤ A) : (-a).natAbs ≤ A := by omega
theorem nb_le {a : Int} {A B : Nat} (ha : a.natAbs ≤ A) (h : A ≤ B) : a.natAbs ≤ B := Nat.le_trans ha h
theorem rb_add {a b : UInt64} {n n' : Int} {k N N' : Nat} (ha : Rb a n k N) (hb : Rb b n' k N') (h : N + N' < 2 ^ 53) (hk : k ≤ 1074) : Rb (FP.dadd a b) (n + n') k (N + N') := by
  have hn := nb_add ha.2 hb.2
  obtain ⟨V, hV⟩ := ex_rv (n + n') k (Nat.lt_of_le_of_lt hn h) hk
  exact ⟨rv_add (Nat.two_pow_pos _) ha.1 hb.1 hV, hn⟩
theorem rb_sub {a b : UInt64} {n n' : Int} {k N N' : Nat} (ha : Rb a n k N) (hb : Rb b n' k N') (h : N + N' < 2 ^ 53) (hk : k ≤ 1074) : Rb (FP.dsub a b) (n - n') k (N + N') := by
  have hn := nb_sub ha.2 hb.2
  obtain ⟨V, hV⟩ := ex_rv (n - n') k (Nat.lt_of_le_of_lt hn h) hk
  exact ⟨rv_sub (Nat.two_pow_pos _) ha.1 hb.1 hV, hn⟩
theorem rb_mul {a b : UInt64} {n n' : Int} {k k' N N' : Nat} (ha : Rb a n k N) (hb : Rb b n' k' N') (h : N * N' < 2 ^ 53) (hk : k + k' ≤ 1074) : Rb (FP.dmul a b) (n * n') (k + k') (N * N') := by
  have hn := nb_mul ha.2 hb.2
  obtain ⟨V, hV⟩ := ex_rv (n * n') (k + k') (Nat.lt_of_le_of_lt hn h) hk
  refine ⟨?_, hn⟩
  rw [Nat.pow_add] at hV ⊢
  exact rv_mul (Nat.two_pow_pos _) (Nat.two_pow_pos _) ha.1 hb.1 hV
theorem rb_mul0 {a b : UInt64} {n n' : Int} {k' N N' M : Nat} (ha : Rb a n 0 N) (hb : Rb b n' k' N') (h : N * N' ≤ M) (hM : M < 2 ^ 53) (hk : k' ≤ 1074) : Rb (FP.dmul a b) (n * n') k' M := by
  have r := rb_mul ha hb (Nat.lt_of_le_of_lt h hM) (by omega)
  rw [Nat.zero_add] at r
  exact ⟨r.1, Nat.le_trans r.2 h⟩
theorem rb_mul0' {a b : UInt64} {n n' : Int} {k N N' M : Nat} (ha : Rb a n k N) (hb : Rb b n' 0 N') (h : N * N' ≤ M) (hM : M < 2 ^ 53) (hk : k ≤ 1074) : Rb (FP.dmul a b) (n * n') k M := by
  have r := rb_mul ha hb (Nat.lt_of_le_of_lt h hM) (by omega)
  rw [Nat.add_zero] at r
  exact ⟨r.1, Nat.le_trans r.2 h⟩
theorem rb_nn {a : UInt64} {n : Int} {k N : Nat} (h : Rb a n k N) : Jvm.Free.Fl.NoNaN64 a := rv_nn h.1
theorem rb_eq {a : UInt64} {n m : Int} {k N M : Nat} (h : Rb a n k N) (e : n = m) (hm : m.natAbs ≤ M) : Rb a m k M := ⟨e ▸ h.1, hm⟩
theorem rb_dn {a : UInt64} {n m : Int} {k N M : Nat} (j : Nat) (h : Rb a n (k + j) N) (e : n = m * ((2 ^ j : Nat) : Int)) (hm : m.natAbs ≤ M) : Rb a m k M := by
  refine ⟨rv_unscale (2 ^ j) (Nat.two_pow_pos _) ?_, hm⟩
  rw [← Nat.pow_add, ← e]; exact h.1
theorem rb_up {a : UInt64} {n : Int} {k N : Nat} (j : Nat) (h : Rb a n k N) : Rb a (n * ((2 ^ j : Nat) : Int)) (k + j) (N * 2 ^ j) := by
  refine ⟨?_, nb_mul h.2 (Nat.le_refl _)⟩
  rw [Nat.pow_add]; exact rv_scale _ h.1
theorem rb_inv {a : UInt64} {n W : Int} {N : Nat} (h : Rb a n 0 N) (hw : W * n = 4096) (hW : W.natAbs ≤ 4096) : Rb (FP.ddiv 4607182418800017408 a) W 12 4096 := by
  obtain ⟨V, hV⟩ := ex_rv W 12 (Nat.lt_of_le_of_lt hW (by decide)) (by decide)
  refine ⟨rv_div (d := 1) (d' := 2 ^ 0) (n := 1) (by decide) (by decide) (by decide) rv_one h.1 (fun q => by rw [q] at hw; omega) hV ?_, hW⟩
  rw [show ((1 : Nat) : Int) = 1 from rfl, Int.one_mul, hw]; decide
theorem rb_of {a : UInt64} {n : Int} {N : Nat} (h : Rv a n 1) (hn : n.natAbs ≤ N) : Rb a n 0 N := ⟨h, hn⟩
theorem rb_i2d (n : Int32) : Rb (FP.i2d n) n.toInt 0 2147483648 := ⟨rv_i2d n, by have := n.toInt_lt; have := n.le_toInt; omega⟩
theorem rb_to {a b : UInt64} {n : Int} {k N : Nat} (h : a = b) (r : Rb a n k N) : Rb b n k N := h ▸ r
theorem rb_i2dE {n : Int32} {u : UInt64} (h : FP.i2d n = u) : Rb u n.toInt 0 2147483648 := rb_to h (rb_i2d n)
theorem rb_zero {N : Nat} : Rb 0 0 0 N := ⟨rv_zero, Nat.zero_le _⟩
/-- the six orders of the axes -/
def axX {α : Type} (n : Nat) (a b c : α) : α := match n with | 0 => a | 1 => b | 2 => c | 3 => b | 4 => a | _ => c
def axY {α : Type} (n : Nat) (a b c : α) : α := match n with | 0 => b | 1 => c | 2 => a | 3 => a | 4 => c | _ => b
def axZ {α : Type} (n : Nat) (a b c : α) : α := match n with | 0 => c | 1 => a | 2 => b | 3 => c | 4 => b | _ => a
theorem own_six {P : Nat → Prop} (h0 : P 0) (h1 : P 1) (h2 : P 2) (h3 : P 3) (h4 : P 4) (h5 : ∀ n, P (n + 5)) (n : Nat) : P n := match n with
  | 0 => h0 | 1 => h1 | 2 => h2 | 3 => h3 | 4 => h4 | n + 5 => h5 n
theorem own_dot (n : Nat) (a b c a' b' c' : Int) : axX n a b c * axX n a' b' c' + axY n a b c * axY n a' b' c' + axZ n a b c * axZ n a' b' c' = a * a' + b * b' + c * c' :=
  own_six (P := fun n => axX n a b c * axX n a' b' c' + axY n a b c * axY n a' b' c' + axZ n a b c * axZ n a' b' c' = a * a' + b * b' + c * c')
    (by show a * a' + b * b' + c * c' = _; omega) (by show b * b' + c * c' + a * a' = _; omega) (by show c * c' + a * a' + b * b' = _; omega) (by show b * b' + a * a' + c * c' = _; omega) (by show a * a' + c * c' + b * b' = _; omega) (fun _ => by show c * c' + b * b' + a * a' = _; omega) n
theorem axX_lin (n : Nat) (a b c a' b' c' u v : Int) : axX n a b c * u + axX n a' b' c' * v = axX n (a * u + a' * v) (b * u + b' * v) (c * u + c' * v) := own_six (P := fun n => axX n a b c * u + axX n a' b' c' * v = axX n (a * u + a' * v) (b * u + b' * v) (c * u + c' * v)) rfl rfl rfl rfl rfl (fun _ => rfl) n
theorem axY_lin (n : Nat) (a b c a' b' c' u v : Int) : axY n a b c * u + axY n a' b' c' * v = axY n (a * u + a' * v) (b * u + b' * v) (c * u + c' * v) := own_six (P := fun n => axY n a b c * u + axY n a' b' c' * v = axY n (a * u + a' * v) (b * u + b' * v) (c * u + c' * v)) rfl rfl rfl rfl rfl (fun _ => rfl) n
theorem axZ_lin (n : Nat) (a b c a' b' c' u v : Int) : axZ n a b c * u + axZ n a' b' c' * v = axZ n (a * u + a' * v) (b * u + b' * v) (c * u + c' * v) := own_six (P := fun n => axZ n a b c * u + axZ n a' b' c' * v = axZ n (a * u + a' * v) (b * u + b' * v) (c * u + c' * v)) rfl rfl rfl rfl rfl (fun _ => rfl) n
/-- what holds of the three holds of each of the order -/
theorem axX_all {α : Type} {P : α → Prop} {a b c : α} (n : Nat) (ha : P a) (hb : P b) (hc : P c) : P (axX n a b c) := own_six (P := fun n => P (axX n a b c)) ha hb hc hb ha (fun _ => hc) n
theorem axY_all {α : Type} {P : α → Prop} {a b c : α} (n : Nat) (ha : P a) (hb : P b) (hc : P c) : P (axY n a b c) := own_six (P := fun n => P (axY n a b c)) hb hc ha ha hc (fun _ => hb) n
theorem axZ_all {α : Type} {P : α → Prop} {a b c : α} (n : Nat) (ha : P a) (hb : P b) (hc : P c) : P (axZ n a b c) := own_six (P := fun n => P (axZ n a b c)) hc ha hb hc hb (fun _ => ha) n
theorem axX_rb {a b c : UInt64} {A B C : Int} {k N : Nat} (n : Nat) (ha : Rb a A k N) (hb : Rb b B k N) (hc : Rb c C k N) : Rb (axX n a b c) (axX n A B C) k N := own_six (P := fun n => Rb (axX n a b c) (axX n A B C) k N) ha hb hc hb ha (fun _ => hc) n
theorem axY_rb {a b c : UInt64} {A B C : Int} {k N : Nat} (n : Nat) (ha : Rb a A k N) (hb : Rb b B k N) (hc : Rb c C k N) : Rb (axY n a b c) (axY n A B C) k N := own_six (P := fun n => Rb (axY n a b c) (axY n A B C) k N) hb hc ha ha hc (fun _ => hb) n
theorem axZ_rb {a b c : UInt64} {A B C : Int} {k N : Nat} (n : Nat) (ha : Rb a A k N) (hb : Rb b B k N) (hc : Rb c C k N) : Rb (axZ n a b c) (axZ n A B C) k N := own_six (P := fun n => Rb (axZ n a b c) (axZ n A B C) k N) hc ha hb hc hb (fun _ => ha) n
/-- an axis's part of the two gradients -/
def Cm (p q r M X1 X2 S T : Int) : Prop := X1 * ((r * r + q * q) * (M * M)) - X2 * (p * r * (M * M)) = S * 64 ∧ X2 * (p * p * (M * M)) - X1 * (p * r * (M * M)) = T * 64
theorem cm_a {p q r M : Int} (h : p * q * M = 64) : Cm p q r M p r (q * M) 0 := by
  unfold Cm
  constructor <;> grind
theorem cm_b {p q r M : Int} (h : p * q * M = 64) : Cm p q r M 0 q (-(r * M)) (p * M) := by
  unfold Cm
  constructor <;> grind
theorem cm_c {p q r M : Int} : Cm p q r M 0 0 0 0 := by
  unfold Cm
  constructor <;> simp
theorem own_det {p q r M : Int} (h : p * q * M = 64) : M * M * (p * p * (r * r + q * q) - p * r * (p * r)) = 4096 := by grind
theorem cm_x {p q r M : Int} (n : Nat) (h : p * q * M = 64) : Cm p q r M (axX n p 0 0) (axX n r q 0) (axX n (q * M) (-(r * M)) 0) (axX n 0 (p * M) 0) := own_six (P := fun n => Cm p q r M (axX n p 0 0) (axX n r q 0) (axX n (q * M) (-(r * M)) 0) (axX n 0 (p * M) 0)) (cm_a h) (cm_b h) cm_c (cm_b h) (cm_a h) (fun _ => cm_c) n
theorem cm_y {p q r M : Int} (n : Nat) (h : p * q * M = 64) : Cm p q r M (axY n p 0 0) (axY n r q 0) (axY n (q * M) (-(r * M)) 0) (axY n 0 (p * M) 0) := own_six (P := fun n => Cm p q r M (axY n p 0 0) (axY n r q 0) (axY n (q * M) (-(r * M)) 0) (axY n 0 (p * M) 0)) (cm_b h) cm_c (cm_a h) (cm_a h) cm_c (fun _ => cm_b h) n
theorem cm_z {p q r M : Int} (n : Nat) (h : p * q * M = 64) : Cm p q r M (axZ n p 0 0) (axZ n r q 0) (axZ n (q * M) (-(r * M)) 0) (axZ n 0 (p * M) 0) := own_six (P := fun n => Cm p q r M (axZ n p 0 0) (axZ n r q 0) (axZ n (q * M) (-(r * M)) 0) (axZ n 0 (p * M) 0)) cm_c (cm_a h) (cm_b h) cm_c (cm_b h) (fun _ => cm_a h) n
theorem rb_cast {a : UInt64} {n m : Int} {k N : Nat} (h : Rb a n k N) (e : n = m) : Rb a m k N := e ▸ h
theorem rb_dn6 {a : UInt64} {n m : Int} {N M : Nat} (h : Rb a n 12 N) (e : n = m * 64) (hm : m.natAbs ≤ M) : Rb a m 6 M := rb_dn (k := 6) 6 h e hm
theorem rb_up6 {a : UInt64} {n : Int} {N M : Nat} (h : Rb a n 0 N) (hM : N * 64 ≤ M) : Rb a (n * 64) 6 M := ⟨(rb_up (k := 0) 6 h).1, Nat.le_trans (rb_up (k := 0) 6 h).2 hM⟩
theorem rb_le {a : UInt64} {n : Int} {k N M : Nat} (h : Rb a n k N) (hm : N ≤ M) : Rb a n k M := ⟨h.1, Nat.le_trans h.2 hm⟩
end Jvm.Own
namespace Jvm.Own
theorem own_tex {xa ya za xb yb zb u0 u1 u2 u3 u4 u5 av bv cv iv ck bk ak sx sy sz tx ty tz du2 du3 dv2 dv3 gx gy gz wx wy wz : UInt64} {p q r M U0 U1 U2 U3 U4 U5 : Int} (n : Nat) (hM : p * q * M = 64) (hp : p.natAbs ≤ 8) (hq : q.natAbs ≤ 8) (hr : r.natAbs ≤ 32) (hM1 : M.natAbs ≤ 64) (hqM : (q * M).natAbs ≤ 64) (hrM : (r * M).natAbs ≤ 512) (hpM : (p * M).natAbs ≤ 64)
    (r_xa : Rb xa (axX n p 0 0) 0 8) (r_ya : Rb ya (axY n p 0 0) 0 8) (r_za : Rb za (axZ n p 0 0) 0 8) (r_xb : Rb xb (axX n r q 0) 0 32) (r_yb : Rb yb (axY n r q 0) 0 32) (r_zb : Rb zb (axZ n r q 0) 0 32) (r_u0 : Rb u0 U0 0 2147483648) (r_u1 : Rb u1 U1 0 2147483648) (r_u2 : Rb u2 U2 0 2147483648) (r_u3 : Rb u3 U3 0 2147483648) (r_u4 : Rb u4 U4 0 2147483648) (r_u5 : Rb u5 U5 0 2147483648)
    (E_av : (FP.dadd (FP.dadd (FP.dmul xa xa) (FP.dmul ya ya)) (FP.dmul za za)) = av) (E_bv : (FP.dadd (FP.dadd (FP.dmul xa xb) (FP.dmul ya yb)) (FP.dmul za zb)) = bv) (E_cv : (FP.dadd (FP.dadd (FP.dmul xb xb) (FP.dmul yb yb)) (FP.dmul zb zb)) = cv) (E_iv : (FP.ddiv (4607182418800017408 : UInt64) (FP.dsub (FP.dmul av cv) (FP.dmul bv bv))) = iv) (E_ck : (FP.dmul cv iv) = ck) (E_bk : (FP.dmul bv iv) = bk) (E_ak : (FP.dmul av iv) = ak) (E_sx : (FP.dsub (FP.dmul xa ck) (FP.dmul xb bk)) = sx) (E_sy : (FP.dsub (FP.dmul ya ck) (FP.dmul yb bk)) = sy) (E_sz : (FP.dsub (FP.dmul za ck) (FP.dmul zb bk)) = sz) (E_tx : (FP.dsub (FP.dmul xb ak) (FP.dmul xa bk)) = tx) (E_ty : (FP.dsub (FP.dmul yb ak) (FP.dmul ya bk)) = ty) (E_tz : (FP.dsub (FP.dmul zb ak) (FP.dmul za bk)) = tz) (E_du2 : (FP.dsub u2 u0) = du2) (E_du3 : (FP.dsub u4 u0) = du3) (E_dv2 : (FP.dsub u3 u1) = dv2) (E_dv3 : (FP.dsub u5 u1) = dv3) (E_gx : (FP.dadd (FP.dmul sx du2) (FP.dmul tx du3)) = gx) (E_gy : (FP.dadd (FP.dmul sy du2) (FP.dmul ty du3)) = gy) (E_gz : (FP.dadd (FP.dmul sz du2) (FP.dmul tz du3)) = gz) (E_wx : (FP.dadd (FP.dmul sx dv2) (FP.dmul tx dv3)) = wx) (E_wy : (FP.dadd (FP.dmul sy dv2) (FP.dmul ty dv3)) = wy) (E_wz : (FP.dadd (FP.dmul sz dv2) (FP.dmul tz dv3)) = wz) :
    Jvm.Free.Fl.NoNaN64 (FP.dmul xa xa) ∧ Jvm.Free.Fl.NoNaN64 (FP.dmul ya ya) ∧ Jvm.Free.Fl.NoNaN64 (FP.dadd (FP.dmul xa xa) (FP.dmul ya ya)) ∧ Jvm.Free.Fl.NoNaN64 (FP.dmul za za) ∧ Jvm.Free.Fl.NoNaN64 (FP.dadd (FP.dadd (FP.dmul xa xa) (FP.dmul ya ya)) (FP.dmul za za)) ∧ Jvm.Free.Fl.NoNaN64 (FP.dmul xa xb) ∧ Jvm.Free.Fl.NoNaN64 (FP.dmul ya yb) ∧ Jvm.Free.Fl.NoNaN64 (FP.dadd (FP.dmul xa xb) (FP.dmul ya yb)) ∧ Jvm.Free.Fl.NoNaN64 (FP.dmul za zb) ∧ Jvm.Free.Fl.NoNaN64 (FP.dadd (FP.dadd (FP.dmul xa xb) (FP.dmul ya yb)) (FP.dmul za zb)) ∧ Jvm.Free.Fl.NoNaN64 (FP.dmul xb xb) ∧ Jvm.Free.Fl.NoNaN64 (FP.dmul yb yb) ∧ Jvm.Free.Fl.NoNaN64 (FP.dadd (FP.dmul xb xb) (FP.dmul yb yb)) ∧ Jvm.Free.Fl.NoNaN64 (FP.dmul zb zb) ∧ Jvm.Free.Fl.NoNaN64 (FP.dadd (FP.dadd (FP.dmul xb xb) (FP.dmul yb yb)) (FP.dmul zb zb)) ∧ Jvm.Free.Fl.NoNaN64 (FP.dmul av cv) ∧ Jvm.Free.Fl.NoNaN64 (FP.dmul bv bv) ∧ Jvm.Free.Fl.NoNaN64 (FP.dsub (FP.dmul av cv) (FP.dmul bv bv)) ∧ Jvm.Free.Fl.NoNaN64 (FP.ddiv (4607182418800017408 : UInt64) (FP.dsub (FP.dmul av cv) (FP.dmul bv bv))) ∧ Jvm.Free.Fl.NoNaN64 (FP.dmul cv iv) ∧ Jvm.Free.Fl.NoNaN64 (FP.dmul xa ck) ∧ Jvm.Free.Fl.NoNaN64 (FP.dmul ya ck) ∧ Jvm.Free.Fl.NoNaN64 (FP.dmul za ck) ∧ Jvm.Free.Fl.NoNaN64 (FP.dmul bv iv) ∧ Jvm.Free.Fl.NoNaN64 (FP.dmul xb bk) ∧ Jvm.Free.Fl.NoNaN64 (FP.dmul yb bk) ∧ Jvm.Free.Fl.NoNaN64 (FP.dmul zb bk) ∧ Jvm.Free.Fl.NoNaN64 (FP.dsub (FP.dmul xa ck) (FP.dmul xb bk)) ∧ Jvm.Free.Fl.NoNaN64 (FP.dsub (FP.dmul ya ck) (FP.dmul yb bk)) ∧ Jvm.Free.Fl.NoNaN64 (FP.dsub (FP.dmul za ck) (FP.dmul zb bk)) ∧ Jvm.Free.Fl.NoNaN64 (FP.dmul av iv) ∧ Jvm.Free.Fl.NoNaN64 (FP.dmul xb ak) ∧ Jvm.Free.Fl.NoNaN64 (FP.dmul yb ak) ∧ Jvm.Free.Fl.NoNaN64 (FP.dmul zb ak) ∧ Jvm.Free.Fl.NoNaN64 (FP.dmul bv iv) ∧ Jvm.Free.Fl.NoNaN64 (FP.dmul xa bk) ∧ Jvm.Free.Fl.NoNaN64 (FP.dmul ya bk) ∧ Jvm.Free.Fl.NoNaN64 (FP.dmul za bk) ∧ Jvm.Free.Fl.NoNaN64 (FP.dsub (FP.dmul xb ak) (FP.dmul xa bk)) ∧ Jvm.Free.Fl.NoNaN64 (FP.dsub (FP.dmul yb ak) (FP.dmul ya bk)) ∧ Jvm.Free.Fl.NoNaN64 (FP.dsub (FP.dmul zb ak) (FP.dmul za bk)) ∧ Jvm.Free.Fl.NoNaN64 (FP.dsub u2 u0) ∧ Jvm.Free.Fl.NoNaN64 (FP.dmul sx du2) ∧ Jvm.Free.Fl.NoNaN64 (FP.dmul sy du2) ∧ Jvm.Free.Fl.NoNaN64 (FP.dmul sz du2) ∧ Jvm.Free.Fl.NoNaN64 (FP.dsub u4 u0) ∧ Jvm.Free.Fl.NoNaN64 (FP.dmul tx du3) ∧ Jvm.Free.Fl.NoNaN64 (FP.dmul ty du3) ∧ Jvm.Free.Fl.NoNaN64 (FP.dmul tz du3) ∧ Jvm.Free.Fl.NoNaN64 (FP.dadd (FP.dmul sx du2) (FP.dmul tx du3)) ∧ Jvm.Free.Fl.NoNaN64 (FP.dadd (FP.dmul sy du2) (FP.dmul ty du3)) ∧ Jvm.Free.Fl.NoNaN64 (FP.dadd (FP.dmul sz du2) (FP.dmul tz du3)) ∧ Jvm.Free.Fl.NoNaN64 (FP.dsub u3 u1) ∧ Jvm.Free.Fl.NoNaN64 (FP.dmul sx dv2) ∧ Jvm.Free.Fl.NoNaN64 (FP.dmul sy dv2) ∧ Jvm.Free.Fl.NoNaN64 (FP.dmul sz dv2) ∧ Jvm.Free.Fl.NoNaN64 (FP.dsub u5 u1) ∧ Jvm.Free.Fl.NoNaN64 (FP.dmul tx dv3) ∧ Jvm.Free.Fl.NoNaN64 (FP.dmul ty dv3) ∧ Jvm.Free.Fl.NoNaN64 (FP.dmul tz dv3) ∧ Jvm.Free.Fl.NoNaN64 (FP.dadd (FP.dmul sx dv2) (FP.dmul tx dv3)) ∧ Jvm.Free.Fl.NoNaN64 (FP.dadd (FP.dmul sy dv2) (FP.dmul ty dv3)) ∧ Jvm.Free.Fl.NoNaN64 (FP.dadd (FP.dmul sz dv2) (FP.dmul tz dv3)) ∧ Rb gx (axX n (q * M * (U2 - U0) + 0 * (U4 - U0)) (-(r * M) * (U2 - U0) + p * M * (U4 - U0)) (0 * (U2 - U0) + 0 * (U4 - U0))) 6 2473901162496 ∧ Rb gy (axY n (q * M * (U2 - U0) + 0 * (U4 - U0)) (-(r * M) * (U2 - U0) + p * M * (U4 - U0)) (0 * (U2 - U0) + 0 * (U4 - U0))) 6 2473901162496 ∧ Rb gz (axZ n (q * M * (U2 - U0) + 0 * (U4 - U0)) (-(r * M) * (U2 - U0) + p * M * (U4 - U0)) (0 * (U2 - U0) + 0 * (U4 - U0))) 6 2473901162496 ∧ Rb wx (axX n (q * M * (U3 - U1) + 0 * (U5 - U1)) (-(r * M) * (U3 - U1) + p * M * (U5 - U1)) (0 * (U3 - U1) + 0 * (U5 - U1))) 6 2473901162496 ∧ Rb wy (axY n (q * M * (U3 - U1) + 0 * (U5 - U1)) (-(r * M) * (U3 - U1) + p * M * (U5 - U1)) (0 * (U3 - U1) + 0 * (U5 - U1))) 6 2473901162496 ∧ Rb wz (axZ n (q * M * (U3 - U1) + 0 * (U5 - U1)) (-(r * M) * (U3 - U1) + p * M * (U5 - U1)) (0 * (U3 - U1) + 0 * (U5 - U1))) 6 2473901162496 := by
  have r_av : Rb av (p * p) 0 64 := by rw [← E_av]; exact rb_eq (rb_add (rb_add (rb_mul0 (M := 64) r_xa r_xa (by decide) (by decide) (by decide)) (rb_mul0 (M := 64) r_ya r_ya (by decide) (by decide) (by decide)) (by decide) (by decide)) (rb_mul0 (M := 64) r_za r_za (by decide) (by decide) (by decide)) (by decide) (by decide)) ((own_dot n p 0 0 p 0 0).trans (by simp)) (nb_mul hp hp)
  have r_bv : Rb bv (p * r) 0 256 := by rw [← E_bv]; exact rb_eq (rb_add (rb_add (rb_mul0 (M := 256) r_xa r_xb (by decide) (by decide) (by decide)) (rb_mul0 (M := 256) r_ya r_yb (by decide) (by decide) (by decide)) (by decide) (by decide)) (rb_mul0 (M := 256) r_za r_zb (by decide) (by decide) (by decide)) (by decide) (by decide)) ((own_dot n p 0 0 r q 0).trans (by simp)) (nb_mul hp hr)
  have r_cv : Rb cv (r * r + q * q) 0 1088 := by rw [← E_cv]; exact rb_eq (rb_add (rb_add (rb_mul0 (M := 1024) r_xb r_xb (by decide) (by decide) (by decide)) (rb_mul0 (M := 1024) r_yb r_yb (by decide) (by decide) (by decide)) (by decide) (by decide)) (rb_mul0 (M := 1024) r_zb r_zb (by decide) (by decide) (by decide)) (by decide) (by decide)) ((own_dot n r q 0 r q 0).trans (by simp)) (nb_add (nb_mul hr hr) (nb_mul hq hq))
  have r_det := (rb_sub (rb_mul0 (M := 69632) r_av r_cv (by decide) (by decide) (by decide)) (rb_mul0 (M := 65536) r_bv r_bv (by decide) (by decide) (by decide)) (by decide) (by decide))
  have r_iv : Rb iv (M * M) 12 4096 := by rw [← E_iv]; exact rb_inv r_det (own_det hM) (nb_mul hM1 hM1)
  have r_ck : Rb ck ((r * r + q * q) * (M * M)) 12 4456448 := by rw [← E_ck]; exact (rb_mul0 (M := 4456448) r_cv r_iv (by decide) (by decide) (by decide))
  have r_bk : Rb bk (p * r * (M * M)) 12 1048576 := by rw [← E_bk]; exact (rb_mul0 (M := 1048576) r_bv r_iv (by decide) (by decide) (by decide))
  have r_ak : Rb ak (p * p * (M * M)) 12 262144 := by rw [← E_ak]; exact (rb_mul0 (M := 262144) r_av r_iv (by decide) (by decide) (by decide))
  have r_sx : Rb sx (axX n (q * M) (-(r * M)) 0) 6 512 := by rw [← E_sx]; exact rb_dn6 (rb_sub (rb_mul0 (M := 35651584) r_xa r_ck (by decide) (by decide) (by decide)) (rb_mul0 (M := 33554432) r_xb r_bk (by decide) (by decide) (by decide)) (by decide) (by decide)) (cm_x n hM).1 (axX_all (P := fun z : Int => z.natAbs ≤ 512) n (nb_le hqM (by decide)) (nb_neg hrM) (by decide))
  have r_tx : Rb tx (axX n 0 (p * M) 0) 6 64 := by rw [← E_tx]; exact rb_dn6 (rb_sub (rb_mul0 (M := 8388608) r_xb r_ak (by decide) (by decide) (by decide)) (rb_mul0 (M := 8388608) r_xa r_bk (by decide) (by decide) (by decide)) (by decide) (by decide)) (cm_x n hM).2 (axX_all (P := fun z : Int => z.natAbs ≤ 64) n (by decide) hpM (by decide))
  have r_sy : Rb sy (axY n (q * M) (-(r * M)) 0) 6 512 := by rw [← E_sy]; exact rb_dn6 (rb_sub (rb_mul0 (M := 35651584) r_ya r_ck (by decide) (by decide) (by decide)) (rb_mul0 (M := 33554432) r_yb r_bk (by decide) (by decide) (by decide)) (by decide) (by decide)) (cm_y n hM).1 (axY_all (P := fun z : Int => z.natAbs ≤ 512) n (nb_le hqM (by decide)) (nb_neg hrM) (by decide))
  have r_ty : Rb ty (axY n 0 (p * M) 0) 6 64 := by rw [← E_ty]; exact rb_dn6 (rb_sub (rb_mul0 (M := 8388608) r_yb r_ak (by decide) (by decide) (by decide)) (rb_mul0 (M := 8388608) r_ya r_bk (by decide) (by decide) (by decide)) (by decide) (by decide)) (cm_y n hM).2 (axY_all (P := fun z : Int => z.natAbs ≤ 64) n (by decide) hpM (by decide))
  have r_sz : Rb sz (axZ n (q * M) (-(r * M)) 0) 6 512 := by rw [← E_sz]; exact rb_dn6 (rb_sub (rb_mul0 (M := 35651584) r_za r_ck (by decide) (by decide) (by decide)) (rb_mul0 (M := 33554432) r_zb r_bk (by decide) (by decide) (by decide)) (by decide) (by decide)) (cm_z n hM).1 (axZ_all (P := fun z : Int => z.natAbs ≤ 512) n (nb_le hqM (by decide)) (nb_neg hrM) (by decide))
  have r_tz : Rb tz (axZ n 0 (p * M) 0) 6 64 := by rw [← E_tz]; exact rb_dn6 (rb_sub (rb_mul0 (M := 8388608) r_zb r_ak (by decide) (by decide) (by decide)) (rb_mul0 (M := 8388608) r_za r_bk (by decide) (by decide) (by decide)) (by decide) (by decide)) (cm_z n hM).2 (axZ_all (P := fun z : Int => z.natAbs ≤ 64) n (by decide) hpM (by decide))
  have r_du2 : Rb du2 (U2 - U0) 0 4294967296 := by rw [← E_du2]; exact (rb_sub r_u2 r_u0 (by decide) (by decide))
  have r_du3 : Rb du3 (U4 - U0) 0 4294967296 := by rw [← E_du3]; exact (rb_sub r_u4 r_u0 (by decide) (by decide))
  have r_dv2 : Rb dv2 (U3 - U1) 0 4294967296 := by rw [← E_dv2]; exact (rb_sub r_u3 r_u1 (by decide) (by decide))
  have r_dv3 : Rb dv3 (U5 - U1) 0 4294967296 := by rw [← E_dv3]; exact (rb_sub r_u5 r_u1 (by decide) (by decide))
  have r_gx : Rb gx (axX n (q * M * (U2 - U0) + 0 * (U4 - U0)) (-(r * M) * (U2 - U0) + p * M * (U4 - U0)) (0 * (U2 - U0) + 0 * (U4 - U0))) 6 2473901162496 := by rw [← E_gx]; exact rb_cast (rb_add (rb_mul0' (M := 2199023255552) r_sx r_du2 (by decide) (by decide) (by decide)) (rb_mul0' (M := 274877906944) r_tx r_du3 (by decide) (by decide) (by decide)) (by decide) (by decide)) (axX_lin n (q * M) (-(r * M)) 0 0 (p * M) 0 (U2 - U0) (U4 - U0))
  have r_gy : Rb gy (axY n (q * M * (U2 - U0) + 0 * (U4 - U0)) (-(r * M) * (U2 - U0) + p * M * (U4 - U0)) (0 * (U2 - U0) + 0 * (U4 - U0))) 6 2473901162496 := by rw [← E_gy]; exact rb_cast (rb_add (rb_mul0' (M := 2199023255552) r_sy r_du2 (by decide) (by decide) (by decide)) (rb_mul0' (M := 274877906944) r_ty r_du3 (by decide) (by decide) (by decide)) (by decide) (by decide)) (axY_lin n (q * M) (-(r * M)) 0 0 (p * M) 0 (U2 - U0) (U4 - U0))
  have r_gz : Rb gz (axZ n (q * M * (U2 - U0) + 0 * (U4 - U0)) (-(r * M) * (U2 - U0) + p * M * (U4 - U0)) (0 * (U2 - U0) + 0 * (U4 - U0))) 6 2473901162496 := by rw [← E_gz]; exact rb_cast (rb_add (rb_mul0' (M := 2199023255552) r_sz r_du2 (by decide) (by decide) (by decide)) (rb_mul0' (M := 274877906944) r_tz r_du3 (by decide) (by decide) (by decide)) (by decide) (by decide)) (axZ_lin n (q * M) (-(r * M)) 0 0 (p * M) 0 (U2 - U0) (U4 - U0))
  have r_wx : Rb wx (axX n (q * M * (U3 - U1) + 0 * (U5 - U1)) (-(r * M) * (U3 - U1) + p * M * (U5 - U1)) (0 * (U3 - U1) + 0 * (U5 - U1))) 6 2473901162496 := by rw [← E_wx]; exact rb_cast (rb_add (rb_mul0' (M := 2199023255552) r_sx r_dv2 (by decide) (by decide) (by decide)) (rb_mul0' (M := 274877906944) r_tx r_dv3 (by decide) (by decide) (by decide)) (by decide) (by decide)) (axX_lin n (q * M) (-(r * M)) 0 0 (p * M) 0 (U3 - U1) (U5 - U1))
  have r_wy : Rb wy (axY n (q * M * (U3 - U1) + 0 * (U5 - U1)) (-(r * M) * (U3 - U1) + p * M * (U5 - U1)) (0 * (U3 - U1) + 0 * (U5 - U1))) 6 2473901162496 := by rw [← E_wy]; exact rb_cast (rb_add (rb_mul0' (M := 2199023255552) r_sy r_dv2 (by decide) (by decide) (by decide)) (rb_mul0' (M := 274877906944) r_ty r_dv3 (by decide) (by decide) (by decide)) (by decide) (by decide)) (axY_lin n (q * M) (-(r * M)) 0 0 (p * M) 0 (U3 - U1) (U5 - U1))
  have r_wz : Rb wz (axZ n (q * M * (U3 - U1) + 0 * (U5 - U1)) (-(r * M) * (U3 - U1) + p * M * (U5 - U1)) (0 * (U3 - U1) + 0 * (U5 - U1))) 6 2473901162496 := by rw [← E_wz]; exact rb_cast (rb_add (rb_mul0' (M := 2199023255552) r_sz r_dv2 (by decide) (by decide) (by decide)) (rb_mul0' (M := 274877906944) r_tz r_dv3 (by decide) (by decide) (by decide)) (by decide) (by decide)) (axZ_lin n (q * M) (-(r * M)) 0 0 (p * M) 0 (U3 - U1) (U5 - U1))
  exact ⟨rb_nn (rb_mul0 (M := 64) r_xa r_xa (by decide) (by decide) (by decide)), rb_nn (rb_mul0 (M := 64) r_ya r_ya (by decide) (by decide) (by decide)), rb_nn (rb_add (rb_mul0 (M := 64) r_xa r_xa (by decide) (by decide) (by decide)) (rb_mul0 (M := 64) r_ya r_ya (by decide) (by decide) (by decide)) (by decide) (by decide)), rb_nn (rb_mul0 (M := 64) r_za r_za (by decide) (by decide) (by decide)), rb_nn (rb_add (rb_add (rb_mul0 (M := 64) r_xa r_xa (by decide) (by decide) (by decide)) (rb_mul0 (M := 64) r_ya r_ya (by decide) (by decide) (by decide)) (by decide) (by decide)) (rb_mul0 (M := 64) r_za r_za (by decide) (by decide) (by decide)) (by decide) (by decide)), rb_nn (rb_mul0 (M := 256) r_xa r_xb (by decide) (by decide) (by decide)), rb_nn (rb_mul0 (M := 256) r_ya r_yb (by decide) (by decide) (by decide)), rb_nn (rb_add (rb_mul0 (M := 256) r_xa r_xb (by decide) (by decide) (by decide)) (rb_mul0 (M := 256) r_ya r_yb (by decide) (by decide) (by decide)) (by decide) (by decide)), rb_nn (rb_mul0 (M := 256) r_za r_zb (by decide) (by decide) (by decide)), rb_nn (rb_add (rb_add (rb_mul0 (M := 256) r_xa r_xb (by decide) (by decide) (by decide)) (rb_mul0 (M := 256) r_ya r_yb (by decide) (by decide) (by decide)) (by decide) (by decide)) (rb_mul0 (M := 256) r_za r_zb (by decide) (by decide) (by decide)) (by decide) (by decide)), rb_nn (rb_mul0 (M := 1024) r_xb r_xb (by decide) (by decide) (by decide)), rb_nn (rb_mul0 (M := 1024) r_yb r_yb (by decide) (by decide) (by decide)), rb_nn (rb_add (rb_mul0 (M := 1024) r_xb r_xb (by decide) (by decide) (by decide)) (rb_mul0 (M := 1024) r_yb r_yb (by decide) (by decide) (by decide)) (by decide) (by decide)), rb_nn (rb_mul0 (M := 1024) r_zb r_zb (by decide) (by decide) (by decide)), rb_nn (rb_add (rb_add (rb_mul0 (M := 1024) r_xb r_xb (by decide) (by decide) (by decide)) (rb_mul0 (M := 1024) r_yb r_yb (by decide) (by decide) (by decide)) (by decide) (by decide)) (rb_mul0 (M := 1024) r_zb r_zb (by decide) (by decide) (by decide)) (by decide) (by decide)), rb_nn (rb_mul0 (M := 69632) r_av r_cv (by decide) (by decide) (by decide)), rb_nn (rb_mul0 (M := 65536) r_bv r_bv (by decide) (by decide) (by decide)), rb_nn (rb_sub (rb_mul0 (M := 69632) r_av r_cv (by decide) (by decide) (by decide)) (rb_mul0 (M := 65536) r_bv r_bv (by decide) (by decide) (by decide)) (by decide) (by decide)), rb_nn (rb_inv r_det (own_det hM) (nb_mul hM1 hM1)), rb_nn (rb_mul0 (M := 4456448) r_cv r_iv (by decide) (by decide) (by decide)), rb_nn (rb_mul0 (M := 35651584) r_xa r_ck (by decide) (by decide) (by decide)), rb_nn (rb_mul0 (M := 35651584) r_ya r_ck (by decide) (by decide) (by decide)), rb_nn (rb_mul0 (M := 35651584) r_za r_ck (by decide) (by decide) (by decide)), rb_nn (rb_mul0 (M := 1048576) r_bv r_iv (by decide) (by decide) (by decide)), rb_nn (rb_mul0 (M := 33554432) r_xb r_bk (by decide) (by decide) (by decide)), rb_nn (rb_mul0 (M := 33554432) r_yb r_bk (by decide) (by decide) (by decide)), rb_nn (rb_mul0 (M := 33554432) r_zb r_bk (by decide) (by decide) (by decide)), rb_nn (rb_sub (rb_mul0 (M := 35651584) r_xa r_ck (by decide) (by decide) (by decide)) (rb_mul0 (M := 33554432) r_xb r_bk (by decide) (by decide) (by decide)) (by decide) (by decide)), rb_nn (rb_sub (rb_mul0 (M := 35651584) r_ya r_ck (by decide) (by decide) (by decide)) (rb_mul0 (M := 33554432) r_yb r_bk (by decide) (by decide) (by decide)) (by decide) (by decide)), rb_nn (rb_sub (rb_mul0 (M := 35651584) r_za r_ck (by decide) (by decide) (by decide)) (rb_mul0 (M := 33554432) r_zb r_bk (by decide) (by decide) (by decide)) (by decide) (by decide)), rb_nn (rb_mul0 (M := 262144) r_av r_iv (by decide) (by decide) (by decide)), rb_nn (rb_mul0 (M := 8388608) r_xb r_ak (by decide) (by decide) (by decide)), rb_nn (rb_mul0 (M := 8388608) r_yb r_ak (by decide) (by decide) (by decide)), rb_nn (rb_mul0 (M := 8388608) r_zb r_ak (by decide) (by decide) (by decide)), rb_nn (rb_mul0 (M := 1048576) r_bv r_iv (by decide) (by decide) (by decide)), rb_nn (rb_mul0 (M := 8388608) r_xa r_bk (by decide) (by decide) (by decide)), rb_nn (rb_mul0 (M := 8388608) r_ya r_bk (by decide) (by decide) (by decide)), rb_nn (rb_mul0 (M := 8388608) r_za r_bk (by decide) (by decide) (by decide)), rb_nn (rb_sub (rb_mul0 (M := 8388608) r_xb r_ak (by decide) (by decide) (by decide)) (rb_mul0 (M := 8388608) r_xa r_bk (by decide) (by decide) (by decide)) (by decide) (by decide)), rb_nn (rb_sub (rb_mul0 (M := 8388608) r_yb r_ak (by decide) (by decide) (by decide)) (rb_mul0 (M := 8388608) r_ya r_bk (by decide) (by decide) (by decide)) (by decide) (by decide)), rb_nn (rb_sub (rb_mul0 (M := 8388608) r_zb r_ak (by decide) (by decide) (by decide)) (rb_mul0 (M := 8388608) r_za r_bk (by decide) (by decide) (by decide)) (by decide) (by decide)), rb_nn (rb_sub r_u2 r_u0 (by decide) (by decide)), rb_nn (rb_mul0' (M := 2199023255552) r_sx r_du2 (by decide) (by decide) (by decide)), rb_nn (rb_mul0' (M := 2199023255552) r_sy r_du2 (by decide) (by decide) (by decide)), rb_nn (rb_mul0' (M := 2199023255552) r_sz r_du2 (by decide) (by decide) (by decide)), rb_nn (rb_sub r_u4 r_u0 (by decide) (by decide)), rb_nn (rb_mul0' (M := 274877906944) r_tx r_du3 (by decide) (by decide) (by decide)), rb_nn (rb_mul0' (M := 274877906944) r_ty r_du3 (by decide) (by decide) (by decide)), rb_nn (rb_mul0' (M := 274877906944) r_tz r_du3 (by decide) (by decide) (by decide)), rb_nn (rb_add (rb_mul0' (M := 2199023255552) r_sx r_du2 (by decide) (by decide) (by decide)) (rb_mul0' (M := 274877906944) r_tx r_du3 (by decide) (by decide) (by decide)) (by decide) (by decide)), rb_nn (rb_add (rb_mul0' (M := 2199023255552) r_sy r_du2 (by decide) (by decide) (by decide)) (rb_mul0' (M := 274877906944) r_ty r_du3 (by decide) (by decide) (by decide)) (by decide) (by decide)), rb_nn (rb_add (rb_mul0' (M := 2199023255552) r_sz r_du2 (by decide) (by decide) (by decide)) (rb_mul0' (M := 274877906944) r_tz r_du3 (by decide) (by decide) (by decide)) (by decide) (by decide)), rb_nn (rb_sub r_u3 r_u1 (by decide) (by decide)), rb_nn (rb_mul0' (M := 2199023255552) r_sx r_dv2 (by decide) (by decide) (by decide)), rb_nn (rb_mul0' (M := 2199023255552) r_sy r_dv2 (by decide) (by decide) (by decide)), rb_nn (rb_mul0' (M := 2199023255552) r_sz r_dv2 (by decide) (by decide) (by decide)), rb_nn (rb_sub r_u5 r_u1 (by decide) (by decide)), rb_nn (rb_mul0' (M := 274877906944) r_tx r_dv3 (by decide) (by decide) (by decide)), rb_nn (rb_mul0' (M := 274877906944) r_ty r_dv3 (by decide) (by decide) (by decide)), rb_nn (rb_mul0' (M := 274877906944) r_tz r_dv3 (by decide) (by decide) (by decide)), rb_nn (rb_add (rb_mul0' (M := 2199023255552) r_sx r_dv2 (by decide) (by decide) (by decide)) (rb_mul0' (M := 274877906944) r_tx r_dv3 (by decide) (by decide) (by decide)) (by decide) (by decide)), rb_nn (rb_add (rb_mul0' (M := 2199023255552) r_sy r_dv2 (by decide) (by decide) (by decide)) (rb_mul0' (M := 274877906944) r_ty r_dv3 (by decide) (by decide) (by decide)) (by decide) (by decide)), rb_nn (rb_add (rb_mul0' (M := 2199023255552) r_sz r_dv2 (by decide) (by decide) (by decide)) (rb_mul0' (M := 274877906944) r_tz r_dv3 (by decide) (by decide) (by decide)) (by decide) (by decide)), r_gx, r_gy, r_gz, r_wx, r_wy, r_wz⟩
theorem own_read {cu px py pz fx fy fz gx gy gz : UInt64} {U FX FY FZ DX DY DZ GX GY GZ : Int} (r_cu : Rb cu U 0 2147483648) (r_px : Rb px (FX + DX) 0 4294967296) (r_fx : Rb fx FX 0 2147483648) (h_x : DX.natAbs ≤ 512) (r_gx : Rb gx GX 6 2473901162496) (r_py : Rb py (FY + DY) 0 4294967296) (r_fy : Rb fy FY 0 2147483648) (h_y : DY.natAbs ≤ 512) (r_gy : Rb gy GY 6 2473901162496) (r_pz : Rb pz (FZ + DZ) 0 4294967296) (r_fz : Rb fz FZ 0 2147483648) (h_z : DZ.natAbs ≤ 512) (r_gz : Rb gz GZ 6 2473901162496) :
    Jvm.Free.Fl.NoNaN64 (FP.dsub px fx) ∧ Jvm.Free.Fl.NoNaN64 (FP.dmul (FP.dsub px fx) gx) ∧ Jvm.Free.Fl.NoNaN64 (FP.dadd cu (FP.dmul (FP.dsub px fx) gx)) ∧ Jvm.Free.Fl.NoNaN64 (FP.dsub py fy) ∧ Jvm.Free.Fl.NoNaN64 (FP.dmul (FP.dsub py fy) gy) ∧ Jvm.Free.Fl.NoNaN64 (FP.dadd (FP.dadd cu (FP.dmul (FP.dsub px fx) gx)) (FP.dmul (FP.dsub py fy) gy)) ∧ Jvm.Free.Fl.NoNaN64 (FP.dsub pz fz) ∧ Jvm.Free.Fl.NoNaN64 (FP.dmul (FP.dsub pz fz) gz) ∧ Jvm.Free.Fl.NoNaN64 (FP.dadd (FP.dadd (FP.dadd cu (FP.dmul (FP.dsub px fx) gx)) (FP.dmul (FP.dsub py fy) gy)) (FP.dmul (FP.dsub pz fz) gz)) ∧ Rb (FP.dadd (FP.dadd (FP.dadd cu (FP.dmul (FP.dsub px fx) gx)) (FP.dmul (FP.dsub py fy) gy)) (FP.dmul (FP.dsub pz fz) gz)) (U * 64 + DX * GX + DY * GY + DZ * GZ) 6 3800049624547328 := by
  have r_dx : Rb (FP.dsub px fx) DX 0 512 := rb_eq (rb_sub r_px r_fx (by decide) (by decide)) (by omega) h_x
  have r_dy : Rb (FP.dsub py fy) DY 0 512 := rb_eq (rb_sub r_py r_fy (by decide) (by decide)) (by omega) h_y
  have r_dz : Rb (FP.dsub pz fz) DZ 0 512 := rb_eq (rb_sub r_pz r_fz (by decide) (by decide)) (by omega) h_z
  exact ⟨rb_nn r_dx, rb_nn (rb_mul0 (M := 1266637395197952) r_dx r_gx (by decide) (by decide) (by decide)), rb_nn (rb_add (rb_up6 (M := 137438953472) r_cu (by decide)) (rb_mul0 (M := 1266637395197952) r_dx r_gx (by decide) (by decide) (by decide)) (by decide) (by decide)), rb_nn r_dy, rb_nn (rb_mul0 (M := 1266637395197952) r_dy r_gy (by decide) (by decide) (by decide)), rb_nn (rb_add (rb_add (rb_up6 (M := 137438953472) r_cu (by decide)) (rb_mul0 (M := 1266637395197952) r_dx r_gx (by decide) (by decide) (by decide)) (by decide) (by decide)) (rb_mul0 (M := 1266637395197952) r_dy r_gy (by decide) (by decide) (by decide)) (by decide) (by decide)), rb_nn r_dz, rb_nn (rb_mul0 (M := 1266637395197952) r_dz r_gz (by decide) (by decide) (by decide)), rb_nn (rb_add (rb_add (rb_add (rb_up6 (M := 137438953472) r_cu (by decide)) (rb_mul0 (M := 1266637395197952) r_dx r_gx (by decide) (by decide) (by decide)) (by decide) (by decide)) (rb_mul0 (M := 1266637395197952) r_dy r_gy (by decide) (by decide) (by decide)) (by decide) (by decide)) (rb_mul0 (M := 1266637395197952) r_dz r_gz (by decide) (by decide) (by decide)) (by decide) (by decide)), (rb_add (rb_add (rb_add (rb_up6 (M := 137438953472) r_cu (by decide)) (rb_mul0 (M := 1266637395197952) r_dx r_gx (by decide) (by decide) (by decide)) (by decide) (by decide)) (rb_mul0 (M := 1266637395197952) r_dy r_gy (by decide) (by decide) (by decide)) (by decide) (by decide)) (rb_mul0 (M := 1266637395197952) r_dz r_gz (by decide) (by decide) (by decide)) (by decide) (by decide))⟩
end Jvm.Own
namespace Jvm.Own
def own_ab (a b : Int32) : Prop := (a = 0 ∧ b = 1) ∨ (a = 1 ∧ b = 2) ∨ (a = 2 ∧ b = 0) ∨ (a = 0 ∧ b = 2) ∨ (a = 1 ∧ b = 0) ∨ (a = 2 ∧ b = 1)
def own_pl (a b : Int32) (x y z : UInt64) (i : Int32) : UInt64 := if a = i then x else if b = i then y else z
theorem own_place {a b : Int32} (h : own_ab a b) : ∃ n : Nat, ∀ x y z, own_pl a b x y z 0 = axX n x y z ∧ own_pl a b x y z 1 = axY n x y z ∧ own_pl a b x y z 2 = axZ n x y z := by
  rcases h with ⟨rfl, rfl⟩ | ⟨rfl, rfl⟩ | ⟨rfl, rfl⟩ | ⟨rfl, rfl⟩ | ⟨rfl, rfl⟩ | ⟨rfl, rfl⟩
  · exact ⟨0, fun x y z => ⟨rfl, rfl, rfl⟩⟩
  · exact ⟨2, fun x y z => ⟨rfl, rfl, rfl⟩⟩
  · exact ⟨1, fun x y z => ⟨rfl, rfl, rfl⟩⟩
  · exact ⟨4, fun x y z => ⟨rfl, rfl, rfl⟩⟩
  · exact ⟨3, fun x y z => ⟨rfl, rfl, rfl⟩⟩
  · exact ⟨5, fun x y z => ⟨rfl, rfl, rfl⟩⟩
theorem own_of_range {x : Int32} {n : Nat} (h0 : 0 ≤ x.toInt) (h1 : x.toInt < n) (hn : n ≤ 2 ^ 31) : ∃ k : Fin n, x = Int32.ofNat k.val := by
  refine ⟨⟨x.toInt.toNat, by omega⟩, ?_⟩
  apply Int32.toInt_inj.mp
  rw [Int32.toInt_ofNat_small (by show x.toInt.toNat < _; omega)]
  show _ = ((x.toInt.toNat : Nat) : Int)
  omega
theorem own_abF : ∀ k : Fin 8, (((Int32.ofNat k.val % 6) % 3 = 0 ∧ ((Int32.ofNat k.val % 6) % 3 + 1 + (Int32.ofNat k.val % 6) / 3) % 3 = 1) ∨ ((Int32.ofNat k.val % 6) % 3 = 1 ∧ ((Int32.ofNat k.val % 6) % 3 + 1 + (Int32.ofNat k.val % 6) / 3) % 3 = 2) ∨ ((Int32.ofNat k.val % 6) % 3 = 2 ∧ ((Int32.ofNat k.val % 6) % 3 + 1 + (Int32.ofNat k.val % 6) / 3) % 3 = 0) ∨ ((Int32.ofNat k.val % 6) % 3 = 0 ∧ ((Int32.ofNat k.val % 6) % 3 + 1 + (Int32.ofNat k.val % 6) / 3) % 3 = 2) ∨ ((Int32.ofNat k.val % 6) % 3 = 1 ∧ ((Int32.ofNat k.val % 6) % 3 + 1 + (Int32.ofNat k.val % 6) / 3) % 3 = 0) ∨ ((Int32.ofNat k.val % 6) % 3 = 2 ∧ ((Int32.ofNat k.val % 6) % 3 + 1 + (Int32.ofNat k.val % 6) / 3) % 3 = 1)) := by decide +kernel
theorem own_abE {y kI aI bI : Int32} (h1 : (y &&& (7 : Int32)) % (6 : Int32) = kI) (h2 : kI % (3 : Int32) = aI) (h3 : ((aI + (1 : Int32)) + (kI / (3 : Int32))) % (3 : Int32) = bI) : own_ab aI bI := by
  have e := Jvm.Kit.i32_mask y 7 (k := 3) (by decide) (by decide)
  obtain ⟨k, hk⟩ := own_of_range (x := y &&& 7) (n := 8) (by rw [e]; omega) (by rw [e]; omega) (by decide)
  rw [hk] at h1
  subst h1 h2 h3
  exact own_abF k
theorem own_pmF : ∀ k : Fin 4, ((1 : Int32) <<< (Int32.ofNat k.val &&& 31)).toInt = 1 ∨ ((1 : Int32) <<< (Int32.ofNat k.val &&& 31)).toInt = 2 ∨ ((1 : Int32) <<< (Int32.ofNat k.val &&& 31)).toInt = 4 ∨ ((1 : Int32) <<< (Int32.ofNat k.val &&& 31)).toInt = 8 := by decide +kernel
theorem own_pm {y pm : Int32} (h : (1 : Int32) <<< ((y &&& (3 : Int32)) &&& 31) = pm) : pm.toInt = 1 ∨ pm.toInt = 2 ∨ pm.toInt = 4 ∨ pm.toInt = 8 := by
  have e := Jvm.Kit.i32_mask y 3 (k := 2) (by decide) (by decide)
  obtain ⟨k, hk⟩ := own_of_range (x := y &&& 3) (n := 4) (by rw [e]; omega) (by rw [e]; omega) (by decide)
  rw [hk] at h
  subst h
  exact own_pmF k
/-- a power of two up to 8, of either sign -/
def Pw (x : Int) : Prop := x = 1 ∨ x = 2 ∨ x = 4 ∨ x = 8 ∨ x = -1 ∨ x = -2 ∨ x = -4 ∨ x = -8
theorem own_pw {y pm pI : Int32} {c : Prop} [Decidable c] (h : (1 : Int32) <<< ((y &&& (3 : Int32)) &&& 31) = pm) (h2 : pI = if c then pm else (-pm)) : Pw pI.toInt := by
  have hm := own_pm h
  by_cases hc : c
  · rw [if_pos hc] at h2
    subst h2
    unfold Pw; omega
  · rw [if_neg hc] at h2
    have e : (-pm).toInt = -pm.toInt := Jvm.Kit.i32_neg (by omega)
    subst h2
    rw [e]
    unfold Pw; omega
theorem own_M {p q : Int} (hp : Pw p) (hq : Pw q) : ∃ M : Int, p * q * M = 64 ∧ p.natAbs ≤ 8 ∧ q.natAbs ≤ 8 ∧ M.natAbs ≤ 64 ∧ (q * M).natAbs ≤ 64 ∧ (p * M).natAbs ≤ 64 ∧ (p * q).natAbs ≤ 64 := by
  refine ⟨64 / (p * q), ?_⟩
  rcases hp with rfl | rfl | rfl | rfl | rfl | rfl | rfl | rfl <;> rcases hq with rfl | rfl | rfl | rfl | rfl | rfl | rfl | rfl <;> decide
theorem own_r {y rI : Int32} (h : (y &&& (15 : Int32)) - (8 : Int32) = rI) : rI.toInt.natAbs ≤ 8 := by
  have e := Jvm.Kit.i32_mask y 15 (k := 4) (by decide) (by decide)
  have e1 : (8 : Int32).toInt = 8 := by decide
  rw [← h, Jvm.Kit.i32_sub (by rw [e, e1]; omega) (by rw [e, e1]; omega), e, e1]; omega
theorem own_off {y : Int64} {dI : Int32} (h : (y >>> ((54 : Int32) &&& 0x3f).toInt64).toInt32 = dI) : dI.toInt.natAbs ≤ 512 := by
  have e := Jvm.Kit.i64_shr y ((54 : Int32) &&& 0x3f).toInt64 (k := 54) (by decide +kernel)
  have h1 := y.toInt_lt
  have h2 := y.le_toInt
  have e2 : (y >>> ((54 : Int32) &&& 0x3f).toInt64).toInt32.toInt = y.toInt / 2 ^ 54 := by rw [Jvm.Kit.i32_of_i64 (by rw [e]; omega) (by rw [e]; omega), e]
  rw [← h, e2]; omega
theorem own_id {p q r M U V2 V3 a b c : Int} (h : p * q * M = 64) : (U * 64 + a * (q * M * V2 + 0 * V3) + b * (-(r * M) * V2 + p * M * V3) + c * (0 * V2 + 0 * V3)) * (p * q) = 64 * (U * (p * q) + V2 * (q * a - r * b) + V3 * (p * b)) := by grind
theorem own_dsum (n : Nat) (U a b c A B C : Int) : U * 64 + axX n a b c * axX n A B C + axY n a b c * axY n A B C + axZ n a b c * axZ n A B C = U * 64 + a * A + b * B + c * C := by
  have := own_dot n a b c A B C
  omega
theorem own_want {n1 n2 n3 pI qI rI dxI dyI : Int32} {lu2 lu3 lpq lw : Int64} (hpq : (pI.toInt * qI.toInt).natAbs ≤ 64) (hp : pI.toInt.natAbs ≤ 8) (hq : qI.toInt.natAbs ≤ 8) (hr : rI.toInt.natAbs ≤ 8) (hx : dxI.toInt.natAbs ≤ 512) (hy : dyI.toInt.natAbs ≤ 512)
    (h1 : n2.toInt64 - n1.toInt64 = lu2) (h2 : n3.toInt64 - n1.toInt64 = lu3) (h3 : pI.toInt64 * qI.toInt64 = lpq) (h4 : ((n1.toInt64 * lpq) + (lu2 * ((qI.toInt64 * dxI.toInt64) - (rI.toInt64 * dyI.toInt64)))) + (lu3 * (pI.toInt64 * dyI.toInt64)) = lw) :
    lpq.toInt = pI.toInt * qI.toInt ∧ lw.toInt = n1.toInt * (pI.toInt * qI.toInt) + (n2.toInt - n1.toInt) * (qI.toInt * dxI.toInt - rI.toInt * dyI.toInt) + (n3.toInt - n1.toInt) * (pI.toInt * dyI.toInt) ∧ lw.toInt.natAbs < 2 ^ 47 := by
  have c1 : n1.toInt.natAbs ≤ 2147483648 := (rb_i2d n1).2
  have c2 : n2.toInt.natAbs ≤ 2147483648 := (rb_i2d n2).2
  have c3 : n3.toInt.natAbs ≤ 2147483648 := (rb_i2d n3).2
  have e1 : lu2.toInt = n2.toInt - n1.toInt := by rw [← h1, Jvm.Kit.i64_sub (by rw [Int32.toInt_toInt64, Int32.toInt_toInt64]; omega) (by rw [Int32.toInt_toInt64, Int32.toInt_toInt64]; omega), Int32.toInt_toInt64, Int32.toInt_toInt64]
  have e2 : lu3.toInt = n3.toInt - n1.toInt := by rw [← h2, Jvm.Kit.i64_sub (by rw [Int32.toInt_toInt64, Int32.toInt_toInt64]; omega) (by rw [Int32.toInt_toInt64, Int32.toInt_toInt64]; omega), Int32.toInt_toInt64, Int32.toInt_toInt64]
  have e3 : lpq.toInt = pI.toInt * qI.toInt := by rw [← h3, Jvm.Kit.i64_mul (by rw [Int32.toInt_toInt64, Int32.toInt_toInt64]; omega) (by rw [Int32.toInt_toInt64, Int32.toInt_toInt64]; omega), Int32.toInt_toInt64, Int32.toInt_toInt64]
  have m3 : ∀ {x y : Int32} {N : Nat}, (x.toInt * y.toInt).natAbs ≤ N → N ≤ 2 ^ 40 → (x.toInt64 * y.toInt64).toInt = x.toInt * y.toInt := fun {x y N} h hN => by
    rw [Jvm.Kit.i64_mul (by rw [Int32.toInt_toInt64, Int32.toInt_toInt64]; omega) (by rw [Int32.toInt_toInt64, Int32.toInt_toInt64]; omega), Int32.toInt_toInt64, Int32.toInt_toInt64]
  have b1 := nb_mul hq hx
  have b2 := nb_mul hr hy
  have b3 := nb_mul hp hy
  have f1 := m3 b1 (by decide)
  have f2 := m3 b2 (by decide)
  have f3 := m3 b3 (by decide)
  have b4 := nb_sub b1 b2
  have f4 : ((qI.toInt64 * dxI.toInt64) - (rI.toInt64 * dyI.toInt64)).toInt = qI.toInt * dxI.toInt - rI.toInt * dyI.toInt := by rw [Jvm.Kit.i64_sub (by rw [f1, f2]; omega) (by rw [f1, f2]; omega), f1, f2]
  have d2 : (n2.toInt - n1.toInt).natAbs ≤ 4294967296 := by omega
  have d3 : (n3.toInt - n1.toInt).natAbs ≤ 4294967296 := by omega
  have b5 := nb_mul c1 hpq
  have b6 := nb_mul d2 b4
  have b7 := nb_mul d3 b3
  have g1 : (n1.toInt64 * lpq).toInt = n1.toInt * (pI.toInt * qI.toInt) := by rw [Jvm.Kit.i64_mul (by rw [Int32.toInt_toInt64, e3]; omega) (by rw [Int32.toInt_toInt64, e3]; omega), Int32.toInt_toInt64, e3]
  have g2 : (lu2 * ((qI.toInt64 * dxI.toInt64) - (rI.toInt64 * dyI.toInt64))).toInt = (n2.toInt - n1.toInt) * (qI.toInt * dxI.toInt - rI.toInt * dyI.toInt) := by rw [Jvm.Kit.i64_mul (by rw [e1, f4]; omega) (by rw [e1, f4]; omega), e1, f4]
  have g3 : (lu3 * (pI.toInt64 * dyI.toInt64)).toInt = (n3.toInt - n1.toInt) * (pI.toInt * dyI.toInt) := by rw [Jvm.Kit.i64_mul (by rw [e2, f3]; omega) (by rw [e2, f3]; omega), e2, f3]
  have g4 : ((n1.toInt64 * lpq) + (lu2 * ((qI.toInt64 * dxI.toInt64) - (rI.toInt64 * dyI.toInt64)))).toInt = n1.toInt * (pI.toInt * qI.toInt) + (n2.toInt - n1.toInt) * (qI.toInt * dxI.toInt - rI.toInt * dyI.toInt) := by rw [Jvm.Kit.i64_add (by rw [g1, g2]; omega) (by rw [g1, g2]; omega), g1, g2]
  have g5 : lw.toInt = n1.toInt * (pI.toInt * qI.toInt) + (n2.toInt - n1.toInt) * (qI.toInt * dxI.toInt - rI.toInt * dyI.toInt) + (n3.toInt - n1.toInt) * (pI.toInt * dyI.toInt) := by rw [← h4, Jvm.Kit.i64_add (by rw [g4, g3]; omega) (by rw [g4, g3]; omega), g4, g3]
  refine ⟨e3, g5, ?_⟩
  rw [g5]
  omega
/-- the last comparison -/
theorem own_last {got : UInt64} {lpq lw : Int64} {N pq want : Int} {B : Nat} (hg : Rb got N 6 B) (h1 : lpq.toInt = pq) (h2 : lw.toInt = want) (hpq : pq.natAbs ≤ 64) (hw : lw.toInt.natAbs < 2 ^ 47) (e : N * pq = 64 * want) :
    Jvm.Free.Fl.NoNaN64 (FP.dmul got (FP.l2d lpq)) ∧ ∀ o, Jvm.Op.cmpValue (FP.dcmp (FP.dmul got (FP.l2d lpq)) (FP.l2d lw)) o = 0 := by
  have r1 : Rv (FP.l2d lpq) pq 1 := h1 ▸ rv_l2d (by rw [h1]; omega)
  have r2 : Rv (FP.l2d lw) want 1 := h2 ▸ rv_l2d (by omega)
  obtain ⟨V, hV⟩ := ex_rv (N * pq) 6 (by rw [e]; omega) (by decide)
  have r3 : Rv (FP.dmul got (FP.l2d lpq)) (N * pq) (2 ^ 6 * 1) := rv_mul (by decide) (by decide) hg.1 r1 hV
  refine ⟨rv_nn r3, fun o => (rcv (by decide) (by decide) r3 r2 o).2.2.mpr ?_⟩
  rw [e]
  show 64 * want * 1 = want * 64
  omega
end Jvm.Own
namespace Jvm.Pilot.@@N@@
open Jvm Jvm.ClassFile Sem Op Lib Jvm.Free Jvm.Stand Jvm.LawKit Jvm.RoadKit Bundle Jvm.Own Jvm.Pilot.@@N@@.Jvm.D
theorem own_fd0 : parseFieldDescriptor "D" = some .double := by decide +kernel
theorem own_nes0 : ("y" : String) ≠ "x" := by decide +kernel
theorem own_nes1 : ("z" : String) ≠ "x" := by decide +kernel
theorem own_nes2 : ("x" : String) ≠ "y" := by decide +kernel
theorem own_nes3 : ("z" : String) ≠ "y" := by decide +kernel
theorem own_nes4 : ("x" : String) ≠ "z" := by decide +kernel
theorem own_nes5 : ("y" : String) ≠ "z" := by decide +kernel
theorem own_pd0 : parseMethodDescriptor "(DDD)V" = some ⟨[.double, .double, .double], none⟩ := by decide +kernel
theorem own_pd1 : parseMethodDescriptor "()D" = some ⟨[], some .double⟩ := by decide +kernel
theorem own_nes6 : ("cornerY" : String) ≠ "cornerX" := by decide +kernel
theorem own_nes7 : ("cornerZ" : String) ≠ "cornerX" := by decide +kernel
theorem own_nes8 : ("cornerU" : String) ≠ "cornerX" := by decide +kernel
theorem own_nes9 : ("cornerV" : String) ≠ "cornerX" := by decide +kernel
theorem own_nes10 : ("uGradientX" : String) ≠ "cornerX" := by decide +kernel
theorem own_nes11 : ("uGradientY" : String) ≠ "cornerX" := by decide +kernel
theorem own_nes12 : ("uGradientZ" : String) ≠ "cornerX" := by decide +kernel
theorem own_nes13 : ("vGradientX" : String) ≠ "cornerX" := by decide +kernel
theorem own_nes14 : ("vGradientY" : String) ≠ "cornerX" := by decide +kernel
theorem own_nes15 : ("vGradientZ" : String) ≠ "cornerX" := by decide +kernel
theorem own_nes16 : ("cornerX" : String) ≠ "cornerY" := by decide +kernel
theorem own_nes17 : ("cornerZ" : String) ≠ "cornerY" := by decide +kernel
theorem own_nes18 : ("cornerU" : String) ≠ "cornerY" := by decide +kernel
theorem own_nes19 : ("cornerV" : String) ≠ "cornerY" := by decide +kernel
theorem own_nes20 : ("uGradientX" : String) ≠ "cornerY" := by decide +kernel
theorem own_nes21 : ("uGradientY" : String) ≠ "cornerY" := by decide +kernel
theorem own_nes22 : ("uGradientZ" : String) ≠ "cornerY" := by decide +kernel
theorem own_nes23 : ("vGradientX" : String) ≠ "cornerY" := by decide +kernel
theorem own_nes24 : ("vGradientY" : String) ≠ "cornerY" := by decide +kernel
theorem own_nes25 : ("vGradientZ" : String) ≠ "cornerY" := by decide +kernel
theorem own_nes26 : ("cornerX" : String) ≠ "cornerZ" := by decide +kernel
theorem own_nes27 : ("cornerY" : String) ≠ "cornerZ" := by decide +kernel
theorem own_nes28 : ("cornerU" : String) ≠ "cornerZ" := by decide +kernel
theorem own_nes29 : ("cornerV" : String) ≠ "cornerZ" := by decide +kernel
theorem own_nes30 : ("uGradientX" : String) ≠ "cornerZ" := by decide +kernel
theorem own_nes31 : ("uGradientY" : String) ≠ "cornerZ" := by decide +kernel
theorem own_nes32 : ("uGradientZ" : String) ≠ "cornerZ" := by decide +kernel
theorem own_nes33 : ("vGradientX" : String) ≠ "cornerZ" := by decide +kernel
theorem own_nes34 : ("vGradientY" : String) ≠ "cornerZ" := by decide +kernel
theorem own_nes35 : ("vGradientZ" : String) ≠ "cornerZ" := by decide +kernel
theorem own_nes36 : ("cornerX" : String) ≠ "cornerU" := by decide +kernel
theorem own_nes37 : ("cornerY" : String) ≠ "cornerU" := by decide +kernel
theorem own_nes38 : ("cornerZ" : String) ≠ "cornerU" := by decide +kernel
theorem own_nes39 : ("cornerV" : String) ≠ "cornerU" := by decide +kernel
theorem own_nes40 : ("uGradientX" : String) ≠ "cornerU" := by decide +kernel
theorem own_nes41 : ("uGradientY" : String) ≠ "cornerU" := by decide +kernel
theorem own_nes42 : ("uGradientZ" : String) ≠ "cornerU" := by decide +kernel
theorem own_nes43 : ("vGradientX" : String) ≠ "cornerU" := by decide +kernel
theorem own_nes44 : ("vGradientY" : String) ≠ "cornerU" := by decide +kernel
theorem own_nes45 : ("vGradientZ" : String) ≠ "cornerU" := by decide +kernel
theorem own_nes46 : ("cornerX" : String) ≠ "cornerV" := by decide +kernel
theorem own_nes47 : ("cornerY" : String) ≠ "cornerV" := by decide +kernel
theorem own_nes48 : ("cornerZ" : String) ≠ "cornerV" := by decide +kernel
theorem own_nes49 : ("cornerU" : String) ≠ "cornerV" := by decide +kernel
theorem own_nes50 : ("uGradientX" : String) ≠ "cornerV" := by decide +kernel
theorem own_nes51 : ("uGradientY" : String) ≠ "cornerV" := by decide +kernel
theorem own_nes52 : ("uGradientZ" : String) ≠ "cornerV" := by decide +kernel
theorem own_nes53 : ("vGradientX" : String) ≠ "cornerV" := by decide +kernel
theorem own_nes54 : ("vGradientY" : String) ≠ "cornerV" := by decide +kernel
theorem own_nes55 : ("vGradientZ" : String) ≠ "cornerV" := by decide +kernel
theorem own_pd2 : parseMethodDescriptor "(Lcom/example/stochastic_ray_tracer/stochasticraytracer/Vec3;)D" = some ⟨[(.object "com/example/stochastic_ray_tracer/stochasticraytracer/Vec3")], some .double⟩ := by decide +kernel
theorem own_pd3 : parseMethodDescriptor "(D)Lcom/example/stochastic_ray_tracer/stochasticraytracer/Vec3;" = some ⟨[.double], some (.object "com/example/stochastic_ray_tracer/stochasticraytracer/Vec3")⟩ := by decide +kernel
theorem own_pd4 : parseMethodDescriptor "(Lcom/example/stochastic_ray_tracer/stochasticraytracer/Vec3;)Lcom/example/stochastic_ray_tracer/stochasticraytracer/Vec3;" = some ⟨[(.object "com/example/stochastic_ray_tracer/stochasticraytracer/Vec3")], some (.object "com/example/stochastic_ray_tracer/stochasticraytracer/Vec3")⟩ := by decide +kernel
theorem own_nes56 : ("cornerX" : String) ≠ "uGradientX" := by decide +kernel
theorem own_nes57 : ("cornerY" : String) ≠ "uGradientX" := by decide +kernel
theorem own_nes58 : ("cornerZ" : String) ≠ "uGradientX" := by decide +kernel
theorem own_nes59 : ("cornerU" : String) ≠ "uGradientX" := by decide +kernel
theorem own_nes60 : ("cornerV" : String) ≠ "uGradientX" := by decide +kernel
theorem own_nes61 : ("uGradientY" : String) ≠ "uGradientX" := by decide +kernel
theorem own_nes62 : ("uGradientZ" : String) ≠ "uGradientX" := by decide +kernel
theorem own_nes63 : ("vGradientX" : String) ≠ "uGradientX" := by decide +kernel
theorem own_nes64 : ("vGradientY" : String) ≠ "uGradientX" := by decide +kernel
theorem own_nes65 : ("vGradientZ" : String) ≠ "uGradientX" := by decide +kernel
theorem own_nes66 : ("cornerX" : String) ≠ "uGradientY" := by decide +kernel
theorem own_nes67 : ("cornerY" : String) ≠ "uGradientY" := by decide +kernel
theorem own_nes68 : ("cornerZ" : String) ≠ "uGradientY" := by decide +kernel
theorem own_nes69 : ("cornerU" : String) ≠ "uGradientY" := by decide +kernel
theorem own_nes70 : ("cornerV" : String) ≠ "uGradientY" := by decide +kernel
theorem own_nes71 : ("uGradientX" : String) ≠ "uGradientY" := by decide +kernel
theorem own_nes72 : ("uGradientZ" : String) ≠ "uGradientY" := by decide +kernel
theorem own_nes73 : ("vGradientX" : String) ≠ "uGradientY" := by decide +kernel
theorem own_nes74 : ("vGradientY" : String) ≠ "uGradientY" := by decide +kernel
theorem own_nes75 : ("vGradientZ" : String) ≠ "uGradientY" := by decide +kernel
theorem own_nes76 : ("cornerX" : String) ≠ "uGradientZ" := by decide +kernel
theorem own_nes77 : ("cornerY" : String) ≠ "uGradientZ" := by decide +kernel
theorem own_nes78 : ("cornerZ" : String) ≠ "uGradientZ" := by decide +kernel
theorem own_nes79 : ("cornerU" : String) ≠ "uGradientZ" := by decide +kernel
theorem own_nes80 : ("cornerV" : String) ≠ "uGradientZ" := by decide +kernel
theorem own_nes81 : ("uGradientX" : String) ≠ "uGradientZ" := by decide +kernel
theorem own_nes82 : ("uGradientY" : String) ≠ "uGradientZ" := by decide +kernel
theorem own_nes83 : ("vGradientX" : String) ≠ "uGradientZ" := by decide +kernel
theorem own_nes84 : ("vGradientY" : String) ≠ "uGradientZ" := by decide +kernel
theorem own_nes85 : ("vGradientZ" : String) ≠ "uGradientZ" := by decide +kernel
theorem own_nes86 : ("cornerX" : String) ≠ "vGradientX" := by decide +kernel
theorem own_nes87 : ("cornerY" : String) ≠ "vGradientX" := by decide +kernel
theorem own_nes88 : ("cornerZ" : String) ≠ "vGradientX" := by decide +kernel
theorem own_nes89 : ("cornerU" : String) ≠ "vGradientX" := by decide +kernel
theorem own_nes90 : ("cornerV" : String) ≠ "vGradientX" := by decide +kernel
theorem own_nes91 : ("uGradientX" : String) ≠ "vGradientX" := by decide +kernel
theorem own_nes92 : ("uGradientY" : String) ≠ "vGradientX" := by decide +kernel
theorem own_nes93 : ("uGradientZ" : String) ≠ "vGradientX" := by decide +kernel
theorem own_nes94 : ("vGradientY" : String) ≠ "vGradientX" := by decide +kernel
theorem own_nes95 : ("vGradientZ" : String) ≠ "vGradientX" := by decide +kernel
theorem own_nes96 : ("cornerX" : String) ≠ "vGradientY" := by decide +kernel
theorem own_nes97 : ("cornerY" : String) ≠ "vGradientY" := by decide +kernel
theorem own_nes98 : ("cornerZ" : String) ≠ "vGradientY" := by decide +kernel
theorem own_nes99 : ("cornerU" : String) ≠ "vGradientY" := by decide +kernel
theorem own_nes100 : ("cornerV" : String) ≠ "vGradientY" := by decide +kernel
theorem own_nes101 : ("uGradientX" : String) ≠ "vGradientY" := by decide +kernel
theorem own_nes102 : ("uGradientY" : String) ≠ "vGradientY" := by decide +kernel
theorem own_nes103 : ("uGradientZ" : String) ≠ "vGradientY" := by decide +kernel
theorem own_nes104 : ("vGradientX" : String) ≠ "vGradientY" := by decide +kernel
theorem own_nes105 : ("vGradientZ" : String) ≠ "vGradientY" := by decide +kernel
theorem own_nes106 : ("cornerX" : String) ≠ "vGradientZ" := by decide +kernel
theorem own_nes107 : ("cornerY" : String) ≠ "vGradientZ" := by decide +kernel
theorem own_nes108 : ("cornerZ" : String) ≠ "vGradientZ" := by decide +kernel
theorem own_nes109 : ("cornerU" : String) ≠ "vGradientZ" := by decide +kernel
theorem own_nes110 : ("cornerV" : String) ≠ "vGradientZ" := by decide +kernel
theorem own_nes111 : ("uGradientX" : String) ≠ "vGradientZ" := by decide +kernel
theorem own_nes112 : ("uGradientY" : String) ≠ "vGradientZ" := by decide +kernel
theorem own_nes113 : ("uGradientZ" : String) ≠ "vGradientZ" := by decide +kernel
theorem own_nes114 : ("vGradientX" : String) ≠ "vGradientZ" := by decide +kernel
theorem own_nes115 : ("vGradientY" : String) ≠ "vGradientZ" := by decide +kernel
theorem own_pd5 : parseMethodDescriptor "(IIDDD)[D" = some ⟨[.int, .int, .double, .double, .double], some (.array .double)⟩ := by decide +kernel
theorem own_pd6 : parseMethodDescriptor "(Lcom/example/stochastic_ray_tracer/stochasticraytracer/Vec3;Lcom/example/stochastic_ray_tracer/stochasticraytracer/Vec3;Lcom/example/stochastic_ray_tracer/stochasticraytracer/Vec3;[D)V" = some ⟨[(.object "com/example/stochastic_ray_tracer/stochasticraytracer/Vec3"), (.object "com/example/stochastic_ray_tracer/stochasticraytracer/Vec3"), (.object "com/example/stochastic_ray_tracer/stochasticraytracer/Vec3"), (.array .double)], none⟩ := by decide +kernel
theorem own_pd7 : parseMethodDescriptor "(DDD)D" = some ⟨[.double, .double, .double], some .double⟩ := by decide +kernel
theorem own_pn0 : plainName "com/example/stochastic_ray_tracer/stochasticraytracer/TextureCoordinatesUPinLaw" = true := by first | (simp [plainName, overriddenIn]; done) | decide +kernel
theorem own_pn1 : plainName "com/example/stochastic_ray_tracer/stochasticraytracer/Vec3" = true := by first | (simp [plainName, overriddenIn]; done) | decide +kernel
theorem own_pn2 : plainName "com/example/stochastic_ray_tracer/stochasticraytracer/TextureCoordinates" = true := by first | (simp [plainName, overriddenIn]; done) | decide +kernel
theorem own_d1_0 : decode method_3_code 0 = .ok (.iconst 3, 1) := by decide +kernel
theorem own_d1_1 : decode method_3_code 1 = .ok (.newarray .double, 2) := by decide +kernel
theorem own_d1_3 : decode method_3_code 3 = .ok (.astore 8, 2) := by decide +kernel
theorem own_d1_5 : decode method_3_code 5 = .ok (.aload 8, 2) := by decide +kernel
theorem own_d1_7 : decode method_3_code 7 = .ok (.iload_n 0, 1) := by decide +kernel
theorem own_d1_8 : decode method_3_code 8 = .ok (.dload_n 2, 1) := by decide +kernel
theorem own_d1_9 : decode method_3_code 9 = .ok (.dastore, 1) := by decide +kernel
theorem own_d1_10 : decode method_3_code 10 = .ok (.aload 8, 2) := by decide +kernel
theorem own_d1_12 : decode method_3_code 12 = .ok (.iload_n 1, 1) := by decide +kernel
theorem own_d1_13 : decode method_3_code 13 = .ok (.dload 4, 2) := by decide +kernel
theorem own_d1_15 : decode method_3_code 15 = .ok (.dastore, 1) := by decide +kernel
theorem own_d1_16 : decode method_3_code 16 = .ok (.aload 8, 2) := by decide +kernel
theorem own_d1_18 : decode method_3_code 18 = .ok (.iconst 3, 1) := by decide +kernel
theorem own_d1_19 : decode method_3_code 19 = .ok (.iload_n 0, 1) := by decide +kernel
theorem own_d1_20 : decode method_3_code 20 = .ok (.isub, 1) := by decide +kernel
theorem own_d1_21 : decode method_3_code 21 = .ok (.iload_n 1, 1) := by decide +kernel
theorem own_d1_22 : decode method_3_code 22 = .ok (.isub, 1) := by decide +kernel
theorem own_d1_23 : decode method_3_code 23 = .ok (.dload 6, 2) := by decide +kernel
theorem own_d1_25 : decode method_3_code 25 = .ok (.dastore, 1) := by decide +kernel
theorem own_d1_26 : decode method_3_code 26 = .ok (.aload 8, 2) := by decide +kernel
theorem own_d1_28 : decode method_3_code 28 = .ok (.areturn, 1) := by decide +kernel
def own_Q1_01 (Z : State) (x : UInt64) (y : UInt64) (z : UInt64) (h0 : Heap) (n0 : Nat) (v : Option Value) (h : Heap) (L : List Loc) : Prop := ∃ (r : Addr), ∃ (kA : ClassId), v = some (.ref r) ∧ Fr n0 L ∧ Keep h0 h [] ∧ h0.size ≤ r ∧ Arv Z h r kA .double (3 : Int32) [(.double (own_pl (0 : Int32) (1 : Int32) x y z (0 : Int32))), (.double (own_pl (0 : Int32) (1 : Int32) x y z (1 : Int32))), (.double (own_pl (0 : Int32) (1 : Int32) x y z (2 : Int32)))] (.double (0 : UInt64))
set_option maxRecDepth 65536 in
set_option maxHeartbeats 40000000 in
theorem own_rm1_01 (l : Launch) (Z : State) (a0 : Array Value) (hw : ∀ d ∈ tables_1, d.before a0 Z = true) (ws : List Jvm.Cond) (x : UInt64) (y : UInt64) (z : UInt64) (h0 : Heap) (n0 : Nat) (Z0 : n0 ≤ h0.size) :
    Con l Z (⟨"com/example/stochastic_ray_tracer/stochasticraytracer/TextureCoordinatesUPinLaw", "place", "(IIDDD)[D"⟩ : MethodName) method_3_code 9 (some (.array .double)) ws ({ frames := 0, cells := 1, slots := 3, locals := 0 } : Room) #[(.int (0 : Int32)), (.int (1 : Int32)), (.double x), (.double y), (.double z)] h0 (own_Q1_01 Z x y z h0 n0) := by
  refine Con.start #[.val (.int (0 : Int32)), .val (.int (1 : Int32)), .val (.double x), .second, .val (.double y), .second, .val (.double z), .second, .unset] (plainFor_of_name own_pn0) (fun m => by first | (refine own_ef ?_; exact rfl) | (simp [entryFrame, mkF, argsToLocals, Value.category]; done) | rfl) ?_
  intro p e s m below meth c s₁ P X0 hx hby hml hret hlk hown hnm hZ e0 hf
  have hml : c.maxLocals = 9 := hml
  have N0 := Fr.nil n0
  have K0 : Keep h0 h0 [] := Keep.refl _ _
  refine g_iconst (pc' := 1) (v := (3 : Int32)) X0 hx hby own_d1_0 rfl rfl ?_
  refine g_newA (pc' := 3) X0 hx hby hZ (aty := .double) (cap := 3) (hw _ (List.mem_of_getElem? (i := 4) rfl)) e0 rfl (by decide) (by decide) (by decide) (by decide) (by decide) own_d1_1 rfl 3 ?_
  intro T1 h1 kc1 rr X1 e1 E1 V1 q1
  have ge1 : n0 ≤ rr := by rw [q1]; exact Z0
  have kp1 : h0.size ≤ rr := by rw [q1]; exact K0.1
  have f1 : Arv Z h1 rr kc1 .double (3 : Int32) [(.double (0 : UInt64)), (.double (0 : UInt64)), (.double (0 : UInt64))] (.double (0 : UInt64)) := V1
  have z1 := Nat.le_trans Z0 E1.1
  have K1 := K0.ext E1
  refine g_astore (pc' := 5) (Ls' := #[.val (.int (0 : Int32)), .val (.int (1 : Int32)), .val (.double x), .second, .val (.double y), .second, .val (.double z), .second, .val (.ref rr)]) X1 hx hby own_d1_3 rfl rfl rfl rfl ?_
  refine g_aload (pc' := 7) X1 hx hby (v := (.ref rr)) own_d1_5 rfl rfl rfl ?_
  refine g_iloadN (pc' := 8) X1 hx hby (v := (0 : Int32)) own_d1_7 rfl rfl ?_
  refine g_dloadN (pc' := 9) X1 hx hby (v := x) own_d1_8 rfl rfl ?_
  refine g_stD (pc' := 10) X1 hx hby hZ e1 f1 ⟨by decide, by decide⟩ 0 rfl (Nat.le_of_ble_eq_true rfl) rfl own_d1_9 rfl N0 ge1 ?_
  intro T2 h2 X2 e2 W2 N2 V2
  have z2 := Nat.le_trans z1 (Keep.of_wr W2).1
  have K2 := K1.wr W2 (Or.inr kp1)
  have f2 : Arv Z h2 rr kc1 .double (3 : Int32) [(.double x), (.double (0 : UInt64)), (.double (0 : UInt64))] (.double (0 : UInt64)) := V2
  refine g_aload (pc' := 12) X2 hx hby (v := (.ref rr)) own_d1_10 rfl rfl rfl ?_
  refine g_iloadN (pc' := 13) X2 hx hby (v := (1 : Int32)) own_d1_12 rfl rfl ?_
  refine g_dload (pc' := 15) X2 hx hby (v := y) own_d1_13 rfl rfl ?_
  refine g_stD (pc' := 16) X2 hx hby hZ e2 f2 ⟨by decide, by decide⟩ 1 rfl (Nat.le_of_ble_eq_true rfl) rfl own_d1_15 rfl N2 ge1 ?_
  intro T3 h3 X3 e3 W3 N3 V3
  have z3 := Nat.le_trans z2 (Keep.of_wr W3).1
  have K3 := K2.wr W3 (Or.inr kp1)
  have f3 : Arv Z h3 rr kc1 .double (3 : Int32) [(.double x), (.double y), (.double (0 : UInt64))] (.double (0 : UInt64)) := V3
  refine g_aload (pc' := 18) X3 hx hby (v := (.ref rr)) own_d1_16 rfl rfl rfl ?_
  refine g_iconst (pc' := 19) (v := (3 : Int32)) X3 hx hby own_d1_18 rfl rfl ?_
  refine g_iloadN (pc' := 20) X3 hx hby (v := (0 : Int32)) own_d1_19 rfl rfl ?_
  refine g_isub (pc' := 21) (v := (3 : Int32)) X3 hx hby own_d1_20 rfl rfl rfl ?_
  refine g_iloadN (pc' := 22) X3 hx hby (v := (1 : Int32)) own_d1_21 rfl rfl ?_
  refine g_isub (pc' := 23) (v := (2 : Int32)) X3 hx hby own_d1_22 rfl rfl rfl ?_
  refine g_dload (pc' := 25) X3 hx hby (v := z) own_d1_23 rfl rfl ?_
  refine g_stD (pc' := 26) X3 hx hby hZ e3 f3 ⟨by decide, by decide⟩ 2 rfl (Nat.le_of_ble_eq_true rfl) rfl own_d1_25 rfl N3 ge1 ?_
  intro T4 h4 X4 e4 W4 N4 V4
  have z4 := Nat.le_trans z3 (Keep.of_wr W4).1
  have K4 := K3.wr W4 (Or.inr kp1)
  have f4 : Arv Z h4 rr kc1 .double (3 : Int32) [(.double x), (.double y), (.double z)] (.double (0 : UInt64)) := V4
  refine g_aload (pc' := 28) X4 hx hby (v := (.ref rr)) own_d1_26 rfl rfl rfl ?_
  exact g_retV X4 hx hby hf hlk hret own_d1_28 rfl rfl (Or.inr (Or.inr (Or.inr (Or.inr ⟨rfl, rfl, rfl⟩)))) (by decide) (by decide) e4 ⟨rr, kc1, rfl, N4, K4, kp1, f4⟩
def own_Q1_12 (Z : State) (x : UInt64) (y : UInt64) (z : UInt64) (h0 : Heap) (n0 : Nat) (v : Option Value) (h : Heap) (L : List Loc) : Prop := ∃ (r : Addr), ∃ (kA : ClassId), v = some (.ref r) ∧ Fr n0 L ∧ Keep h0 h [] ∧ h0.size ≤ r ∧ Arv Z h r kA .double (3 : Int32) [(.double (own_pl (1 : Int32) (2 : Int32) x y z (0 : Int32))), (.double (own_pl (1 : Int32) (2 : Int32) x y z (1 : Int32))), (.double (own_pl (1 : Int32) (2 : Int32) x y z (2 : Int32)))] (.double (0 : UInt64))
set_option maxRecDepth 65536 in
set_option maxHeartbeats 40000000 in
theorem own_rm1_12 (l : Launch) (Z : State) (a0 : Array Value) (hw : ∀ d ∈ tables_1, d.before a0 Z = true) (ws : List Jvm.Cond) (x : UInt64) (y : UInt64) (z : UInt64) (h0 : Heap) (n0 : Nat) (Z0 : n0 ≤ h0.size) :
    Con l Z (⟨"com/example/stochastic_ray_tracer/stochasticraytracer/TextureCoordinatesUPinLaw", "place", "(IIDDD)[D"⟩ : MethodName) method_3_code 9 (some (.array .double)) ws ({ frames := 0, cells := 1, slots := 3, locals := 0 } : Room) #[(.int (1 : Int32)), (.int (2 : Int32)), (.double x), (.double y), (.double z)] h0 (own_Q1_12 Z x y z h0 n0) := by
  refine Con.start #[.val (.int (1 : Int32)), .val (.int (2 : Int32)), .val (.double x), .second, .val (.double y), .second, .val (.double z), .second, .unset] (plainFor_of_name own_pn0) (fun m => by first | (refine own_ef ?_; exact rfl) | (simp [entryFrame, mkF, argsToLocals, Value.category]; done) | rfl) ?_
  intro p e s m below meth c s₁ P X0 hx hby hml hret hlk hown hnm hZ e0 hf
  have hml : c.maxLocals = 9 := hml
  have N0 := Fr.nil n0
  have K0 : Keep h0 h0 [] := Keep.refl _ _
  refine g_iconst (pc' := 1) (v := (3 : Int32)) X0 hx hby own_d1_0 rfl rfl ?_
  refine g_newA (pc' := 3) X0 hx hby hZ (aty := .double) (cap := 3) (hw _ (List.mem_of_getElem? (i := 4) rfl)) e0 rfl (by decide) (by decide) (by decide) (by decide) (by decide) own_d1_1 rfl 3 ?_
  intro T1 h1 kc1 rr X1 e1 E1 V1 q1
  have ge1 : n0 ≤ rr := by rw [q1]; exact Z0
  have kp1 : h0.size ≤ rr := by rw [q1]; exact K0.1
  have f1 : Arv Z h1 rr kc1 .double (3 : Int32) [(.double (0 : UInt64)), (.double (0 : UInt64)), (.double (0 : UInt64))] (.double (0 : UInt64)) := V1
  have z1 := Nat.le_trans Z0 E1.1
  have K1 := K0.ext E1
  refine g_astore (pc' := 5) (Ls' := #[.val (.int (1 : Int32)), .val (.int (2 : Int32)), .val (.double x), .second, .val (.double y), .second, .val (.double z), .second, .val (.ref rr)]) X1 hx hby own_d1_3 rfl rfl rfl rfl ?_
  refine g_aload (pc' := 7) X1 hx hby (v := (.ref rr)) own_d1_5 rfl rfl rfl ?_
  refine g_iloadN (pc' := 8) X1 hx hby (v := (1 : Int32)) own_d1_7 rfl rfl ?_
  refine g_dloadN (pc' := 9) X1 hx hby (v := x) own_d1_8 rfl rfl ?_
  refine g_stD (pc' := 10) X1 hx hby hZ e1 f1 ⟨by decide, by decide⟩ 1 rfl (Nat.le_of_ble_eq_true rfl) rfl own_d1_9 rfl N0 ge1 ?_
  intro T2 h2 X2 e2 W2 N2 V2
  have z2 := Nat.le_trans z1 (Keep.of_wr W2).1
  have K2 := K1.wr W2 (Or.inr kp1)
  have f2 : Arv Z h2 rr kc1 .double (3 : Int32) [(.double (0 : UInt64)), (.double x), (.double (0 : UInt64))] (.double (0 : UInt64)) := V2
  refine g_aload (pc' := 12) X2 hx hby (v := (.ref rr)) own_d1_10 rfl rfl rfl ?_
  refine g_iloadN (pc' := 13) X2 hx hby (v := (2 : Int32)) own_d1_12 rfl rfl ?_
  refine g_dload (pc' := 15) X2 hx hby (v := y) own_d1_13 rfl rfl ?_
  refine g_stD (pc' := 16) X2 hx hby hZ e2 f2 ⟨by decide, by decide⟩ 2 rfl (Nat.le_of_ble_eq_true rfl) rfl own_d1_15 rfl N2 ge1 ?_
  intro T3 h3 X3 e3 W3 N3 V3
  have z3 := Nat.le_trans z2 (Keep.of_wr W3).1
  have K3 := K2.wr W3 (Or.inr kp1)
  have f3 : Arv Z h3 rr kc1 .double (3 : Int32) [(.double (0 : UInt64)), (.double x), (.double y)] (.double (0 : UInt64)) := V3
  refine g_aload (pc' := 18) X3 hx hby (v := (.ref rr)) own_d1_16 rfl rfl rfl ?_
  refine g_iconst (pc' := 19) (v := (3 : Int32)) X3 hx hby own_d1_18 rfl rfl ?_
  refine g_iloadN (pc' := 20) X3 hx hby (v := (1 : Int32)) own_d1_19 rfl rfl ?_
  refine g_isub (pc' := 21) (v := (2 : Int32)) X3 hx hby own_d1_20 rfl rfl rfl ?_
  refine g_iloadN (pc' := 22) X3 hx hby (v := (2 : Int32)) own_d1_21 rfl rfl ?_
  refine g_isub (pc' := 23) (v := (0 : Int32)) X3 hx hby own_d1_22 rfl rfl rfl ?_
  refine g_dload (pc' := 25) X3 hx hby (v := z) own_d1_23 rfl rfl ?_
  refine g_stD (pc' := 26) X3 hx hby hZ e3 f3 ⟨by decide, by decide⟩ 0 rfl (Nat.le_of_ble_eq_true rfl) rfl own_d1_25 rfl N3 ge1 ?_
  intro T4 h4 X4 e4 W4 N4 V4
  have z4 := Nat.le_trans z3 (Keep.of_wr W4).1
  have K4 := K3.wr W4 (Or.inr kp1)
  have f4 : Arv Z h4 rr kc1 .double (3 : Int32) [(.double z), (.double x), (.double y)] (.double (0 : UInt64)) := V4
  refine g_aload (pc' := 28) X4 hx hby (v := (.ref rr)) own_d1_26 rfl rfl rfl ?_
  exact g_retV X4 hx hby hf hlk hret own_d1_28 rfl rfl (Or.inr (Or.inr (Or.inr (Or.inr ⟨rfl, rfl, rfl⟩)))) (by decide) (by decide) e4 ⟨rr, kc1, rfl, N4, K4, kp1, f4⟩
def own_Q1_20 (Z : State) (x : UInt64) (y : UInt64) (z : UInt64) (h0 : Heap) (n0 : Nat) (v : Option Value) (h : Heap) (L : List Loc) : Prop := ∃ (r : Addr), ∃ (kA : ClassId), v = some (.ref r) ∧ Fr n0 L ∧ Keep h0 h [] ∧ h0.size ≤ r ∧ Arv Z h r kA .double (3 : Int32) [(.double (own_pl (2 : Int32) (0 : Int32) x y z (0 : Int32))), (.double (own_pl (2 : Int32) (0 : Int32) x y z (1 : Int32))), (.double (own_pl (2 : Int32) (0 : Int32) x y z (2 : Int32)))] (.double (0 : UInt64))
set_option maxRecDepth 65536 in
set_option maxHeartbeats 40000000 in
theorem own_rm1_20 (l : Launch) (Z : State) (a0 : Array Value) (hw : ∀ d ∈ tables_1, d.before a0 Z = true) (ws : List Jvm.Cond) (x : UInt64) (y : UInt64) (z : UInt64) (h0 : Heap) (n0 : Nat) (Z0 : n0 ≤ h0.size) :
    Con l Z (⟨"com/example/stochastic_ray_tracer/stochasticraytracer/TextureCoordinatesUPinLaw", "place", "(IIDDD)[D"⟩ : MethodName) method_3_code 9 (some (.array .double)) ws ({ frames := 0, cells := 1, slots := 3, locals := 0 } : Room) #[(.int (2 : Int32)), (.int (0 : Int32)), (.double x), (.double y), (.double z)] h0 (own_Q1_20 Z x y z h0 n0) := by
  refine Con.start #[.val (.int (2 : Int32)), .val (.int (0 : Int32)), .val (.double x), .second, .val (.double y), .second, .val (.double z), .second, .unset] (plainFor_of_name own_pn0) (fun m => by first | (refine own_ef ?_; exact rfl) | (simp [entryFrame, mkF, argsToLocals, Value.category]; done) | rfl) ?_
  intro p e s m below meth c s₁ P X0 hx hby hml hret hlk hown hnm hZ e0 hf
  have hml : c.maxLocals = 9 := hml
  have N0 := Fr.nil n0
  have K0 : Keep h0 h0 [] := Keep.refl _ _
  refine g_iconst (pc' := 1) (v := (3 : Int32)) X0 hx hby own_d1_0 rfl rfl ?_
  refine g_newA (pc' := 3) X0 hx hby hZ (aty := .double) (cap := 3) (hw _ (List.mem_of_getElem? (i := 4) rfl)) e0 rfl (by decide) (by decide) (by decide) (by decide) (by decide) own_d1_1 rfl 3 ?_
  intro T1 h1 kc1 rr X1 e1 E1 V1 q1
  have ge1 : n0 ≤ rr := by rw [q1]; exact Z0
  have kp1 : h0.size ≤ rr := by rw [q1]; exact K0.1
  have f1 : Arv Z h1 rr kc1 .double (3 : Int32) [(.double (0 : UInt64)), (.double (0 : UInt64)), (.double (0 : UInt64))] (.double (0 : UInt64)) := V1
  have z1 := Nat.le_trans Z0 E1.1
  have K1 := K0.ext E1
  refine g_astore (pc' := 5) (Ls' := #[.val (.int (2 : Int32)), .val (.int (0 : Int32)), .val (.double x), .second, .val (.double y), .second, .val (.double z), .second, .val (.ref rr)]) X1 hx hby own_d1_3 rfl rfl rfl rfl ?_
  refine g_aload (pc' := 7) X1 hx hby (v := (.ref rr)) own_d1_5 rfl rfl rfl ?_
  refine g_iloadN (pc' := 8) X1 hx hby (v := (2 : Int32)) own_d1_7 rfl rfl ?_
  refine g_dloadN (pc' := 9) X1 hx hby (v := x) own_d1_8 rfl rfl ?_
  refine g_stD (pc' := 10) X1 hx hby hZ e1 f1 ⟨by decide, by decide⟩ 2 rfl (Nat.le_of_ble_eq_true rfl) rfl own_d1_9 rfl N0 ge1 ?_
  intro T2 h2 X2 e2 W2 N2 V2
  have z2 := Nat.le_trans z1 (Keep.of_wr W2).1
  have K2 := K1.wr W2 (Or.inr kp1)
  have f2 : Arv Z h2 rr kc1 .double (3 : Int32) [(.double (0 : UInt64)), (.double (0 : UInt64)), (.double x)] (.double (0 : UInt64)) := V2
  refine g_aload (pc' := 12) X2 hx hby (v := (.ref rr)) own_d1_10 rfl rfl rfl ?_
  refine g_iloadN (pc' := 13) X2 hx hby (v := (0 : Int32)) own_d1_12 rfl rfl ?_
  refine g_dload (pc' := 15) X2 hx hby (v := y) own_d1_13 rfl rfl ?_
  refine g_stD (pc' := 16) X2 hx hby hZ e2 f2 ⟨by decide, by decide⟩ 0 rfl (Nat.le_of_ble_eq_true rfl) rfl own_d1_15 rfl N2 ge1 ?_
  intro T3 h3 X3 e3 W3 N3 V3
  have z3 := Nat.le_trans z2 (Keep.of_wr W3).1
  have K3 := K2.wr W3 (Or.inr kp1)
  have f3 : Arv Z h3 rr kc1 .double (3 : Int32) [(.double y), (.double (0 : UInt64)), (.double x)] (.double (0 : UInt64)) := V3
  refine g_aload (pc' := 18) X3 hx hby (v := (.ref rr)) own_d1_16 rfl rfl rfl ?_
  refine g_iconst (pc' := 19) (v := (3 : Int32)) X3 hx hby own_d1_18 rfl rfl ?_
  refine g_iloadN (pc' := 20) X3 hx hby (v := (2 : Int32)) own_d1_19 rfl rfl ?_
  refine g_isub (pc' := 21) (v := (1 : Int32)) X3 hx hby own_d1_20 rfl rfl rfl ?_
  refine g_iloadN (pc' := 22) X3 hx hby (v := (0 : Int32)) own_d1_21 rfl rfl ?_
  refine g_isub (pc' := 23) (v := (1 : Int32)) X3 hx hby own_d1_22 rfl rfl rfl ?_
  refine g_dload (pc' := 25) X3 hx hby (v := z) own_d1_23 rfl rfl ?_
  refine g_stD (pc' := 26) X3 hx hby hZ e3 f3 ⟨by decide, by decide⟩ 1 rfl (Nat.le_of_ble_eq_true rfl) rfl own_d1_25 rfl N3 ge1 ?_
  intro T4 h4 X4 e4 W4 N4 V4
  have z4 := Nat.le_trans z3 (Keep.of_wr W4).1
  have K4 := K3.wr W4 (Or.inr kp1)
  have f4 : Arv Z h4 rr kc1 .double (3 : Int32) [(.double y), (.double z), (.double x)] (.double (0 : UInt64)) := V4
  refine g_aload (pc' := 28) X4 hx hby (v := (.ref rr)) own_d1_26 rfl rfl rfl ?_
  exact g_retV X4 hx hby hf hlk hret own_d1_28 rfl rfl (Or.inr (Or.inr (Or.inr (Or.inr ⟨rfl, rfl, rfl⟩)))) (by decide) (by decide) e4 ⟨rr, kc1, rfl, N4, K4, kp1, f4⟩
def own_Q1_02 (Z : State) (x : UInt64) (y : UInt64) (z : UInt64) (h0 : Heap) (n0 : Nat) (v : Option Value) (h : Heap) (L : List Loc) : Prop := ∃ (r : Addr), ∃ (kA : ClassId), v = some (.ref r) ∧ Fr n0 L ∧ Keep h0 h [] ∧ h0.size ≤ r ∧ Arv Z h r kA .double (3 : Int32) [(.double (own_pl (0 : Int32) (2 : Int32) x y z (0 : Int32))), (.double (own_pl (0 : Int32) (2 : Int32) x y z (1 : Int32))), (.double (own_pl (0 : Int32) (2 : Int32) x y z (2 : Int32)))] (.double (0 : UInt64))
set_option maxRecDepth 65536 in
set_option maxHeartbeats 40000000 in
theorem own_rm1_02 (l : Launch) (Z : State) (a0 : Array Value) (hw : ∀ d ∈ tables_1, d.before a0 Z = true) (ws : List Jvm.Cond) (x : UInt64) (y : UInt64) (z : UInt64) (h0 : Heap) (n0 : Nat) (Z0 : n0 ≤ h0.size) :
    Con l Z (⟨"com/example/stochastic_ray_tracer/stochasticraytracer/TextureCoordinatesUPinLaw", "place", "(IIDDD)[D"⟩ : MethodName) method_3_code 9 (some (.array .double)) ws ({ frames := 0, cells := 1, slots := 3, locals := 0 } : Room) #[(.int (0 : Int32)), (.int (2 : Int32)), (.double x), (.double y), (.double z)] h0 (own_Q1_02 Z x y z h0 n0) := by
  refine Con.start #[.val (.int (0 : Int32)), .val (.int (2 : Int32)), .val (.double x), .second, .val (.double y), .second, .val (.double z), .second, .unset] (plainFor_of_name own_pn0) (fun m => by first | (refine own_ef ?_; exact rfl) | (simp [entryFrame, mkF, argsToLocals, Value.category]; done) | rfl) ?_
  intro p e s m below meth c s₁ P X0 hx hby hml hret hlk hown hnm hZ e0 hf
  have hml : c.maxLocals = 9 := hml
  have N0 := Fr.nil n0
  have K0 : Keep h0 h0 [] := Keep.refl _ _
  refine g_iconst (pc' := 1) (v := (3 : Int32)) X0 hx hby own_d1_0 rfl rfl ?_
  refine g_newA (pc' := 3) X0 hx hby hZ (aty := .double) (cap := 3) (hw _ (List.mem_of_getElem? (i := 4) rfl)) e0 rfl (by decide) (by decide) (by decide) (by decide) (by decide) own_d1_1 rfl 3 ?_
  intro T1 h1 kc1 rr X1 e1 E1 V1 q1
  have ge1 : n0 ≤ rr := by rw [q1]; exact Z0
  have kp1 : h0.size ≤ rr := by rw [q1]; exact K0.1
  have f1 : Arv Z h1 rr kc1 .double (3 : Int32) [(.double (0 : UInt64)), (.double (0 : UInt64)), (.double (0 : UInt64))] (.double (0 : UInt64)) := V1
  have z1 := Nat.le_trans Z0 E1.1
  have K1 := K0.ext E1
  refine g_astore (pc' := 5) (Ls' := #[.val (.int (0 : Int32)), .val (.int (2 : Int32)), .val (.double x), .second, .val (.double y), .second, .val (.double z), .second, .val (.ref rr)]) X1 hx hby own_d1_3 rfl rfl rfl rfl ?_
  refine g_aload (pc' := 7) X1 hx hby (v := (.ref rr)) own_d1_5 rfl rfl rfl ?_
  refine g_iloadN (pc' := 8) X1 hx hby (v := (0 : Int32)) own_d1_7 rfl rfl ?_
  refine g_dloadN (pc' := 9) X1 hx hby (v := x) own_d1_8 rfl rfl ?_
  refine g_stD (pc' := 10) X1 hx hby hZ e1 f1 ⟨by decide, by decide⟩ 0 rfl (Nat.le_of_ble_eq_true rfl) rfl own_d1_9 rfl N0 ge1 ?_
  intro T2 h2 X2 e2 W2 N2 V2
  have z2 := Nat.le_trans z1 (Keep.of_wr W2).1
  have K2 := K1.wr W2 (Or.inr kp1)
  have f2 : Arv Z h2 rr kc1 .double (3 : Int32) [(.double x), (.double (0 : UInt64)), (.double (0 : UInt64))] (.double (0 : UInt64)) := V2
  refine g_aload (pc' := 12) X2 hx hby (v := (.ref rr)) own_d1_10 rfl rfl rfl ?_
  refine g_iloadN (pc' := 13) X2 hx hby (v := (2 : Int32)) own_d1_12 rfl rfl ?_
  refine g_dload (pc' := 15) X2 hx hby (v := y) own_d1_13 rfl rfl ?_
  refine g_stD (pc' := 16) X2 hx hby hZ e2 f2 ⟨by decide, by decide⟩ 2 rfl (Nat.le_of_ble_eq_true rfl) rfl own_d1_15 rfl N2 ge1 ?_
  intro T3 h3 X3 e3 W3 N3 V3
  have z3 := Nat.le_trans z2 (Keep.of_wr W3).1
  have K3 := K2.wr W3 (Or.inr kp1)
  have f3 : Arv Z h3 rr kc1 .double (3 : Int32) [(.double x), (.double (0 : UInt64)), (.double y)] (.double (0 : UInt64)) := V3
  refine g_aload (pc' := 18) X3 hx hby (v := (.ref rr)) own_d1_16 rfl rfl rfl ?_
  refine g_iconst (pc' := 19) (v := (3 : Int32)) X3 hx hby own_d1_18 rfl rfl ?_
  refine g_iloadN (pc' := 20) X3 hx hby (v := (0 : Int32)) own_d1_19 rfl rfl ?_
  refine g_isub (pc' := 21) (v := (3 : Int32)) X3 hx hby own_d1_20 rfl rfl rfl ?_
  refine g_iloadN (pc' := 22) X3 hx hby (v := (2 : Int32)) own_d1_21 rfl rfl ?_
  refine g_isub (pc' := 23) (v := (1 : Int32)) X3 hx hby own_d1_22 rfl rfl rfl ?_
  refine g_dload (pc' := 25) X3 hx hby (v := z) own_d1_23 rfl rfl ?_
  refine g_stD (pc' := 26) X3 hx hby hZ e3 f3 ⟨by decide, by decide⟩ 1 rfl (Nat.le_of_ble_eq_true rfl) rfl own_d1_25 rfl N3 ge1 ?_
  intro T4 h4 X4 e4 W4 N4 V4
  have z4 := Nat.le_trans z3 (Keep.of_wr W4).1
  have K4 := K3.wr W4 (Or.inr kp1)
  have f4 : Arv Z h4 rr kc1 .double (3 : Int32) [(.double x), (.double z), (.double y)] (.double (0 : UInt64)) := V4
  refine g_aload (pc' := 28) X4 hx hby (v := (.ref rr)) own_d1_26 rfl rfl rfl ?_
  exact g_retV X4 hx hby hf hlk hret own_d1_28 rfl rfl (Or.inr (Or.inr (Or.inr (Or.inr ⟨rfl, rfl, rfl⟩)))) (by decide) (by decide) e4 ⟨rr, kc1, rfl, N4, K4, kp1, f4⟩
def own_Q1_10 (Z : State) (x : UInt64) (y : UInt64) (z : UInt64) (h0 : Heap) (n0 : Nat) (v : Option Value) (h : Heap) (L : List Loc) : Prop := ∃ (r : Addr), ∃ (kA : ClassId), v = some (.ref r) ∧ Fr n0 L ∧ Keep h0 h [] ∧ h0.size ≤ r ∧ Arv Z h r kA .double (3 : Int32) [(.double (own_pl (1 : Int32) (0 : Int32) x y z (0 : Int32))), (.double (own_pl (1 : Int32) (0 : Int32) x y z (1 : Int32))), (.double (own_pl (1 : Int32) (0 : Int32) x y z (2 : Int32)))] (.double (0 : UInt64))
set_option maxRecDepth 65536 in
set_option maxHeartbeats 40000000 in
theorem own_rm1_10 (l : Launch) (Z : State) (a0 : Array Value) (hw : ∀ d ∈ tables_1, d.before a0 Z = true) (ws : List Jvm.Cond) (x : UInt64) (y : UInt64) (z : UInt64) (h0 : Heap) (n0 : Nat) (Z0 : n0 ≤ h0.size) :
    Con l Z (⟨"com/example/stochastic_ray_tracer/stochasticraytracer/TextureCoordinatesUPinLaw", "place", "(IIDDD)[D"⟩ : MethodName) method_3_code 9 (some (.array .double)) ws ({ frames := 0, cells := 1, slots := 3, locals := 0 } : Room) #[(.int (1 : Int32)), (.int (0 : Int32)), (.double x), (.double y), (.double z)] h0 (own_Q1_10 Z x y z h0 n0) := by
  refine Con.start #[.val (.int (1 : Int32)), .val (.int (0 : Int32)), .val (.double x), .second, .val (.double y), .second, .val (.double z), .second, .unset] (plainFor_of_name own_pn0) (fun m => by first | (refine own_ef ?_; exact rfl) | (simp [entryFrame, mkF, argsToLocals, Value.category]; done) | rfl) ?_
  intro p e s m below meth c s₁ P X0 hx hby hml hret hlk hown hnm hZ e0 hf
  have hml : c.maxLocals = 9 := hml
  have N0 := Fr.nil n0
  have K0 : Keep h0 h0 [] := Keep.refl _ _
  refine g_iconst (pc' := 1) (v := (3 : Int32)) X0 hx hby own_d1_0 rfl rfl ?_
  refine g_newA (pc' := 3) X0 hx hby hZ (aty := .double) (cap := 3) (hw _ (List.mem_of_getElem? (i := 4) rfl)) e0 rfl (by decide) (by decide) (by decide) (by decide) (by decide) own_d1_1 rfl 3 ?_
  intro T1 h1 kc1 rr X1 e1 E1 V1 q1
  have ge1 : n0 ≤ rr := by rw [q1]; exact Z0
  have kp1 : h0.size ≤ rr := by rw [q1]; exact K0.1
  have f1 : Arv Z h1 rr kc1 .double (3 : Int32) [(.double (0 : UInt64)), (.double (0 : UInt64)), (.double (0 : UInt64))] (.double (0 : UInt64)) := V1
  have z1 := Nat.le_trans Z0 E1.1
  have K1 := K0.ext E1
  refine g_astore (pc' := 5) (Ls' := #[.val (.int (1 : Int32)), .val (.int (0 : Int32)), .val (.double x), .second, .val (.double y), .second, .val (.double z), .second, .val (.ref rr)]) X1 hx hby own_d1_3 rfl rfl rfl rfl ?_
  refine g_aload (pc' := 7) X1 hx hby (v := (.ref rr)) own_d1_5 rfl rfl rfl ?_
  refine g_iloadN (pc' := 8) X1 hx hby (v := (1 : Int32)) own_d1_7 rfl rfl ?_
  refine g_dloadN (pc' := 9) X1 hx hby (v := x) own_d1_8 rfl rfl ?_
  refine g_stD (pc' := 10) X1 hx hby hZ e1 f1 ⟨by decide, by decide⟩ 1 rfl (Nat.le_of_ble_eq_true rfl) rfl own_d1_9 rfl N0 ge1 ?_
  intro T2 h2 X2 e2 W2 N2 V2
  have z2 := Nat.le_trans z1 (Keep.of_wr W2).1
  have K2 := K1.wr W2 (Or.inr kp1)
  have f2 : Arv Z h2 rr kc1 .double (3 : Int32) [(.double (0 : UInt64)), (.double x), (.double (0 : UInt64))] (.double (0 : UInt64)) := V2
  refine g_aload (pc' := 12) X2 hx hby (v := (.ref rr)) own_d1_10 rfl rfl rfl ?_
  refine g_iloadN (pc' := 13) X2 hx hby (v := (0 : Int32)) own_d1_12 rfl rfl ?_
  refine g_dload (pc' := 15) X2 hx hby (v := y) own_d1_13 rfl rfl ?_
  refine g_stD (pc' := 16) X2 hx hby hZ e2 f2 ⟨by decide, by decide⟩ 0 rfl (Nat.le_of_ble_eq_true rfl) rfl own_d1_15 rfl N2 ge1 ?_
  intro T3 h3 X3 e3 W3 N3 V3
  have z3 := Nat.le_trans z2 (Keep.of_wr W3).1
  have K3 := K2.wr W3 (Or.inr kp1)
  have f3 : Arv Z h3 rr kc1 .double (3 : Int32) [(.double y), (.double x), (.double (0 : UInt64))] (.double (0 : UInt64)) := V3
  refine g_aload (pc' := 18) X3 hx hby (v := (.ref rr)) own_d1_16 rfl rfl rfl ?_
  refine g_iconst (pc' := 19) (v := (3 : Int32)) X3 hx hby own_d1_18 rfl rfl ?_
  refine g_iloadN (pc' := 20) X3 hx hby (v := (1 : Int32)) own_d1_19 rfl rfl ?_
  refine g_isub (pc' := 21) (v := (2 : Int32)) X3 hx hby own_d1_20 rfl rfl rfl ?_
  refine g_iloadN (pc' := 22) X3 hx hby (v := (0 : Int32)) own_d1_21 rfl rfl ?_
  refine g_isub (pc' := 23) (v := (2 : Int32)) X3 hx hby own_d1_22 rfl rfl rfl ?_
  refine g_dload (pc' := 25) X3 hx hby (v := z) own_d1_23 rfl rfl ?_
  refine g_stD (pc' := 26) X3 hx hby hZ e3 f3 ⟨by decide, by decide⟩ 2 rfl (Nat.le_of_ble_eq_true rfl) rfl own_d1_25 rfl N3 ge1 ?_
  intro T4 h4 X4 e4 W4 N4 V4
  have z4 := Nat.le_trans z3 (Keep.of_wr W4).1
  have K4 := K3.wr W4 (Or.inr kp1)
  have f4 : Arv Z h4 rr kc1 .double (3 : Int32) [(.double y), (.double x), (.double z)] (.double (0 : UInt64)) := V4
  refine g_aload (pc' := 28) X4 hx hby (v := (.ref rr)) own_d1_26 rfl rfl rfl ?_
  exact g_retV X4 hx hby hf hlk hret own_d1_28 rfl rfl (Or.inr (Or.inr (Or.inr (Or.inr ⟨rfl, rfl, rfl⟩)))) (by decide) (by decide) e4 ⟨rr, kc1, rfl, N4, K4, kp1, f4⟩
def own_Q1_21 (Z : State) (x : UInt64) (y : UInt64) (z : UInt64) (h0 : Heap) (n0 : Nat) (v : Option Value) (h : Heap) (L : List Loc) : Prop := ∃ (r : Addr), ∃ (kA : ClassId), v = some (.ref r) ∧ Fr n0 L ∧ Keep h0 h [] ∧ h0.size ≤ r ∧ Arv Z h r kA .double (3 : Int32) [(.double (own_pl (2 : Int32) (1 : Int32) x y z (0 : Int32))), (.double (own_pl (2 : Int32) (1 : Int32) x y z (1 : Int32))), (.double (own_pl (2 : Int32) (1 : Int32) x y z (2 : Int32)))] (.double (0 : UInt64))
set_option maxRecDepth 65536 in
set_option maxHeartbeats 40000000 in
theorem own_rm1_21 (l : Launch) (Z : State) (a0 : Array Value) (hw : ∀ d ∈ tables_1, d.before a0 Z = true) (ws : List Jvm.Cond) (x : UInt64) (y : UInt64) (z : UInt64) (h0 : Heap) (n0 : Nat) (Z0 : n0 ≤ h0.size) :
    Con l Z (⟨"com/example/stochastic_ray_tracer/stochasticraytracer/TextureCoordinatesUPinLaw", "place", "(IIDDD)[D"⟩ : MethodName) method_3_code 9 (some (.array .double)) ws ({ frames := 0, cells := 1, slots := 3, locals := 0 } : Room) #[(.int (2 : Int32)), (.int (1 : Int32)), (.double x), (.double y), (.double z)] h0 (own_Q1_21 Z x y z h0 n0) := by
  refine Con.start #[.val (.int (2 : Int32)), .val (.int (1 : Int32)), .val (.double x), .second, .val (.double y), .second, .val (.double z), .second, .unset] (plainFor_of_name own_pn0) (fun m => by first | (refine own_ef ?_; exact rfl) | (simp [entryFrame, mkF, argsToLocals, Value.category]; done) | rfl) ?_
  intro p e s m below meth c s₁ P X0 hx hby hml hret hlk hown hnm hZ e0 hf
  have hml : c.maxLocals = 9 := hml
  have N0 := Fr.nil n0
  have K0 : Keep h0 h0 [] := Keep.refl _ _
  refine g_iconst (pc' := 1) (v := (3 : Int32)) X0 hx hby own_d1_0 rfl rfl ?_
  refine g_newA (pc' := 3) X0 hx hby hZ (aty := .double) (cap := 3) (hw _ (List.mem_of_getElem? (i := 4) rfl)) e0 rfl (by decide) (by decide) (by decide) (by decide) (by decide) own_d1_1 rfl 3 ?_
  intro T1 h1 kc1 rr X1 e1 E1 V1 q1
  have ge1 : n0 ≤ rr := by rw [q1]; exact Z0
  have kp1 : h0.size ≤ rr := by rw [q1]; exact K0.1
  have f1 : Arv Z h1 rr kc1 .double (3 : Int32) [(.double (0 : UInt64)), (.double (0 : UInt64)), (.double (0 : UInt64))] (.double (0 : UInt64)) := V1
  have z1 := Nat.le_trans Z0 E1.1
  have K1 := K0.ext E1
  refine g_astore (pc' := 5) (Ls' := #[.val (.int (2 : Int32)), .val (.int (1 : Int32)), .val (.double x), .second, .val (.double y), .second, .val (.double z), .second, .val (.ref rr)]) X1 hx hby own_d1_3 rfl rfl rfl rfl ?_
  refine g_aload (pc' := 7) X1 hx hby (v := (.ref rr)) own_d1_5 rfl rfl rfl ?_
  refine g_iloadN (pc' := 8) X1 hx hby (v := (2 : Int32)) own_d1_7 rfl rfl ?_
  refine g_dloadN (pc' := 9) X1 hx hby (v := x) own_d1_8 rfl rfl ?_
  refine g_stD (pc' := 10) X1 hx hby hZ e1 f1 ⟨by decide, by decide⟩ 2 rfl (Nat.le_of_ble_eq_true rfl) rfl own_d1_9 rfl N0 ge1 ?_
  intro T2 h2 X2 e2 W2 N2 V2
  have z2 := Nat.le_trans z1 (Keep.of_wr W2).1
  have K2 := K1.wr W2 (Or.inr kp1)
  have f2 : Arv Z h2 rr kc1 .double (3 : Int32) [(.double (0 : UInt64)), (.double (0 : UInt64)), (.double x)] (.double (0 : UInt64)) := V2
  refine g_aload (pc' := 12) X2 hx hby (v := (.ref rr)) own_d1_10 rfl rfl rfl ?_
  refine g_iloadN (pc' := 13) X2 hx hby (v := (1 : Int32)) own_d1_12 rfl rfl ?_
  refine g_dload (pc' := 15) X2 hx hby (v := y) own_d1_13 rfl rfl ?_
  refine g_stD (pc' := 16) X2 hx hby hZ e2 f2 ⟨by decide, by decide⟩ 1 rfl (Nat.le_of_ble_eq_true rfl) rfl own_d1_15 rfl N2 ge1 ?_
  intro T3 h3 X3 e3 W3 N3 V3
  have z3 := Nat.le_trans z2 (Keep.of_wr W3).1
  have K3 := K2.wr W3 (Or.inr kp1)
  have f3 : Arv Z h3 rr kc1 .double (3 : Int32) [(.double (0 : UInt64)), (.double y), (.double x)] (.double (0 : UInt64)) := V3
  refine g_aload (pc' := 18) X3 hx hby (v := (.ref rr)) own_d1_16 rfl rfl rfl ?_
  refine g_iconst (pc' := 19) (v := (3 : Int32)) X3 hx hby own_d1_18 rfl rfl ?_
  refine g_iloadN (pc' := 20) X3 hx hby (v := (2 : Int32)) own_d1_19 rfl rfl ?_
  refine g_isub (pc' := 21) (v := (1 : Int32)) X3 hx hby own_d1_20 rfl rfl rfl ?_
  refine g_iloadN (pc' := 22) X3 hx hby (v := (1 : Int32)) own_d1_21 rfl rfl ?_
  refine g_isub (pc' := 23) (v := (0 : Int32)) X3 hx hby own_d1_22 rfl rfl rfl ?_
  refine g_dload (pc' := 25) X3 hx hby (v := z) own_d1_23 rfl rfl ?_
  refine g_stD (pc' := 26) X3 hx hby hZ e3 f3 ⟨by decide, by decide⟩ 0 rfl (Nat.le_of_ble_eq_true rfl) rfl own_d1_25 rfl N3 ge1 ?_
  intro T4 h4 X4 e4 W4 N4 V4
  have z4 := Nat.le_trans z3 (Keep.of_wr W4).1
  have K4 := K3.wr W4 (Or.inr kp1)
  have f4 : Arv Z h4 rr kc1 .double (3 : Int32) [(.double z), (.double y), (.double x)] (.double (0 : UInt64)) := V4
  refine g_aload (pc' := 28) X4 hx hby (v := (.ref rr)) own_d1_26 rfl rfl rfl ?_
  exact g_retV X4 hx hby hf hlk hret own_d1_28 rfl rfl (Or.inr (Or.inr (Or.inr (Or.inr ⟨rfl, rfl, rfl⟩)))) (by decide) (by decide) e4 ⟨rr, kc1, rfl, N4, K4, kp1, f4⟩
def own_Q1 (Z : State) (a : Int32) (b : Int32) (x : UInt64) (y : UInt64) (z : UInt64) (h0 : Heap) (n0 : Nat) (v : Option Value) (h : Heap) (L : List Loc) : Prop := ∃ (r : Addr), ∃ (kA : ClassId), v = some (.ref r) ∧ Fr n0 L ∧ Keep h0 h [] ∧ h0.size ≤ r ∧ Arv Z h r kA .double (3 : Int32) [(.double (own_pl a b x y z (0 : Int32))), (.double (own_pl a b x y z (1 : Int32))), (.double (own_pl a b x y z (2 : Int32)))] (.double (0 : UInt64))
set_option maxRecDepth 65536 in
set_option maxHeartbeats 40000000 in
theorem own_rm1 (l : Launch) (Z : State) (a0 : Array Value) (hw : ∀ d ∈ tables_1, d.before a0 Z = true) (ws : List Jvm.Cond) (a : Int32) (b : Int32) (x : UInt64) (y : UInt64) (z : UInt64) (h0 : Heap) (n0 : Nat) (Z0 : n0 ≤ h0.size) (hab : own_ab a b) :
    Con l Z (⟨"com/example/stochastic_ray_tracer/stochasticraytracer/TextureCoordinatesUPinLaw", "place", "(IIDDD)[D"⟩ : MethodName) method_3_code 9 (some (.array .double)) ws ({ frames := 0, cells := 1, slots := 3, locals := 0 } : Room) #[(.int a), (.int b), (.double x), (.double y), (.double z)] h0 (own_Q1 Z a b x y z h0 n0) := by
  rcases hab with ⟨rfl, rfl⟩ | ⟨rfl, rfl⟩ | ⟨rfl, rfl⟩ | ⟨rfl, rfl⟩ | ⟨rfl, rfl⟩ | ⟨rfl, rfl⟩
  · exact own_rm1_01 l Z a0 hw ws x y z h0 n0 Z0
  · exact own_rm1_12 l Z a0 hw ws x y z h0 n0 Z0
  · exact own_rm1_20 l Z a0 hw ws x y z h0 n0 Z0
  · exact own_rm1_02 l Z a0 hw ws x y z h0 n0 Z0
  · exact own_rm1_10 l Z a0 hw ws x y z h0 n0 Z0
  · exact own_rm1_21 l Z a0 hw ws x y z h0 n0 Z0
theorem own_d2_0 : decode prog_72_method_1_code 0 = .ok (.aload_n 0, 1) := by decide +kernel
theorem own_d2_1 : decode prog_72_method_1_code 1 = .ok (.invokespecial 1, 3) := by decide +kernel
theorem own_d2_4 : decode prog_72_method_1_code 4 = .ok (.aload_n 0, 1) := by decide +kernel
theorem own_d2_5 : decode prog_72_method_1_code 5 = .ok (.dload_n 1, 1) := by decide +kernel
theorem own_d2_6 : decode prog_72_method_1_code 6 = .ok (.putfield 7, 3) := by decide +kernel
theorem own_d2_9 : decode prog_72_method_1_code 9 = .ok (.aload_n 0, 1) := by decide +kernel
theorem own_d2_10 : decode prog_72_method_1_code 10 = .ok (.dload_n 3, 1) := by decide +kernel
theorem own_d2_11 : decode prog_72_method_1_code 11 = .ok (.putfield 13, 3) := by decide +kernel
theorem own_d2_14 : decode prog_72_method_1_code 14 = .ok (.aload_n 0, 1) := by decide +kernel
theorem own_d2_15 : decode prog_72_method_1_code 15 = .ok (.dload 5, 2) := by decide +kernel
theorem own_d2_17 : decode prog_72_method_1_code 17 = .ok (.putfield 16, 3) := by decide +kernel
theorem own_d2_20 : decode prog_72_method_1_code 20 = .ok (.return_, 1) := by decide +kernel
def own_Q2 (Z : State) (a : Addr) (x : UInt64) (y : UInt64) (z : UInt64) (h0 : Heap) (n0 : Nat) (v : Option Value) (h : Heap) (L : List Loc) : Prop := v = none ∧ Fr n0 L ∧ Keep h0 h [a] ∧ Exa Z h a "com/example/stochastic_ray_tracer/stochasticraytracer/Vec3" ∧ Fld Z h a "com/example/stochastic_ray_tracer/stochasticraytracer/Vec3" "x" "D" (.double x) ∧ Fld Z h a "com/example/stochastic_ray_tracer/stochasticraytracer/Vec3" "y" "D" (.double y) ∧ Fld Z h a "com/example/stochastic_ray_tracer/stochasticraytracer/Vec3" "z" "D" (.double z)
set_option maxRecDepth 65536 in
set_option maxHeartbeats 40000000 in
theorem own_rm2 (l : Launch) (Z : State) (a0 : Array Value) (hw : ∀ d ∈ tables_1, d.before a0 Z = true) (ws : List Jvm.Cond) (a : Addr) (x : UInt64) (y : UInt64) (z : UInt64) (h0 : Heap) (n0 : Nat) (Z0 : n0 ≤ h0.size) (c0 : Exa Z h0 a "com/example/stochastic_ray_tracer/stochasticraytracer/Vec3") (c1 : Fld Z h0 a "com/example/stochastic_ray_tracer/stochasticraytracer/Vec3" "x" "D" (.double (0 : UInt64))) (c2 : Fld Z h0 a "com/example/stochastic_ray_tracer/stochasticraytracer/Vec3" "y" "D" (.double (0 : UInt64))) (c3 : Fld Z h0 a "com/example/stochastic_ray_tracer/stochasticraytracer/Vec3" "z" "D" (.double (0 : UInt64))) (c4 : n0 ≤ a) :
    Con l Z (⟨"com/example/stochastic_ray_tracer/stochasticraytracer/Vec3", "<init>", "(DDD)V"⟩ : MethodName) prog_72_method_1_code 7 none ws ({ frames := 1, cells := 0, slots := 0, locals := 12 } : Room) #[(.ref a), (.double x), (.double y), (.double z)] h0 (own_Q2 Z a x y z h0 n0) := by
  refine Con.start #[.val (.ref a), .val (.double x), .second, .val (.double y), .second, .val (.double z), .second] (plainFor_of_name own_pn1) (fun m => by first | (refine own_ef ?_; exact rfl) | (simp [entryFrame, mkF, argsToLocals, Value.category]; done) | rfl) ?_
  intro p e s m below meth c s₁ P X0 hx hby hml hret hlk hown hnm hZ e0 hf
  have hml : c.maxLocals = 7 := hml
  have N0 := Fr.nil n0
  have K0 : Keep h0 h0 [a] := Keep.refl _ _
  refine g_aloadN (pc' := 1) X0 hx hby (v := (.ref a)) own_d2_0 rfl rfl rfl ?_
  refine g_initO (pc' := 4) X0 hx hby hZ hown (hw _ (List.mem_of_getElem? (i := 11) rfl)) (hw _ (List.mem_of_getElem? (i := 12) rfl)) (hw _ (List.mem_of_getElem? (i := 13) rfl)) e0 (by rw [hml]; rfl) rfl own_d2_1 rfl (by decide) (W := 0) rfl (by decide) ?_
  intro T1 X1 e1
  refine g_aloadN (pc' := 5) X1 hx hby (v := (.ref a)) own_d2_4 rfl rfl rfl ?_
  refine g_dloadN (pc' := 6) X1 hx hby (v := x) own_d2_5 rfl rfl ?_
  refine g_putF (pc' := 9) X1 hx hby hZ hown (host := "") (Or.inl (hw _ (List.mem_of_getElem? (i := 14) rfl))) Via.refl e1 c1 c0 (Or.inr ⟨(hw _ (List.mem_of_getElem? (i := 15) rfl)), rfl, hnm⟩) (hw _ (List.mem_of_getElem? (i := 6) rfl)) (ty := .double) own_fd0 rfl rfl rfl own_d2_6 rfl N0 c4 ?_
  intro T2 h2 X2 e2 W2 N2
  have f3 := c0.wr W2
  have f4 := c1.same W2
  have f5 := c2.other W2 (Or.inr (slot_ne (Or.inr (hw _ (List.mem_of_getElem? (i := 17) rfl))) (Or.inr (hw _ (List.mem_of_getElem? (i := 15) rfl))) own_nes0 own_fd0 own_fd0))
  have f6 := c3.other W2 (Or.inr (slot_ne (Or.inr (hw _ (List.mem_of_getElem? (i := 19) rfl))) (Or.inr (hw _ (List.mem_of_getElem? (i := 15) rfl))) own_nes1 own_fd0 own_fd0))
  have z2 := Nat.le_trans Z0 (Keep.of_wr W2).1
  have K2 := K0.wr W2 (Or.inl (List.mem_of_getElem? (i := 0) rfl))
  refine g_aloadN (pc' := 10) X2 hx hby (v := (.ref a)) own_d2_9 rfl rfl rfl ?_
  refine g_dloadN (pc' := 11) X2 hx hby (v := y) own_d2_10 rfl rfl ?_
  refine g_putF (pc' := 14) X2 hx hby hZ hown (host := "") (Or.inl (hw _ (List.mem_of_getElem? (i := 16) rfl))) Via.refl e2 f5 f3 (Or.inr ⟨(hw _ (List.mem_of_getElem? (i := 17) rfl)), rfl, hnm⟩) (hw _ (List.mem_of_getElem? (i := 6) rfl)) (ty := .double) own_fd0 rfl rfl rfl own_d2_11 rfl N2 c4 ?_
  intro T7 h7 X7 e7 W7 N7
  have f8 := f3.wr W7
  have f9 := f4.other W7 (Or.inr (slot_ne (Or.inr (hw _ (List.mem_of_getElem? (i := 15) rfl))) (Or.inr (hw _ (List.mem_of_getElem? (i := 17) rfl))) own_nes2 own_fd0 own_fd0))
  have f10 := f5.same W7
  have f11 := f6.other W7 (Or.inr (slot_ne (Or.inr (hw _ (List.mem_of_getElem? (i := 19) rfl))) (Or.inr (hw _ (List.mem_of_getElem? (i := 17) rfl))) own_nes3 own_fd0 own_fd0))
  have z7 := Nat.le_trans z2 (Keep.of_wr W7).1
  have K7 := K2.wr W7 (Or.inl (List.mem_of_getElem? (i := 0) rfl))
  refine g_aloadN (pc' := 15) X7 hx hby (v := (.ref a)) own_d2_14 rfl rfl rfl ?_
  refine g_dload (pc' := 17) X7 hx hby (v := z) own_d2_15 rfl rfl ?_
  refine g_putF (pc' := 20) X7 hx hby hZ hown (host := "") (Or.inl (hw _ (List.mem_of_getElem? (i := 18) rfl))) Via.refl e7 f11 f8 (Or.inr ⟨(hw _ (List.mem_of_getElem? (i := 19) rfl)), rfl, hnm⟩) (hw _ (List.mem_of_getElem? (i := 6) rfl)) (ty := .double) own_fd0 rfl rfl rfl own_d2_17 rfl N7 c4 ?_
  intro T12 h12 X12 e12 W12 N12
  have f13 := f8.wr W12
  have f14 := f9.other W12 (Or.inr (slot_ne (Or.inr (hw _ (List.mem_of_getElem? (i := 15) rfl))) (Or.inr (hw _ (List.mem_of_getElem? (i := 19) rfl))) own_nes4 own_fd0 own_fd0))
  have f15 := f10.other W12 (Or.inr (slot_ne (Or.inr (hw _ (List.mem_of_getElem? (i := 17) rfl))) (Or.inr (hw _ (List.mem_of_getElem? (i := 19) rfl))) own_nes5 own_fd0 own_fd0))
  have f16 := f11.same W12
  have z12 := Nat.le_trans z7 (Keep.of_wr W12).1
  have K12 := K7.wr W12 (Or.inl (List.mem_of_getElem? (i := 0) rfl))
  exact g_ret X12 hx hby hf hlk hret own_d2_20 rfl (by decide) (by decide) e12 ⟨rfl, N12, K12, f13, f14, f15, f16⟩
theorem own_d5_0 : decode prog_72_method_2_code 0 = .ok (.aload_n 0, 1) := by decide +kernel
theorem own_d5_1 : decode prog_72_method_2_code 1 = .ok (.getfield 7, 3) := by decide +kernel
theorem own_d5_4 : decode prog_72_method_2_code 4 = .ok (.dreturn, 1) := by decide +kernel
def own_Q5 (Z : State) (a : Addr) (w : UInt64) (h0 : Heap) (n0 : Nat) (v : Option Value) (h : Heap) (L : List Loc) : Prop := v = some (.double w) ∧ Fr n0 L ∧ h = h0
set_option maxRecDepth 65536 in
set_option maxHeartbeats 40000000 in
theorem own_rm5 (l : Launch) (Z : State) (a0 : Array Value) (hw : ∀ d ∈ tables_1, d.before a0 Z = true) (ws : List Jvm.Cond) (a : Addr) (w : UInt64) (h0 : Heap) (n0 : Nat) (Z0 : n0 ≤ h0.size) (c0 : Fld Z h0 a "com/example/stochastic_ray_tracer/stochasticraytracer/Vec3" "x" "D" (.double w)) :
    Con l Z (⟨"com/example/stochastic_ray_tracer/stochasticraytracer/Vec3", "x", "()D"⟩ : MethodName) prog_72_method_2_code 1 (some .double) ws ({ frames := 0, cells := 0, slots := 0, locals := 0 } : Room) #[(.ref a)] h0 (own_Q5 Z a w h0 n0) := by
  refine Con.start #[.val (.ref a)] (plainFor_of_name own_pn1) (fun m => by first | (refine own_ef ?_; exact rfl) | (simp [entryFrame, mkF, argsToLocals, Value.category]; done) | rfl) ?_
  intro p e s m below meth c s₁ P X0 hx hby hml hret hlk hown hnm hZ e0 hf
  have hml : c.maxLocals = 1 := hml
  have N0 := Fr.nil n0
  refine g_aloadN (pc' := 1) X0 hx hby (v := (.ref a)) own_d5_0 rfl rfl rfl ?_
  refine g_getF (pc' := 4) X0 hx hby hZ hown (host := "") (Or.inl (hw _ (List.mem_of_getElem? (i := 14) rfl))) Via.refl e0 c0 rfl own_d5_1 rfl ?_
  intro T1 X1 e1
  exact g_retV X1 hx hby hf hlk hret own_d5_4 rfl rfl (Or.inr (Or.inr (Or.inl ⟨rfl, rfl, _, rfl⟩))) (by decide) (by decide) e1 ⟨rfl, N0, rfl⟩
theorem own_d6_0 : decode prog_72_method_3_code 0 = .ok (.aload_n 0, 1) := by decide +kernel
theorem own_d6_1 : decode prog_72_method_3_code 1 = .ok (.getfield 13, 3) := by decide +kernel
theorem own_d6_4 : decode prog_72_method_3_code 4 = .ok (.dreturn, 1) := by decide +kernel
def own_Q6 (Z : State) (a : Addr) (w : UInt64) (h0 : Heap) (n0 : Nat) (v : Option Value) (h : Heap) (L : List Loc) : Prop := v = some (.double w) ∧ Fr n0 L ∧ h = h0
set_option maxRecDepth 65536 in
set_option maxHeartbeats 40000000 in
theorem own_rm6 (l : Launch) (Z : State) (a0 : Array Value) (hw : ∀ d ∈ tables_1, d.before a0 Z = true) (ws : List Jvm.Cond) (a : Addr) (w : UInt64) (h0 : Heap) (n0 : Nat) (Z0 : n0 ≤ h0.size) (c0 : Fld Z h0 a "com/example/stochastic_ray_tracer/stochasticraytracer/Vec3" "y" "D" (.double w)) :
    Con l Z (⟨"com/example/stochastic_ray_tracer/stochasticraytracer/Vec3", "y", "()D"⟩ : MethodName) prog_72_method_3_code 1 (some .double) ws ({ frames := 0, cells := 0, slots := 0, locals := 0 } : Room) #[(.ref a)] h0 (own_Q6 Z a w h0 n0) := by
  refine Con.start #[.val (.ref a)] (plainFor_of_name own_pn1) (fun m => by first | (refine own_ef ?_; exact rfl) | (simp [entryFrame, mkF, argsToLocals, Value.category]; done) | rfl) ?_
  intro p e s m below meth c s₁ P X0 hx hby hml hret hlk hown hnm hZ e0 hf
  have hml : c.maxLocals = 1 := hml
  have N0 := Fr.nil n0
  refine g_aloadN (pc' := 1) X0 hx hby (v := (.ref a)) own_d6_0 rfl rfl rfl ?_
  refine g_getF (pc' := 4) X0 hx hby hZ hown (host := "") (Or.inl (hw _ (List.mem_of_getElem? (i := 16) rfl))) Via.refl e0 c0 rfl own_d6_1 rfl ?_
  intro T1 X1 e1
  exact g_retV X1 hx hby hf hlk hret own_d6_4 rfl rfl (Or.inr (Or.inr (Or.inl ⟨rfl, rfl, _, rfl⟩))) (by decide) (by decide) e1 ⟨rfl, N0, rfl⟩
theorem own_d7_0 : decode prog_72_method_4_code 0 = .ok (.aload_n 0, 1) := by decide +kernel
theorem own_d7_1 : decode prog_72_method_4_code 1 = .ok (.getfield 16, 3) := by decide +kernel
theorem own_d7_4 : decode prog_72_method_4_code 4 = .ok (.dreturn, 1) := by decide +kernel
def own_Q7 (Z : State) (a : Addr) (w : UInt64) (h0 : Heap) (n0 : Nat) (v : Option Value) (h : Heap) (L : List Loc) : Prop := v = some (.double w) ∧ Fr n0 L ∧ h = h0
set_option maxRecDepth 65536 in
set_option maxHeartbeats 40000000 in
theorem own_rm7 (l : Launch) (Z : State) (a0 : Array Value) (hw : ∀ d ∈ tables_1, d.before a0 Z = true) (ws : List Jvm.Cond) (a : Addr) (w : UInt64) (h0 : Heap) (n0 : Nat) (Z0 : n0 ≤ h0.size) (c0 : Fld Z h0 a "com/example/stochastic_ray_tracer/stochasticraytracer/Vec3" "z" "D" (.double w)) :
    Con l Z (⟨"com/example/stochastic_ray_tracer/stochasticraytracer/Vec3", "z", "()D"⟩ : MethodName) prog_72_method_4_code 1 (some .double) ws ({ frames := 0, cells := 0, slots := 0, locals := 0 } : Room) #[(.ref a)] h0 (own_Q7 Z a w h0 n0) := by
  refine Con.start #[.val (.ref a)] (plainFor_of_name own_pn1) (fun m => by first | (refine own_ef ?_; exact rfl) | (simp [entryFrame, mkF, argsToLocals, Value.category]; done) | rfl) ?_
  intro p e s m below meth c s₁ P X0 hx hby hml hret hlk hown hnm hZ e0 hf
  have hml : c.maxLocals = 1 := hml
  have N0 := Fr.nil n0
  refine g_aloadN (pc' := 1) X0 hx hby (v := (.ref a)) own_d7_0 rfl rfl rfl ?_
  refine g_getF (pc' := 4) X0 hx hby hZ hown (host := "") (Or.inl (hw _ (List.mem_of_getElem? (i := 18) rfl))) Via.refl e0 c0 rfl own_d7_1 rfl ?_
  intro T1 X1 e1
  exact g_retV X1 hx hby hf hlk hret own_d7_4 rfl rfl (Or.inr (Or.inr (Or.inl ⟨rfl, rfl, _, rfl⟩))) (by decide) (by decide) e1 ⟨rfl, N0, rfl⟩
theorem own_d8_0 : decode prog_72_method_11_code 0 = .ok (.aload_n 0, 1) := by decide +kernel
theorem own_d8_1 : decode prog_72_method_11_code 1 = .ok (.getfield 7, 3) := by decide +kernel
theorem own_d8_4 : decode prog_72_method_11_code 4 = .ok (.aload_n 1, 1) := by decide +kernel
theorem own_d8_5 : decode prog_72_method_11_code 5 = .ok (.getfield 7, 3) := by decide +kernel
theorem own_d8_8 : decode prog_72_method_11_code 8 = .ok (.dmul, 1) := by decide +kernel
theorem own_d8_9 : decode prog_72_method_11_code 9 = .ok (.aload_n 0, 1) := by decide +kernel
theorem own_d8_10 : decode prog_72_method_11_code 10 = .ok (.getfield 13, 3) := by decide +kernel
theorem own_d8_13 : decode prog_72_method_11_code 13 = .ok (.aload_n 1, 1) := by decide +kernel
theorem own_d8_14 : decode prog_72_method_11_code 14 = .ok (.getfield 13, 3) := by decide +kernel
theorem own_d8_17 : decode prog_72_method_11_code 17 = .ok (.dmul, 1) := by decide +kernel
theorem own_d8_18 : decode prog_72_method_11_code 18 = .ok (.dadd, 1) := by decide +kernel
theorem own_d8_19 : decode prog_72_method_11_code 19 = .ok (.aload_n 0, 1) := by decide +kernel
theorem own_d8_20 : decode prog_72_method_11_code 20 = .ok (.getfield 16, 3) := by decide +kernel
theorem own_d8_23 : decode prog_72_method_11_code 23 = .ok (.aload_n 1, 1) := by decide +kernel
theorem own_d8_24 : decode prog_72_method_11_code 24 = .ok (.getfield 16, 3) := by decide +kernel
theorem own_d8_27 : decode prog_72_method_11_code 27 = .ok (.dmul, 1) := by decide +kernel
theorem own_d8_28 : decode prog_72_method_11_code 28 = .ok (.dadd, 1) := by decide +kernel
theorem own_d8_29 : decode prog_72_method_11_code 29 = .ok (.dreturn, 1) := by decide +kernel
def own_Q8 (Z : State) (a : Addr) (b : Addr) (xa : UInt64) (ya : UInt64) (za : UInt64) (xb : UInt64) (yb : UInt64) (zb : UInt64) (h0 : Heap) (n0 : Nat) (v : Option Value) (h : Heap) (L : List Loc) : Prop := v = some (.double (FP.dadd (FP.dadd (FP.dmul xa xb) (FP.dmul ya yb)) (FP.dmul za zb))) ∧ Fr n0 L ∧ h = h0
set_option maxRecDepth 65536 in
set_option maxHeartbeats 40000000 in
theorem own_rm8 (l : Launch) (Z : State) (a0 : Array Value) (hw : ∀ d ∈ tables_1, d.before a0 Z = true) (ws : List Jvm.Cond) (a : Addr) (b : Addr) (xa : UInt64) (ya : UInt64) (za : UInt64) (xb : UInt64) (yb : UInt64) (zb : UInt64) (h0 : Heap) (n0 : Nat) (Z0 : n0 ≤ h0.size) (c0 : Fld Z h0 a "com/example/stochastic_ray_tracer/stochasticraytracer/Vec3" "x" "D" (.double xa)) (c1 : Fld Z h0 a "com/example/stochastic_ray_tracer/stochasticraytracer/Vec3" "y" "D" (.double ya)) (c2 : Fld Z h0 a "com/example/stochastic_ray_tracer/stochasticraytracer/Vec3" "z" "D" (.double za)) (c3 : Fld Z h0 b "com/example/stochastic_ray_tracer/stochasticraytracer/Vec3" "x" "D" (.double xb)) (c4 : Fld Z h0 b "com/example/stochastic_ray_tracer/stochasticraytracer/Vec3" "y" "D" (.double yb)) (c5 : Fld Z h0 b "com/example/stochastic_ray_tracer/stochasticraytracer/Vec3" "z" "D" (.double zb)) (nn8 : Jvm.Free.Fl.NoNaN64 (FP.dmul xa xb)) (nn17 : Jvm.Free.Fl.NoNaN64 (FP.dmul ya yb)) (nn18 : Jvm.Free.Fl.NoNaN64 (FP.dadd (FP.dmul xa xb) (FP.dmul ya yb))) (nn27 : Jvm.Free.Fl.NoNaN64 (FP.dmul za zb)) (nn28 : Jvm.Free.Fl.NoNaN64 (FP.dadd (FP.dadd (FP.dmul xa xb) (FP.dmul ya yb)) (FP.dmul za zb))) :
    Con l Z (⟨"com/example/stochastic_ray_tracer/stochasticraytracer/Vec3", "dot", "(Lcom/example/stochastic_ray_tracer/stochasticraytracer/Vec3;)D"⟩ : MethodName) prog_72_method_11_code 2 (some .double) ws ({ frames := 0, cells := 0, slots := 0, locals := 0 } : Room) #[(.ref a), (.ref b)] h0 (own_Q8 Z a b xa ya za xb yb zb h0 n0) := by
  refine Con.start #[.val (.ref a), .val (.ref b)] (plainFor_of_name own_pn1) (fun m => by first | (refine own_ef ?_; exact rfl) | (simp [entryFrame, mkF, argsToLocals, Value.category]; done) | rfl) ?_
  intro p e s m below meth c s₁ P X0 hx hby hml hret hlk hown hnm hZ e0 hf
  have hml : c.maxLocals = 2 := hml
  have N0 := Fr.nil n0
  refine g_aloadN (pc' := 1) X0 hx hby (v := (.ref a)) own_d8_0 rfl rfl rfl ?_
  refine g_getF (pc' := 4) X0 hx hby hZ hown (host := "") (Or.inl (hw _ (List.mem_of_getElem? (i := 14) rfl))) Via.refl e0 c0 rfl own_d8_1 rfl ?_
  intro T1 X1 e1
  refine g_aloadN (pc' := 5) X1 hx hby (v := (.ref b)) own_d8_4 rfl rfl rfl ?_
  refine g_getF (pc' := 8) X1 hx hby hZ hown (host := "") (Or.inl (hw _ (List.mem_of_getElem? (i := 14) rfl))) Via.refl e1 c3 rfl own_d8_5 rfl ?_
  intro T2 X2 e2
  refine g_dmul (pc' := 9) (v := (FP.dmul xa xb)) X2 hx hby own_d8_8 rfl (nn8) rfl rfl ?_
  refine g_aloadN (pc' := 10) X2 hx hby (v := (.ref a)) own_d8_9 rfl rfl rfl ?_
  refine g_getF (pc' := 13) X2 hx hby hZ hown (host := "") (Or.inl (hw _ (List.mem_of_getElem? (i := 16) rfl))) Via.refl e2 c1 rfl own_d8_10 rfl ?_
  intro T3 X3 e3
  refine g_aloadN (pc' := 14) X3 hx hby (v := (.ref b)) own_d8_13 rfl rfl rfl ?_
  refine g_getF (pc' := 17) X3 hx hby hZ hown (host := "") (Or.inl (hw _ (List.mem_of_getElem? (i := 16) rfl))) Via.refl e3 c4 rfl own_d8_14 rfl ?_
  intro T4 X4 e4
  refine g_dmul (pc' := 18) (v := (FP.dmul ya yb)) X4 hx hby own_d8_17 rfl (nn17) rfl rfl ?_
  refine g_dadd (pc' := 19) (v := (FP.dadd (FP.dmul xa xb) (FP.dmul ya yb))) X4 hx hby own_d8_18 rfl (nn18) rfl rfl ?_
  refine g_aloadN (pc' := 20) X4 hx hby (v := (.ref a)) own_d8_19 rfl rfl rfl ?_
  refine g_getF (pc' := 23) X4 hx hby hZ hown (host := "") (Or.inl (hw _ (List.mem_of_getElem? (i := 18) rfl))) Via.refl e4 c2 rfl own_d8_20 rfl ?_
  intro T5 X5 e5
  refine g_aloadN (pc' := 24) X5 hx hby (v := (.ref b)) own_d8_23 rfl rfl rfl ?_
  refine g_getF (pc' := 27) X5 hx hby hZ hown (host := "") (Or.inl (hw _ (List.mem_of_getElem? (i := 18) rfl))) Via.refl e5 c5 rfl own_d8_24 rfl ?_
  intro T6 X6 e6
  refine g_dmul (pc' := 28) (v := (FP.dmul za zb)) X6 hx hby own_d8_27 rfl (nn27) rfl rfl ?_
  refine g_dadd (pc' := 29) (v := (FP.dadd (FP.dadd (FP.dmul xa xb) (FP.dmul ya yb)) (FP.dmul za zb))) X6 hx hby own_d8_28 rfl (nn28) rfl rfl ?_
  exact g_retV X6 hx hby hf hlk hret own_d8_29 rfl rfl (Or.inr (Or.inr (Or.inl ⟨rfl, rfl, _, rfl⟩))) (by decide) (by decide) e6 ⟨rfl, N0, rfl⟩
theorem own_d9_0 : decode prog_72_method_10_code 0 = .ok (.new 8, 3) := by decide +kernel
theorem own_d9_3 : decode prog_72_method_10_code 3 = .ok (.dup, 1) := by decide +kernel
theorem own_d9_4 : decode prog_72_method_10_code 4 = .ok (.aload_n 0, 1) := by decide +kernel
theorem own_d9_5 : decode prog_72_method_10_code 5 = .ok (.getfield 7, 3) := by decide +kernel
theorem own_d9_8 : decode prog_72_method_10_code 8 = .ok (.dload_n 1, 1) := by decide +kernel
theorem own_d9_9 : decode prog_72_method_10_code 9 = .ok (.dmul, 1) := by decide +kernel
theorem own_d9_10 : decode prog_72_method_10_code 10 = .ok (.aload_n 0, 1) := by decide +kernel
theorem own_d9_11 : decode prog_72_method_10_code 11 = .ok (.getfield 13, 3) := by decide +kernel
theorem own_d9_14 : decode prog_72_method_10_code 14 = .ok (.dload_n 1, 1) := by decide +kernel
theorem own_d9_15 : decode prog_72_method_10_code 15 = .ok (.dmul, 1) := by decide +kernel
theorem own_d9_16 : decode prog_72_method_10_code 16 = .ok (.aload_n 0, 1) := by decide +kernel
theorem own_d9_17 : decode prog_72_method_10_code 17 = .ok (.getfield 16, 3) := by decide +kernel
theorem own_d9_20 : decode prog_72_method_10_code 20 = .ok (.dload_n 1, 1) := by decide +kernel
theorem own_d9_21 : decode prog_72_method_10_code 21 = .ok (.dmul, 1) := by decide +kernel
theorem own_d9_22 : decode prog_72_method_10_code 22 = .ok (.invokespecial 34, 3) := by decide +kernel
theorem own_d9_25 : decode prog_72_method_10_code 25 = .ok (.areturn, 1) := by decide +kernel
def own_Q9 (Z : State) (a : Addr) (f : UInt64) (xa : UInt64) (ya : UInt64) (za : UInt64) (h0 : Heap) (n0 : Nat) (v : Option Value) (h : Heap) (L : List Loc) : Prop := ∃ (r : Addr), v = some (.ref r) ∧ Fr n0 L ∧ Keep h0 h [] ∧ h0.size ≤ r ∧ Exa Z h r "com/example/stochastic_ray_tracer/stochasticraytracer/Vec3" ∧ Fld Z h r "com/example/stochastic_ray_tracer/stochasticraytracer/Vec3" "x" "D" (.double (FP.dmul xa f)) ∧ Fld Z h r "com/example/stochastic_ray_tracer/stochasticraytracer/Vec3" "y" "D" (.double (FP.dmul ya f)) ∧ Fld Z h r "com/example/stochastic_ray_tracer/stochasticraytracer/Vec3" "z" "D" (.double (FP.dmul za f))
set_option maxRecDepth 65536 in
set_option maxHeartbeats 40000000 in
theorem own_rm9 (l : Launch) (Z : State) (a0 : Array Value) (hw : ∀ d ∈ tables_1, d.before a0 Z = true) (ws : List Jvm.Cond) (a : Addr) (f : UInt64) (xa : UInt64) (ya : UInt64) (za : UInt64) (h0 : Heap) (n0 : Nat) (Z0 : n0 ≤ h0.size) (c0 : Fld Z h0 a "com/example/stochastic_ray_tracer/stochasticraytracer/Vec3" "x" "D" (.double xa)) (c1 : Fld Z h0 a "com/example/stochastic_ray_tracer/stochasticraytracer/Vec3" "y" "D" (.double ya)) (c2 : Fld Z h0 a "com/example/stochastic_ray_tracer/stochasticraytracer/Vec3" "z" "D" (.double za)) (nn9 : Jvm.Free.Fl.NoNaN64 (FP.dmul xa f)) (nn15 : Jvm.Free.Fl.NoNaN64 (FP.dmul ya f)) (nn21 : Jvm.Free.Fl.NoNaN64 (FP.dmul za f)) :
    Con l Z (⟨"com/example/stochastic_ray_tracer/stochasticraytracer/Vec3", "times", "(D)Lcom/example/stochastic_ray_tracer/stochasticraytracer/Vec3;"⟩ : MethodName) prog_72_method_10_code 3 (some (.object "com/example/stochastic_ray_tracer/stochasticraytracer/Vec3")) ws ({ frames := 2, cells := 1, slots := 3, locals := 31 } : Room) #[(.ref a), (.double f)] h0 (own_Q9 Z a f xa ya za h0 n0) := by
  refine Con.start #[.val (.ref a), .val (.double f), .second] (plainFor_of_name own_pn1) (fun m => by first | (refine own_ef ?_; exact rfl) | (simp [entryFrame, mkF, argsToLocals, Value.category]; done) | rfl) ?_
  intro p e s m below meth c s₁ P X0 hx hby hml hret hlk hown hnm hZ e0 hf
  have hml : c.maxLocals = 3 := hml
  have N0 := Fr.nil n0
  have K0 : Keep h0 h0 [] := Keep.refl _ _
  refine g_new (pc' := 3) X0 hx hby hZ hown (hw _ (List.mem_of_getElem? (i := 62) rfl)) (hw _ (List.mem_of_getElem? (i := 6) rfl)) (hw _ (List.mem_of_getElem? (i := 7) rfl)) e0 own_d9_0 rfl (by decide) (by decide) ?_
  intro T1 h1 rr X1 e1 E1 A1 D1 q1
  have ne2 : a ≠ rr := by rw [q1]; exact Nat.ne_of_lt c0.lt
  have ge1 : n0 ≤ rr := by rw [q1]; exact Z0
  have kp1 : h0.size ≤ rr := by rw [q1]; exact K0.1
  have f3 := c0.ext E1
  have f4 := c1.ext E1
  have f5 := c2.ext E1
  have f6 : Fld Z h1 rr "com/example/stochastic_ray_tracer/stochasticraytracer/Vec3" "x" "D" (.double (0 : UInt64)) := D1 (Or.inr (hw _ (List.mem_of_getElem? (i := 15) rfl))) (ty := .double) own_fd0
  have f7 : Fld Z h1 rr "com/example/stochastic_ray_tracer/stochasticraytracer/Vec3" "y" "D" (.double (0 : UInt64)) := D1 (Or.inr (hw _ (List.mem_of_getElem? (i := 17) rfl))) (ty := .double) own_fd0
  have f8 : Fld Z h1 rr "com/example/stochastic_ray_tracer/stochasticraytracer/Vec3" "z" "D" (.double (0 : UInt64)) := D1 (Or.inr (hw _ (List.mem_of_getElem? (i := 19) rfl))) (ty := .double) own_fd0
  have z1 := Nat.le_trans Z0 E1.1
  have K1 := K0.ext E1
  refine g_dup (pc' := 4) X1 hx hby own_d9_3 rfl rfl rfl ?_
  refine g_aloadN (pc' := 5) X1 hx hby (v := (.ref a)) own_d9_4 rfl rfl rfl ?_
  refine g_getF (pc' := 8) X1 hx hby hZ hown (host := "") (Or.inl (hw _ (List.mem_of_getElem? (i := 14) rfl))) Via.refl e1 f3 rfl own_d9_5 rfl ?_
  intro T9 X9 e9
  refine g_dloadN (pc' := 9) X9 hx hby (v := f) own_d9_8 rfl rfl ?_
  refine g_dmul (pc' := 10) (v := (FP.dmul xa f)) X9 hx hby own_d9_9 rfl (nn9) rfl rfl ?_
  refine g_aloadN (pc' := 11) X9 hx hby (v := (.ref a)) own_d9_10 rfl rfl rfl ?_
  refine g_getF (pc' := 14) X9 hx hby hZ hown (host := "") (Or.inl (hw _ (List.mem_of_getElem? (i := 16) rfl))) Via.refl e9 f4 rfl own_d9_11 rfl ?_
  intro T10 X10 e10
  refine g_dloadN (pc' := 15) X10 hx hby (v := f) own_d9_14 rfl rfl ?_
  refine g_dmul (pc' := 16) (v := (FP.dmul ya f)) X10 hx hby own_d9_15 rfl (nn15) rfl rfl ?_
  refine g_aloadN (pc' := 17) X10 hx hby (v := (.ref a)) own_d9_16 rfl rfl rfl ?_
  refine g_getF (pc' := 20) X10 hx hby hZ hown (host := "") (Or.inl (hw _ (List.mem_of_getElem? (i := 18) rfl))) Via.refl e10 f5 rfl own_d9_17 rfl ?_
  intro T11 X11 e11
  refine g_dloadN (pc' := 21) X11 hx hby (v := f) own_d9_20 rfl rfl ?_
  refine g_dmul (pc' := 22) (v := (FP.dmul za f)) X11 hx hby own_d9_21 rfl (nn21) rfl rfl ?_
  refine g_init (argsL := [(.double (FP.dmul xa f)), (.double (FP.dmul ya f)), (.double (FP.dmul za f))]) (pc' := 25) X11 hx hby (by rw [hml]; rfl) hZ hown rfl e11 (own_rm2 l Z a0 hw [] rr (FP.dmul xa f) (FP.dmul ya f) (FP.dmul za f)  h1 n0 z1 A1 f6 f7 f8 ge1) (hw _ (List.mem_of_getElem? (i := 63) rfl)) (hw _ (List.mem_of_getElem? (i := 9) rfl)) (hw _ (List.mem_of_getElem? (i := 7) rfl)) (hw _ (List.mem_of_getElem? (i := 10) rfl)) (by decide) own_pd0 rfl rfl (W := 1) rfl (by decide) (by decide) (by decide) (by decide) own_d9_22 rfl ?_
  intro T12 v12 L12 X12 qq12
  obtain ⟨h12, e12⟩ : ∃ h, T12.heap = h := ⟨_, rfl⟩
  rw [e12] at qq12
  obtain ⟨rfl, n12, k12, p12_0, p12_1, p12_2, p12_3⟩ := qq12
  have f13 := f3.keep k12 (ninS ne2 nin0)
  have f14 := f4.keep k12 (ninS ne2 nin0)
  have f15 := f5.keep k12 (ninS ne2 nin0)
  have f16 := A1.keep k12
  have z12 := Nat.le_trans z1 k12.1
  have K12 := K1.trans k12 (allS (Or.inr kp1) all0)
  have N12 := Fr.app N0 n12
  show Gf p e below P T12 m 25 #[.val (.ref a), .val (.double f), .second] [(.ref rr)]
  exact g_retV X12 hx hby hf hlk hret own_d9_25 rfl rfl (Or.inr (Or.inr (Or.inr (Or.inr ⟨rfl, rfl, rfl⟩)))) (by decide) (by decide) e12 ⟨rr, rfl, N12, K12, kp1, p12_0, p12_1, p12_2, p12_3⟩
theorem own_d10_0 : decode prog_72_method_9_code 0 = .ok (.new 8, 3) := by decide +kernel
theorem own_d10_3 : decode prog_72_method_9_code 3 = .ok (.dup, 1) := by decide +kernel
theorem own_d10_4 : decode prog_72_method_9_code 4 = .ok (.aload_n 0, 1) := by decide +kernel
theorem own_d10_5 : decode prog_72_method_9_code 5 = .ok (.getfield 7, 3) := by decide +kernel
theorem own_d10_8 : decode prog_72_method_9_code 8 = .ok (.aload_n 1, 1) := by decide +kernel
theorem own_d10_9 : decode prog_72_method_9_code 9 = .ok (.getfield 7, 3) := by decide +kernel
theorem own_d10_12 : decode prog_72_method_9_code 12 = .ok (.dsub, 1) := by decide +kernel
theorem own_d10_13 : decode prog_72_method_9_code 13 = .ok (.aload_n 0, 1) := by decide +kernel
theorem own_d10_14 : decode prog_72_method_9_code 14 = .ok (.getfield 13, 3) := by decide +kernel
theorem own_d10_17 : decode prog_72_method_9_code 17 = .ok (.aload_n 1, 1) := by decide +kernel
theorem own_d10_18 : decode prog_72_method_9_code 18 = .ok (.getfield 13, 3) := by decide +kernel
theorem own_d10_21 : decode prog_72_method_9_code 21 = .ok (.dsub, 1) := by decide +kernel
theorem own_d10_22 : decode prog_72_method_9_code 22 = .ok (.aload_n 0, 1) := by decide +kernel
theorem own_d10_23 : decode prog_72_method_9_code 23 = .ok (.getfield 16, 3) := by decide +kernel
theorem own_d10_26 : decode prog_72_method_9_code 26 = .ok (.aload_n 1, 1) := by decide +kernel
theorem own_d10_27 : decode prog_72_method_9_code 27 = .ok (.getfield 16, 3) := by decide +kernel
theorem own_d10_30 : decode prog_72_method_9_code 30 = .ok (.dsub, 1) := by decide +kernel
theorem own_d10_31 : decode prog_72_method_9_code 31 = .ok (.invokespecial 34, 3) := by decide +kernel
theorem own_d10_34 : decode prog_72_method_9_code 34 = .ok (.areturn, 1) := by decide +kernel
def own_Q10 (Z : State) (a : Addr) (b : Addr) (xa : UInt64) (ya : UInt64) (za : UInt64) (xb : UInt64) (yb : UInt64) (zb : UInt64) (h0 : Heap) (n0 : Nat) (v : Option Value) (h : Heap) (L : List Loc) : Prop := ∃ (r : Addr), v = some (.ref r) ∧ Fr n0 L ∧ Keep h0 h [] ∧ h0.size ≤ r ∧ Exa Z h r "com/example/stochastic_ray_tracer/stochasticraytracer/Vec3" ∧ Fld Z h r "com/example/stochastic_ray_tracer/stochasticraytracer/Vec3" "x" "D" (.double (FP.dsub xa xb)) ∧ Fld Z h r "com/example/stochastic_ray_tracer/stochasticraytracer/Vec3" "y" "D" (.double (FP.dsub ya yb)) ∧ Fld Z h r "com/example/stochastic_ray_tracer/stochasticraytracer/Vec3" "z" "D" (.double (FP.dsub za zb))
set_option maxRecDepth 65536 in
set_option maxHeartbeats 40000000 in
theorem own_rm10 (l : Launch) (Z : State) (a0 : Array Value) (hw : ∀ d ∈ tables_1, d.before a0 Z = true) (ws : List Jvm.Cond) (a : Addr) (b : Addr) (xa : UInt64) (ya : UInt64) (za : UInt64) (xb : UInt64) (yb : UInt64) (zb : UInt64) (h0 : Heap) (n0 : Nat) (Z0 : n0 ≤ h0.size) (c0 : Fld Z h0 a "com/example/stochastic_ray_tracer/stochasticraytracer/Vec3" "x" "D" (.double xa)) (c1 : Fld Z h0 a "com/example/stochastic_ray_tracer/stochasticraytracer/Vec3" "y" "D" (.double ya)) (c2 : Fld Z h0 a "com/example/stochastic_ray_tracer/stochasticraytracer/Vec3" "z" "D" (.double za)) (c3 : Fld Z h0 b "com/example/stochastic_ray_tracer/stochasticraytracer/Vec3" "x" "D" (.double xb)) (c4 : Fld Z h0 b "com/example/stochastic_ray_tracer/stochasticraytracer/Vec3" "y" "D" (.double yb)) (c5 : Fld Z h0 b "com/example/stochastic_ray_tracer/stochasticraytracer/Vec3" "z" "D" (.double zb)) (nn12 : Jvm.Free.Fl.NoNaN64 (FP.dsub xa xb)) (nn21 : Jvm.Free.Fl.NoNaN64 (FP.dsub ya yb)) (nn30 : Jvm.Free.Fl.NoNaN64 (FP.dsub za zb)) :
    Con l Z (⟨"com/example/stochastic_ray_tracer/stochasticraytracer/Vec3", "minus", "(Lcom/example/stochastic_ray_tracer/stochasticraytracer/Vec3;)Lcom/example/stochastic_ray_tracer/stochasticraytracer/Vec3;"⟩ : MethodName) prog_72_method_9_code 2 (some (.object "com/example/stochastic_ray_tracer/stochasticraytracer/Vec3")) ws ({ frames := 2, cells := 1, slots := 3, locals := 31 } : Room) #[(.ref a), (.ref b)] h0 (own_Q10 Z a b xa ya za xb yb zb h0 n0) := by
  refine Con.start #[.val (.ref a), .val (.ref b)] (plainFor_of_name own_pn1) (fun m => by first | (refine own_ef ?_; exact rfl) | (simp [entryFrame, mkF, argsToLocals, Value.category]; done) | rfl) ?_
  intro p e s m below meth c s₁ P X0 hx hby hml hret hlk hown hnm hZ e0 hf
  have hml : c.maxLocals = 2 := hml
  have N0 := Fr.nil n0
  have K0 : Keep h0 h0 [] := Keep.refl _ _
  refine g_new (pc' := 3) X0 hx hby hZ hown (hw _ (List.mem_of_getElem? (i := 62) rfl)) (hw _ (List.mem_of_getElem? (i := 6) rfl)) (hw _ (List.mem_of_getElem? (i := 7) rfl)) e0 own_d10_0 rfl (by decide) (by decide) ?_
  intro T1 h1 rr X1 e1 E1 A1 D1 q1
  have ne2 : a ≠ rr := by rw [q1]; exact Nat.ne_of_lt c0.lt
  have ne3 : b ≠ rr := by rw [q1]; exact Nat.ne_of_lt c3.lt
  have ge1 : n0 ≤ rr := by rw [q1]; exact Z0
  have kp1 : h0.size ≤ rr := by rw [q1]; exact K0.1
  have f4 := c0.ext E1
  have f5 := c1.ext E1
  have f6 := c2.ext E1
  have f7 := c3.ext E1
  have f8 := c4.ext E1
  have f9 := c5.ext E1
  have f10 : Fld Z h1 rr "com/example/stochastic_ray_tracer/stochasticraytracer/Vec3" "x" "D" (.double (0 : UInt64)) := D1 (Or.inr (hw _ (List.mem_of_getElem? (i := 15) rfl))) (ty := .double) own_fd0
  have f11 : Fld Z h1 rr "com/example/stochastic_ray_tracer/stochasticraytracer/Vec3" "y" "D" (.double (0 : UInt64)) := D1 (Or.inr (hw _ (List.mem_of_getElem? (i := 17) rfl))) (ty := .double) own_fd0
  have f12 : Fld Z h1 rr "com/example/stochastic_ray_tracer/stochasticraytracer/Vec3" "z" "D" (.double (0 : UInt64)) := D1 (Or.inr (hw _ (List.mem_of_getElem? (i := 19) rfl))) (ty := .double) own_fd0
  have z1 := Nat.le_trans Z0 E1.1
  have K1 := K0.ext E1
  refine g_dup (pc' := 4) X1 hx hby own_d10_3 rfl rfl rfl ?_
  refine g_aloadN (pc' := 5) X1 hx hby (v := (.ref a)) own_d10_4 rfl rfl rfl ?_
  refine g_getF (pc' := 8) X1 hx hby hZ hown (host := "") (Or.inl (hw _ (List.mem_of_getElem? (i := 14) rfl))) Via.refl e1 f4 rfl own_d10_5 rfl ?_
  intro T13 X13 e13
  refine g_aloadN (pc' := 9) X13 hx hby (v := (.ref b)) own_d10_8 rfl rfl rfl ?_
  refine g_getF (pc' := 12) X13 hx hby hZ hown (host := "") (Or.inl (hw _ (List.mem_of_getElem? (i := 14) rfl))) Via.refl e13 f7 rfl own_d10_9 rfl ?_
  intro T14 X14 e14
  refine g_dsub (pc' := 13) (v := (FP.dsub xa xb)) X14 hx hby own_d10_12 rfl (nn12) rfl rfl ?_
  refine g_aloadN (pc' := 14) X14 hx hby (v := (.ref a)) own_d10_13 rfl rfl rfl ?_
  refine g_getF (pc' := 17) X14 hx hby hZ hown (host := "") (Or.inl (hw _ (List.mem_of_getElem? (i := 16) rfl))) Via.refl e14 f5 rfl own_d10_14 rfl ?_
  intro T15 X15 e15
  refine g_aloadN (pc' := 18) X15 hx hby (v := (.ref b)) own_d10_17 rfl rfl rfl ?_
  refine g_getF (pc' := 21) X15 hx hby hZ hown (host := "") (Or.inl (hw _ (List.mem_of_getElem? (i := 16) rfl))) Via.refl e15 f8 rfl own_d10_18 rfl ?_
  intro T16 X16 e16
  refine g_dsub (pc' := 22) (v := (FP.dsub ya yb)) X16 hx hby own_d10_21 rfl (nn21) rfl rfl ?_
  refine g_aloadN (pc' := 23) X16 hx hby (v := (.ref a)) own_d10_22 rfl rfl rfl ?_
  refine g_getF (pc' := 26) X16 hx hby hZ hown (host := "") (Or.inl (hw _ (List.mem_of_getElem? (i := 18) rfl))) Via.refl e16 f6 rfl own_d10_23 rfl ?_
  intro T17 X17 e17
  refine g_aloadN (pc' := 27) X17 hx hby (v := (.ref b)) own_d10_26 rfl rfl rfl ?_
  refine g_getF (pc' := 30) X17 hx hby hZ hown (host := "") (Or.inl (hw _ (List.mem_of_getElem? (i := 18) rfl))) Via.refl e17 f9 rfl own_d10_27 rfl ?_
  intro T18 X18 e18
  refine g_dsub (pc' := 31) (v := (FP.dsub za zb)) X18 hx hby own_d10_30 rfl (nn30) rfl rfl ?_
  refine g_init (argsL := [(.double (FP.dsub xa xb)), (.double (FP.dsub ya yb)), (.double (FP.dsub za zb))]) (pc' := 34) X18 hx hby (by rw [hml]; rfl) hZ hown rfl e18 (own_rm2 l Z a0 hw [] rr (FP.dsub xa xb) (FP.dsub ya yb) (FP.dsub za zb)  h1 n0 z1 A1 f10 f11 f12 ge1) (hw _ (List.mem_of_getElem? (i := 63) rfl)) (hw _ (List.mem_of_getElem? (i := 9) rfl)) (hw _ (List.mem_of_getElem? (i := 7) rfl)) (hw _ (List.mem_of_getElem? (i := 10) rfl)) (by decide) own_pd0 rfl rfl (W := 1) rfl (by decide) (by decide) (by decide) (by decide) own_d10_31 rfl ?_
  intro T19 v19 L19 X19 qq19
  obtain ⟨h19, e19⟩ : ∃ h, T19.heap = h := ⟨_, rfl⟩
  rw [e19] at qq19
  obtain ⟨rfl, n19, k19, p19_0, p19_1, p19_2, p19_3⟩ := qq19
  have f20 := f4.keep k19 (ninS ne2 nin0)
  have f21 := f5.keep k19 (ninS ne2 nin0)
  have f22 := f6.keep k19 (ninS ne2 nin0)
  have f23 := f7.keep k19 (ninS ne3 nin0)
  have f24 := f8.keep k19 (ninS ne3 nin0)
  have f25 := f9.keep k19 (ninS ne3 nin0)
  have f26 := A1.keep k19
  have z19 := Nat.le_trans z1 k19.1
  have K19 := K1.trans k19 (allS (Or.inr kp1) all0)
  have N19 := Fr.app N0 n19
  show Gf p e below P T19 m 34 #[.val (.ref a), .val (.ref b)] [(.ref rr)]
  exact g_retV X19 hx hby hf hlk hret own_d10_34 rfl rfl (Or.inr (Or.inr (Or.inr (Or.inr ⟨rfl, rfl, rfl⟩)))) (by decide) (by decide) e19 ⟨rr, rfl, N19, K19, kp1, p19_0, p19_1, p19_2, p19_3⟩
theorem own_d11_0 : decode prog_72_method_8_code 0 = .ok (.new 8, 3) := by decide +kernel
theorem own_d11_3 : decode prog_72_method_8_code 3 = .ok (.dup, 1) := by decide +kernel
theorem own_d11_4 : decode prog_72_method_8_code 4 = .ok (.aload_n 0, 1) := by decide +kernel
theorem own_d11_5 : decode prog_72_method_8_code 5 = .ok (.getfield 7, 3) := by decide +kernel
theorem own_d11_8 : decode prog_72_method_8_code 8 = .ok (.aload_n 1, 1) := by decide +kernel
theorem own_d11_9 : decode prog_72_method_8_code 9 = .ok (.getfield 7, 3) := by decide +kernel
theorem own_d11_12 : decode prog_72_method_8_code 12 = .ok (.dadd, 1) := by decide +kernel
theorem own_d11_13 : decode prog_72_method_8_code 13 = .ok (.aload_n 0, 1) := by decide +kernel
theorem own_d11_14 : decode prog_72_method_8_code 14 = .ok (.getfield 13, 3) := by decide +kernel
theorem own_d11_17 : decode prog_72_method_8_code 17 = .ok (.aload_n 1, 1) := by decide +kernel
theorem own_d11_18 : decode prog_72_method_8_code 18 = .ok (.getfield 13, 3) := by decide +kernel
theorem own_d11_21 : decode prog_72_method_8_code 21 = .ok (.dadd, 1) := by decide +kernel
theorem own_d11_22 : decode prog_72_method_8_code 22 = .ok (.aload_n 0, 1) := by decide +kernel
theorem own_d11_23 : decode prog_72_method_8_code 23 = .ok (.getfield 16, 3) := by decide +kernel
theorem own_d11_26 : decode prog_72_method_8_code 26 = .ok (.aload_n 1, 1) := by decide +kernel
theorem own_d11_27 : decode prog_72_method_8_code 27 = .ok (.getfield 16, 3) := by decide +kernel
theorem own_d11_30 : decode prog_72_method_8_code 30 = .ok (.dadd, 1) := by decide +kernel
theorem own_d11_31 : decode prog_72_method_8_code 31 = .ok (.invokespecial 34, 3) := by decide +kernel
theorem own_d11_34 : decode prog_72_method_8_code 34 = .ok (.areturn, 1) := by decide +kernel
def own_Q11 (Z : State) (a : Addr) (b : Addr) (xa : UInt64) (ya : UInt64) (za : UInt64) (xb : UInt64) (yb : UInt64) (zb : UInt64) (h0 : Heap) (n0 : Nat) (v : Option Value) (h : Heap) (L : List Loc) : Prop := ∃ (r : Addr), v = some (.ref r) ∧ Fr n0 L ∧ Keep h0 h [] ∧ h0.size ≤ r ∧ Exa Z h r "com/example/stochastic_ray_tracer/stochasticraytracer/Vec3" ∧ Fld Z h r "com/example/stochastic_ray_tracer/stochasticraytracer/Vec3" "x" "D" (.double (FP.dadd xa xb)) ∧ Fld Z h r "com/example/stochastic_ray_tracer/stochasticraytracer/Vec3" "y" "D" (.double (FP.dadd ya yb)) ∧ Fld Z h r "com/example/stochastic_ray_tracer/stochasticraytracer/Vec3" "z" "D" (.double (FP.dadd za zb))
set_option maxRecDepth 65536 in
set_option maxHeartbeats 40000000 in
theorem own_rm11 (l : Launch) (Z : State) (a0 : Array Value) (hw : ∀ d ∈ tables_1, d.before a0 Z = true) (ws : List Jvm.Cond) (a : Addr) (b : Addr) (xa : UInt64) (ya : UInt64) (za : UInt64) (xb : UInt64) (yb : UInt64) (zb : UInt64) (h0 : Heap) (n0 : Nat) (Z0 : n0 ≤ h0.size) (c0 : Fld Z h0 a "com/example/stochastic_ray_tracer/stochasticraytracer/Vec3" "x" "D" (.double xa)) (c1 : Fld Z h0 a "com/example/stochastic_ray_tracer/stochasticraytracer/Vec3" "y" "D" (.double ya)) (c2 : Fld Z h0 a "com/example/stochastic_ray_tracer/stochasticraytracer/Vec3" "z" "D" (.double za)) (c3 : Fld Z h0 b "com/example/stochastic_ray_tracer/stochasticraytracer/Vec3" "x" "D" (.double xb)) (c4 : Fld Z h0 b "com/example/stochastic_ray_tracer/stochasticraytracer/Vec3" "y" "D" (.double yb)) (c5 : Fld Z h0 b "com/example/stochastic_ray_tracer/stochasticraytracer/Vec3" "z" "D" (.double zb)) (nn12 : Jvm.Free.Fl.NoNaN64 (FP.dadd xa xb)) (nn21 : Jvm.Free.Fl.NoNaN64 (FP.dadd ya yb)) (nn30 : Jvm.Free.Fl.NoNaN64 (FP.dadd za zb)) :
    Con l Z (⟨"com/example/stochastic_ray_tracer/stochasticraytracer/Vec3", "plus", "(Lcom/example/stochastic_ray_tracer/stochasticraytracer/Vec3;)Lcom/example/stochastic_ray_tracer/stochasticraytracer/Vec3;"⟩ : MethodName) prog_72_method_8_code 2 (some (.object "com/example/stochastic_ray_tracer/stochasticraytracer/Vec3")) ws ({ frames := 2, cells := 1, slots := 3, locals := 31 } : Room) #[(.ref a), (.ref b)] h0 (own_Q11 Z a b xa ya za xb yb zb h0 n0) := by
  refine Con.start #[.val (.ref a), .val (.ref b)] (plainFor_of_name own_pn1) (fun m => by first | (refine own_ef ?_; exact rfl) | (simp [entryFrame, mkF, argsToLocals, Value.category]; done) | rfl) ?_
  intro p e s m below meth c s₁ P X0 hx hby hml hret hlk hown hnm hZ e0 hf
  have hml : c.maxLocals = 2 := hml
  have N0 := Fr.nil n0
  have K0 : Keep h0 h0 [] := Keep.refl _ _
  refine g_new (pc' := 3) X0 hx hby hZ hown (hw _ (List.mem_of_getElem? (i := 62) rfl)) (hw _ (List.mem_of_getElem? (i := 6) rfl)) (hw _ (List.mem_of_getElem? (i := 7) rfl)) e0 own_d11_0 rfl (by decide) (by decide) ?_
  intro T1 h1 rr X1 e1 E1 A1 D1 q1
  have ne2 : a ≠ rr := by rw [q1]; exact Nat.ne_of_lt c0.lt
  have ne3 : b ≠ rr := by rw [q1]; exact Nat.ne_of_lt c3.lt
  have ge1 : n0 ≤ rr := by rw [q1]; exact Z0
  have kp1 : h0.size ≤ rr := by rw [q1]; exact K0.1
  have f4 := c0.ext E1
  have f5 := c1.ext E1
  have f6 := c2.ext E1
  have f7 := c3.ext E1
  have f8 := c4.ext E1
  have f9 := c5.ext E1
  have f10 : Fld Z h1 rr "com/example/stochastic_ray_tracer/stochasticraytracer/Vec3" "x" "D" (.double (0 : UInt64)) := D1 (Or.inr (hw _ (List.mem_of_getElem? (i := 15) rfl))) (ty := .double) own_fd0
  have f11 : Fld Z h1 rr "com/example/stochastic_ray_tracer/stochasticraytracer/Vec3" "y" "D" (.double (0 : UInt64)) := D1 (Or.inr (hw _ (List.mem_of_getElem? (i := 17) rfl))) (ty := .double) own_fd0
  have f12 : Fld Z h1 rr "com/example/stochastic_ray_tracer/stochasticraytracer/Vec3" "z" "D" (.double (0 : UInt64)) := D1 (Or.inr (hw _ (List.mem_of_getElem? (i := 19) rfl))) (ty := .double) own_fd0
  have z1 := Nat.le_trans Z0 E1.1
  have K1 := K0.ext E1
  refine g_dup (pc' := 4) X1 hx hby own_d11_3 rfl rfl rfl ?_
  refine g_aloadN (pc' := 5) X1 hx hby (v := (.ref a)) own_d11_4 rfl rfl rfl ?_
  refine g_getF (pc' := 8) X1 hx hby hZ hown (host := "") (Or.inl (hw _ (List.mem_of_getElem? (i := 14) rfl))) Via.refl e1 f4 rfl own_d11_5 rfl ?_
  intro T13 X13 e13
  refine g_aloadN (pc' := 9) X13 hx hby (v := (.ref b)) own_d11_8 rfl rfl rfl ?_
  refine g_getF (pc' := 12) X13 hx hby hZ hown (host := "") (Or.inl (hw _ (List.mem_of_getElem? (i := 14) rfl))) Via.refl e13 f7 rfl own_d11_9 rfl ?_
  intro T14 X14 e14
  refine g_dadd (pc' := 13) (v := (FP.dadd xa xb)) X14 hx hby own_d11_12 rfl (nn12) rfl rfl ?_
  refine g_aloadN (pc' := 14) X14 hx hby (v := (.ref a)) own_d11_13 rfl rfl rfl ?_
  refine g_getF (pc' := 17) X14 hx hby hZ hown (host := "") (Or.inl (hw _ (List.mem_of_getElem? (i := 16) rfl))) Via.refl e14 f5 rfl own_d11_14 rfl ?_
  intro T15 X15 e15
  refine g_aloadN (pc' := 18) X15 hx hby (v := (.ref b)) own_d11_17 rfl rfl rfl ?_
  refine g_getF (pc' := 21) X15 hx hby hZ hown (host := "") (Or.inl (hw _ (List.mem_of_getElem? (i := 16) rfl))) Via.refl e15 f8 rfl own_d11_18 rfl ?_
  intro T16 X16 e16
  refine g_dadd (pc' := 22) (v := (FP.dadd ya yb)) X16 hx hby own_d11_21 rfl (nn21) rfl rfl ?_
  refine g_aloadN (pc' := 23) X16 hx hby (v := (.ref a)) own_d11_22 rfl rfl rfl ?_
  refine g_getF (pc' := 26) X16 hx hby hZ hown (host := "") (Or.inl (hw _ (List.mem_of_getElem? (i := 18) rfl))) Via.refl e16 f6 rfl own_d11_23 rfl ?_
  intro T17 X17 e17
  refine g_aloadN (pc' := 27) X17 hx hby (v := (.ref b)) own_d11_26 rfl rfl rfl ?_
  refine g_getF (pc' := 30) X17 hx hby hZ hown (host := "") (Or.inl (hw _ (List.mem_of_getElem? (i := 18) rfl))) Via.refl e17 f9 rfl own_d11_27 rfl ?_
  intro T18 X18 e18
  refine g_dadd (pc' := 31) (v := (FP.dadd za zb)) X18 hx hby own_d11_30 rfl (nn30) rfl rfl ?_
  refine g_init (argsL := [(.double (FP.dadd xa xb)), (.double (FP.dadd ya yb)), (.double (FP.dadd za zb))]) (pc' := 34) X18 hx hby (by rw [hml]; rfl) hZ hown rfl e18 (own_rm2 l Z a0 hw [] rr (FP.dadd xa xb) (FP.dadd ya yb) (FP.dadd za zb)  h1 n0 z1 A1 f10 f11 f12 ge1) (hw _ (List.mem_of_getElem? (i := 63) rfl)) (hw _ (List.mem_of_getElem? (i := 9) rfl)) (hw _ (List.mem_of_getElem? (i := 7) rfl)) (hw _ (List.mem_of_getElem? (i := 10) rfl)) (by decide) own_pd0 rfl rfl (W := 1) rfl (by decide) (by decide) (by decide) (by decide) own_d11_31 rfl ?_
  intro T19 v19 L19 X19 qq19
  obtain ⟨h19, e19⟩ : ∃ h, T19.heap = h := ⟨_, rfl⟩
  rw [e19] at qq19
  obtain ⟨rfl, n19, k19, p19_0, p19_1, p19_2, p19_3⟩ := qq19
  have f20 := f4.keep k19 (ninS ne2 nin0)
  have f21 := f5.keep k19 (ninS ne2 nin0)
  have f22 := f6.keep k19 (ninS ne2 nin0)
  have f23 := f7.keep k19 (ninS ne3 nin0)
  have f24 := f8.keep k19 (ninS ne3 nin0)
  have f25 := f9.keep k19 (ninS ne3 nin0)
  have f26 := A1.keep k19
  have z19 := Nat.le_trans z1 k19.1
  have K19 := K1.trans k19 (allS (Or.inr kp1) all0)
  have N19 := Fr.app N0 n19
  show Gf p e below P T19 m 34 #[.val (.ref a), .val (.ref b)] [(.ref rr)]
  exact g_retV X19 hx hby hf hlk hret own_d11_34 rfl rfl (Or.inr (Or.inr (Or.inr (Or.inr ⟨rfl, rfl, rfl⟩)))) (by decide) (by decide) e19 ⟨rr, rfl, N19, K19, kp1, p19_0, p19_1, p19_2, p19_3⟩
theorem own_d4_0 : decode prog_68_method_1_code 0 = .ok (.aload_n 0, 1) := by decide +kernel
theorem own_d4_1 : decode prog_68_method_1_code 1 = .ok (.invokespecial 1, 3) := by decide +kernel
theorem own_d4_4 : decode prog_68_method_1_code 4 = .ok (.aload_n 0, 1) := by decide +kernel
theorem own_d4_5 : decode prog_68_method_1_code 5 = .ok (.aload_n 1, 1) := by decide +kernel
theorem own_d4_6 : decode prog_68_method_1_code 6 = .ok (.invokevirtual 7, 3) := by decide +kernel
theorem own_d4_9 : decode prog_68_method_1_code 9 = .ok (.putfield 13, 3) := by decide +kernel
theorem own_d4_12 : decode prog_68_method_1_code 12 = .ok (.aload_n 0, 1) := by decide +kernel
theorem own_d4_13 : decode prog_68_method_1_code 13 = .ok (.aload_n 1, 1) := by decide +kernel
theorem own_d4_14 : decode prog_68_method_1_code 14 = .ok (.invokevirtual 19, 3) := by decide +kernel
theorem own_d4_17 : decode prog_68_method_1_code 17 = .ok (.putfield 22, 3) := by decide +kernel
theorem own_d4_20 : decode prog_68_method_1_code 20 = .ok (.aload_n 0, 1) := by decide +kernel
theorem own_d4_21 : decode prog_68_method_1_code 21 = .ok (.aload_n 1, 1) := by decide +kernel
theorem own_d4_22 : decode prog_68_method_1_code 22 = .ok (.invokevirtual 25, 3) := by decide +kernel
theorem own_d4_25 : decode prog_68_method_1_code 25 = .ok (.putfield 28, 3) := by decide +kernel
theorem own_d4_28 : decode prog_68_method_1_code 28 = .ok (.aload_n 0, 1) := by decide +kernel
theorem own_d4_29 : decode prog_68_method_1_code 29 = .ok (.aload 4, 2) := by decide +kernel
theorem own_d4_31 : decode prog_68_method_1_code 31 = .ok (.iconst 0, 1) := by decide +kernel
theorem own_d4_32 : decode prog_68_method_1_code 32 = .ok (.daload, 1) := by decide +kernel
theorem own_d4_33 : decode prog_68_method_1_code 33 = .ok (.putfield 31, 3) := by decide +kernel
theorem own_d4_36 : decode prog_68_method_1_code 36 = .ok (.aload_n 0, 1) := by decide +kernel
theorem own_d4_37 : decode prog_68_method_1_code 37 = .ok (.aload 4, 2) := by decide +kernel
theorem own_d4_39 : decode prog_68_method_1_code 39 = .ok (.iconst 1, 1) := by decide +kernel
theorem own_d4_40 : decode prog_68_method_1_code 40 = .ok (.daload, 1) := by decide +kernel
theorem own_d4_41 : decode prog_68_method_1_code 41 = .ok (.putfield 34, 3) := by decide +kernel
theorem own_d4_44 : decode prog_68_method_1_code 44 = .ok (.aload_n 2, 1) := by decide +kernel
theorem own_d4_45 : decode prog_68_method_1_code 45 = .ok (.aload_n 2, 1) := by decide +kernel
theorem own_d4_46 : decode prog_68_method_1_code 46 = .ok (.invokevirtual 37, 3) := by decide +kernel
theorem own_d4_49 : decode prog_68_method_1_code 49 = .ok (.dstore 5, 2) := by decide +kernel
theorem own_d4_51 : decode prog_68_method_1_code 51 = .ok (.aload_n 2, 1) := by decide +kernel
theorem own_d4_52 : decode prog_68_method_1_code 52 = .ok (.aload_n 3, 1) := by decide +kernel
theorem own_d4_53 : decode prog_68_method_1_code 53 = .ok (.invokevirtual 37, 3) := by decide +kernel
theorem own_d4_56 : decode prog_68_method_1_code 56 = .ok (.dstore 7, 2) := by decide +kernel
theorem own_d4_58 : decode prog_68_method_1_code 58 = .ok (.aload_n 3, 1) := by decide +kernel
theorem own_d4_59 : decode prog_68_method_1_code 59 = .ok (.aload_n 3, 1) := by decide +kernel
theorem own_d4_60 : decode prog_68_method_1_code 60 = .ok (.invokevirtual 37, 3) := by decide +kernel
theorem own_d4_63 : decode prog_68_method_1_code 63 = .ok (.dstore 9, 2) := by decide +kernel
theorem own_d4_65 : decode prog_68_method_1_code 65 = .ok (.dconst 1, 1) := by decide +kernel
theorem own_d4_66 : decode prog_68_method_1_code 66 = .ok (.dload 5, 2) := by decide +kernel
theorem own_d4_68 : decode prog_68_method_1_code 68 = .ok (.dload 9, 2) := by decide +kernel
theorem own_d4_70 : decode prog_68_method_1_code 70 = .ok (.dmul, 1) := by decide +kernel
theorem own_d4_71 : decode prog_68_method_1_code 71 = .ok (.dload 7, 2) := by decide +kernel
theorem own_d4_73 : decode prog_68_method_1_code 73 = .ok (.dload 7, 2) := by decide +kernel
theorem own_d4_75 : decode prog_68_method_1_code 75 = .ok (.dmul, 1) := by decide +kernel
theorem own_d4_76 : decode prog_68_method_1_code 76 = .ok (.dsub, 1) := by decide +kernel
theorem own_d4_77 : decode prog_68_method_1_code 77 = .ok (.ddiv, 1) := by decide +kernel
theorem own_d4_78 : decode prog_68_method_1_code 78 = .ok (.dstore 11, 2) := by decide +kernel
theorem own_d4_80 : decode prog_68_method_1_code 80 = .ok (.aload_n 2, 1) := by decide +kernel
theorem own_d4_81 : decode prog_68_method_1_code 81 = .ok (.dload 9, 2) := by decide +kernel
theorem own_d4_83 : decode prog_68_method_1_code 83 = .ok (.dload 11, 2) := by decide +kernel
theorem own_d4_85 : decode prog_68_method_1_code 85 = .ok (.dmul, 1) := by decide +kernel
theorem own_d4_86 : decode prog_68_method_1_code 86 = .ok (.invokevirtual 41, 3) := by decide +kernel
theorem own_d4_89 : decode prog_68_method_1_code 89 = .ok (.aload_n 3, 1) := by decide +kernel
theorem own_d4_90 : decode prog_68_method_1_code 90 = .ok (.dload 7, 2) := by decide +kernel
theorem own_d4_92 : decode prog_68_method_1_code 92 = .ok (.dload 11, 2) := by decide +kernel
theorem own_d4_94 : decode prog_68_method_1_code 94 = .ok (.dmul, 1) := by decide +kernel
theorem own_d4_95 : decode prog_68_method_1_code 95 = .ok (.invokevirtual 41, 3) := by decide +kernel
theorem own_d4_98 : decode prog_68_method_1_code 98 = .ok (.invokevirtual 45, 3) := by decide +kernel
theorem own_d4_101 : decode prog_68_method_1_code 101 = .ok (.astore 13, 2) := by decide +kernel
theorem own_d4_103 : decode prog_68_method_1_code 103 = .ok (.aload_n 3, 1) := by decide +kernel
theorem own_d4_104 : decode prog_68_method_1_code 104 = .ok (.dload 5, 2) := by decide +kernel
theorem own_d4_106 : decode prog_68_method_1_code 106 = .ok (.dload 11, 2) := by decide +kernel
theorem own_d4_108 : decode prog_68_method_1_code 108 = .ok (.dmul, 1) := by decide +kernel
theorem own_d4_109 : decode prog_68_method_1_code 109 = .ok (.invokevirtual 41, 3) := by decide +kernel
theorem own_d4_112 : decode prog_68_method_1_code 112 = .ok (.aload_n 2, 1) := by decide +kernel
theorem own_d4_113 : decode prog_68_method_1_code 113 = .ok (.dload 7, 2) := by decide +kernel
theorem own_d4_115 : decode prog_68_method_1_code 115 = .ok (.dload 11, 2) := by decide +kernel
theorem own_d4_117 : decode prog_68_method_1_code 117 = .ok (.dmul, 1) := by decide +kernel
theorem own_d4_118 : decode prog_68_method_1_code 118 = .ok (.invokevirtual 41, 3) := by decide +kernel
theorem own_d4_121 : decode prog_68_method_1_code 121 = .ok (.invokevirtual 45, 3) := by decide +kernel
theorem own_d4_124 : decode prog_68_method_1_code 124 = .ok (.astore 14, 2) := by decide +kernel
theorem own_d4_126 : decode prog_68_method_1_code 126 = .ok (.aload 13, 2) := by decide +kernel
theorem own_d4_128 : decode prog_68_method_1_code 128 = .ok (.aload 4, 2) := by decide +kernel
theorem own_d4_130 : decode prog_68_method_1_code 130 = .ok (.iconst 2, 1) := by decide +kernel
theorem own_d4_131 : decode prog_68_method_1_code 131 = .ok (.daload, 1) := by decide +kernel
theorem own_d4_132 : decode prog_68_method_1_code 132 = .ok (.aload 4, 2) := by decide +kernel
theorem own_d4_134 : decode prog_68_method_1_code 134 = .ok (.iconst 0, 1) := by decide +kernel
theorem own_d4_135 : decode prog_68_method_1_code 135 = .ok (.daload, 1) := by decide +kernel
theorem own_d4_136 : decode prog_68_method_1_code 136 = .ok (.dsub, 1) := by decide +kernel
theorem own_d4_137 : decode prog_68_method_1_code 137 = .ok (.invokevirtual 41, 3) := by decide +kernel
theorem own_d4_140 : decode prog_68_method_1_code 140 = .ok (.aload 14, 2) := by decide +kernel
theorem own_d4_142 : decode prog_68_method_1_code 142 = .ok (.aload 4, 2) := by decide +kernel
theorem own_d4_144 : decode prog_68_method_1_code 144 = .ok (.iconst 4, 1) := by decide +kernel
theorem own_d4_145 : decode prog_68_method_1_code 145 = .ok (.daload, 1) := by decide +kernel
theorem own_d4_146 : decode prog_68_method_1_code 146 = .ok (.aload 4, 2) := by decide +kernel
theorem own_d4_148 : decode prog_68_method_1_code 148 = .ok (.iconst 0, 1) := by decide +kernel
theorem own_d4_149 : decode prog_68_method_1_code 149 = .ok (.daload, 1) := by decide +kernel
theorem own_d4_150 : decode prog_68_method_1_code 150 = .ok (.dsub, 1) := by decide +kernel
theorem own_d4_151 : decode prog_68_method_1_code 151 = .ok (.invokevirtual 41, 3) := by decide +kernel
theorem own_d4_154 : decode prog_68_method_1_code 154 = .ok (.invokevirtual 49, 3) := by decide +kernel
theorem own_d4_157 : decode prog_68_method_1_code 157 = .ok (.astore 15, 2) := by decide +kernel
theorem own_d4_159 : decode prog_68_method_1_code 159 = .ok (.aload 13, 2) := by decide +kernel
theorem own_d4_161 : decode prog_68_method_1_code 161 = .ok (.aload 4, 2) := by decide +kernel
theorem own_d4_163 : decode prog_68_method_1_code 163 = .ok (.iconst 3, 1) := by decide +kernel
theorem own_d4_164 : decode prog_68_method_1_code 164 = .ok (.daload, 1) := by decide +kernel
theorem own_d4_165 : decode prog_68_method_1_code 165 = .ok (.aload 4, 2) := by decide +kernel
theorem own_d4_167 : decode prog_68_method_1_code 167 = .ok (.iconst 1, 1) := by decide +kernel
theorem own_d4_168 : decode prog_68_method_1_code 168 = .ok (.daload, 1) := by decide +kernel
theorem own_d4_169 : decode prog_68_method_1_code 169 = .ok (.dsub, 1) := by decide +kernel
theorem own_d4_170 : decode prog_68_method_1_code 170 = .ok (.invokevirtual 41, 3) := by decide +kernel
theorem own_d4_173 : decode prog_68_method_1_code 173 = .ok (.aload 14, 2) := by decide +kernel
theorem own_d4_175 : decode prog_68_method_1_code 175 = .ok (.aload 4, 2) := by decide +kernel
theorem own_d4_177 : decode prog_68_method_1_code 177 = .ok (.iconst 5, 1) := by decide +kernel
theorem own_d4_178 : decode prog_68_method_1_code 178 = .ok (.daload, 1) := by decide +kernel
theorem own_d4_179 : decode prog_68_method_1_code 179 = .ok (.aload 4, 2) := by decide +kernel
theorem own_d4_181 : decode prog_68_method_1_code 181 = .ok (.iconst 1, 1) := by decide +kernel
theorem own_d4_182 : decode prog_68_method_1_code 182 = .ok (.daload, 1) := by decide +kernel
theorem own_d4_183 : decode prog_68_method_1_code 183 = .ok (.dsub, 1) := by decide +kernel
theorem own_d4_184 : decode prog_68_method_1_code 184 = .ok (.invokevirtual 41, 3) := by decide +kernel
theorem own_d4_187 : decode prog_68_method_1_code 187 = .ok (.invokevirtual 49, 3) := by decide +kernel
theorem own_d4_190 : decode prog_68_method_1_code 190 = .ok (.astore 16, 2) := by decide +kernel
theorem own_d4_192 : decode prog_68_method_1_code 192 = .ok (.aload_n 0, 1) := by decide +kernel
theorem own_d4_193 : decode prog_68_method_1_code 193 = .ok (.aload 15, 2) := by decide +kernel
theorem own_d4_195 : decode prog_68_method_1_code 195 = .ok (.invokevirtual 7, 3) := by decide +kernel
theorem own_d4_198 : decode prog_68_method_1_code 198 = .ok (.putfield 52, 3) := by decide +kernel
theorem own_d4_201 : decode prog_68_method_1_code 201 = .ok (.aload_n 0, 1) := by decide +kernel
theorem own_d4_202 : decode prog_68_method_1_code 202 = .ok (.aload 15, 2) := by decide +kernel
theorem own_d4_204 : decode prog_68_method_1_code 204 = .ok (.invokevirtual 19, 3) := by decide +kernel
theorem own_d4_207 : decode prog_68_method_1_code 207 = .ok (.putfield 55, 3) := by decide +kernel
theorem own_d4_210 : decode prog_68_method_1_code 210 = .ok (.aload_n 0, 1) := by decide +kernel
theorem own_d4_211 : decode prog_68_method_1_code 211 = .ok (.aload 15, 2) := by decide +kernel
theorem own_d4_213 : decode prog_68_method_1_code 213 = .ok (.invokevirtual 25, 3) := by decide +kernel
theorem own_d4_216 : decode prog_68_method_1_code 216 = .ok (.putfield 58, 3) := by decide +kernel
theorem own_d4_219 : decode prog_68_method_1_code 219 = .ok (.aload_n 0, 1) := by decide +kernel
theorem own_d4_220 : decode prog_68_method_1_code 220 = .ok (.aload 16, 2) := by decide +kernel
theorem own_d4_222 : decode prog_68_method_1_code 222 = .ok (.invokevirtual 7, 3) := by decide +kernel
theorem own_d4_225 : decode prog_68_method_1_code 225 = .ok (.putfield 61, 3) := by decide +kernel
theorem own_d4_228 : decode prog_68_method_1_code 228 = .ok (.aload_n 0, 1) := by decide +kernel
theorem own_d4_229 : decode prog_68_method_1_code 229 = .ok (.aload 16, 2) := by decide +kernel
theorem own_d4_231 : decode prog_68_method_1_code 231 = .ok (.invokevirtual 19, 3) := by decide +kernel
theorem own_d4_234 : decode prog_68_method_1_code 234 = .ok (.putfield 64, 3) := by decide +kernel
theorem own_d4_237 : decode prog_68_method_1_code 237 = .ok (.aload_n 0, 1) := by decide +kernel
theorem own_d4_238 : decode prog_68_method_1_code 238 = .ok (.aload 16, 2) := by decide +kernel
theorem own_d4_240 : decode prog_68_method_1_code 240 = .ok (.invokevirtual 25, 3) := by decide +kernel
theorem own_d4_243 : decode prog_68_method_1_code 243 = .ok (.putfield 67, 3) := by decide +kernel
theorem own_d4_246 : decode prog_68_method_1_code 246 = .ok (.return_, 1) := by decide +kernel
def own_Q4 (Z : State) (a : Addr) (f : Addr) (ea : Addr) (eb : Addr) (uv : Addr) (fx : UInt64) (fy : UInt64) (fz : UInt64) (xa : UInt64) (ya : UInt64) (za : UInt64) (xb : UInt64) (yb : UInt64) (zb : UInt64) (u0 : UInt64) (u1 : UInt64) (u2 : UInt64) (u3 : UInt64) (u4 : UInt64) (u5 : UInt64) (kA : ClassId) (av : UInt64) (bv : UInt64) (cv : UInt64) (iv : UInt64) (ck : UInt64) (bk : UInt64) (ak : UInt64) (sx : UInt64) (sy : UInt64) (sz : UInt64) (tx : UInt64) (ty : UInt64) (tz : UInt64) (du2 : UInt64) (du3 : UInt64) (dv2 : UInt64) (dv3 : UInt64) (gx : UInt64) (gy : UInt64) (gz : UInt64) (wx : UInt64) (wy : UInt64) (wz : UInt64) (h0 : Heap) (n0 : Nat) (v : Option Value) (h : Heap) (L : List Loc) : Prop := v = none ∧ Fr n0 L ∧ Keep h0 h [a] ∧ Exa Z h a "com/example/stochastic_ray_tracer/stochasticraytracer/TextureCoordinates" ∧ Fld Z h a "com/example/stochastic_ray_tracer/stochasticraytracer/TextureCoordinates" "cornerX" "D" (.double fx) ∧ Fld Z h a "com/example/stochastic_ray_tracer/stochasticraytracer/TextureCoordinates" "cornerY" "D" (.double fy) ∧ Fld Z h a "com/example/stochastic_ray_tracer/stochasticraytracer/TextureCoordinates" "cornerZ" "D" (.double fz) ∧ Fld Z h a "com/example/stochastic_ray_tracer/stochasticraytracer/TextureCoordinates" "cornerU" "D" (.double u0) ∧ Fld Z h a "com/example/stochastic_ray_tracer/stochasticraytracer/TextureCoordinates" "cornerV" "D" (.double u1) ∧ Fld Z h a "com/example/stochastic_ray_tracer/stochasticraytracer/TextureCoordinates" "uGradientX" "D" (.double gx) ∧ Fld Z h a "com/example/stochastic_ray_tracer/stochasticraytracer/TextureCoordinates" "uGradientY" "D" (.double gy) ∧ Fld Z h a "com/example/stochastic_ray_tracer/stochasticraytracer/TextureCoordinates" "uGradientZ" "D" (.double gz) ∧ Fld Z h a "com/example/stochastic_ray_tracer/stochasticraytracer/TextureCoordinates" "vGradientX" "D" (.double wx) ∧ Fld Z h a "com/example/stochastic_ray_tracer/stochasticraytracer/TextureCoordinates" "vGradientY" "D" (.double wy) ∧ Fld Z h a "com/example/stochastic_ray_tracer/stochasticraytracer/TextureCoordinates" "vGradientZ" "D" (.double wz)
set_option maxRecDepth 65536 in
set_option maxHeartbeats 40000000 in
theorem own_rm4 (l : Launch) (Z : State) (a0 : Array Value) (hw : ∀ d ∈ tables_1, d.before a0 Z = true) (ws : List Jvm.Cond) (a : Addr) (f : Addr) (ea : Addr) (eb : Addr) (uv : Addr) (fx : UInt64) (fy : UInt64) (fz : UInt64) (xa : UInt64) (ya : UInt64) (za : UInt64) (xb : UInt64) (yb : UInt64) (zb : UInt64) (u0 : UInt64) (u1 : UInt64) (u2 : UInt64) (u3 : UInt64) (u4 : UInt64) (u5 : UInt64) (kA : ClassId) (av : UInt64) (bv : UInt64) (cv : UInt64) (iv : UInt64) (ck : UInt64) (bk : UInt64) (ak : UInt64) (sx : UInt64) (sy : UInt64) (sz : UInt64) (tx : UInt64) (ty : UInt64) (tz : UInt64) (du2 : UInt64) (du3 : UInt64) (dv2 : UInt64) (dv3 : UInt64) (gx : UInt64) (gy : UInt64) (gz : UInt64) (wx : UInt64) (wy : UInt64) (wz : UInt64) (h0 : Heap) (n0 : Nat) (Z0 : n0 ≤ h0.size) (c0 : Exa Z h0 a "com/example/stochastic_ray_tracer/stochasticraytracer/TextureCoordinates") (c1 : Fld Z h0 a "com/example/stochastic_ray_tracer/stochasticraytracer/TextureCoordinates" "cornerX" "D" (.double (0 : UInt64))) (c2 : Fld Z h0 a "com/example/stochastic_ray_tracer/stochasticraytracer/TextureCoordinates" "cornerY" "D" (.double (0 : UInt64))) (c3 : Fld Z h0 a "com/example/stochastic_ray_tracer/stochasticraytracer/TextureCoordinates" "cornerZ" "D" (.double (0 : UInt64))) (c4 : Fld Z h0 a "com/example/stochastic_ray_tracer/stochasticraytracer/TextureCoordinates" "cornerU" "D" (.double (0 : UInt64))) (c5 : Fld Z h0 a "com/example/stochastic_ray_tracer/stochasticraytracer/TextureCoordinates" "cornerV" "D" (.double (0 : UInt64))) (c6 : Fld Z h0 a "com/example/stochastic_ray_tracer/stochasticraytracer/TextureCoordinates" "uGradientX" "D" (.double (0 : UInt64))) (c7 : Fld Z h0 a "com/example/stochastic_ray_tracer/stochasticraytracer/TextureCoordinates" "uGradientY" "D" (.double (0 : UInt64))) (c8 : Fld Z h0 a "com/example/stochastic_ray_tracer/stochasticraytracer/TextureCoordinates" "uGradientZ" "D" (.double (0 : UInt64))) (c9 : Fld Z h0 a "com/example/stochastic_ray_tracer/stochasticraytracer/TextureCoordinates" "vGradientX" "D" (.double (0 : UInt64))) (c10 : Fld Z h0 a "com/example/stochastic_ray_tracer/stochasticraytracer/TextureCoordinates" "vGradientY" "D" (.double (0 : UInt64))) (c11 : Fld Z h0 a "com/example/stochastic_ray_tracer/stochasticraytracer/TextureCoordinates" "vGradientZ" "D" (.double (0 : UInt64))) (c12 : n0 ≤ a) (c13 : Exa Z h0 f "com/example/stochastic_ray_tracer/stochasticraytracer/Vec3") (c14 : Exa Z h0 ea "com/example/stochastic_ray_tracer/stochasticraytracer/Vec3") (c15 : Exa Z h0 eb "com/example/stochastic_ray_tracer/stochasticraytracer/Vec3") (c16 : Fld Z h0 f "com/example/stochastic_ray_tracer/stochasticraytracer/Vec3" "x" "D" (.double fx)) (c17 : Fld Z h0 f "com/example/stochastic_ray_tracer/stochasticraytracer/Vec3" "y" "D" (.double fy)) (c18 : Fld Z h0 f "com/example/stochastic_ray_tracer/stochasticraytracer/Vec3" "z" "D" (.double fz)) (c19 : Fld Z h0 ea "com/example/stochastic_ray_tracer/stochasticraytracer/Vec3" "x" "D" (.double xa)) (c20 : Fld Z h0 ea "com/example/stochastic_ray_tracer/stochasticraytracer/Vec3" "y" "D" (.double ya)) (c21 : Fld Z h0 ea "com/example/stochastic_ray_tracer/stochasticraytracer/Vec3" "z" "D" (.double za)) (c22 : Fld Z h0 eb "com/example/stochastic_ray_tracer/stochasticraytracer/Vec3" "x" "D" (.double xb)) (c23 : Fld Z h0 eb "com/example/stochastic_ray_tracer/stochasticraytracer/Vec3" "y" "D" (.double yb)) (c24 : Fld Z h0 eb "com/example/stochastic_ray_tracer/stochasticraytracer/Vec3" "z" "D" (.double zb)) (c25 : Arv Z h0 uv kA .double (6 : Int32) [(.double u0), (.double u1), (.double u2), (.double u3), (.double u4), (.double u5)] (.double (0 : UInt64))) (ne_f : f ≠ a) (ne_ea : ea ≠ a) (ne_eb : eb ≠ a) (ne_uv : uv ≠ a) (E_av : (FP.dadd (FP.dadd (FP.dmul xa xa) (FP.dmul ya ya)) (FP.dmul za za)) = av) (E_bv : (FP.dadd (FP.dadd (FP.dmul xa xb) (FP.dmul ya yb)) (FP.dmul za zb)) = bv) (E_cv : (FP.dadd (FP.dadd (FP.dmul xb xb) (FP.dmul yb yb)) (FP.dmul zb zb)) = cv) (E_iv : (FP.ddiv (4607182418800017408 : UInt64) (FP.dsub (FP.dmul av cv) (FP.dmul bv bv))) = iv) (E_ck : (FP.dmul cv iv) = ck) (E_bk : (FP.dmul bv iv) = bk) (E_ak : (FP.dmul av iv) = ak) (E_sx : (FP.dsub (FP.dmul xa ck) (FP.dmul xb bk)) = sx) (E_sy : (FP.dsub (FP.dmul ya ck) (FP.dmul yb bk)) = sy) (E_sz : (FP.dsub (FP.dmul za ck) (FP.dmul zb bk)) = sz) (E_tx : (FP.dsub (FP.dmul xb ak) (FP.dmul xa bk)) = tx) (E_ty : (FP.dsub (FP.dmul yb ak) (FP.dmul ya bk)) = ty) (E_tz : (FP.dsub (FP.dmul zb ak) (FP.dmul za bk)) = tz) (E_du2 : (FP.dsub u2 u0) = du2) (E_du3 : (FP.dsub u4 u0) = du3) (E_dv2 : (FP.dsub u3 u1) = dv2) (E_dv3 : (FP.dsub u5 u1) = dv3) (E_gx : (FP.dadd (FP.dmul sx du2) (FP.dmul tx du3)) = gx) (E_gy : (FP.dadd (FP.dmul sy du2) (FP.dmul ty du3)) = gy) (E_gz : (FP.dadd (FP.dmul sz du2) (FP.dmul tz du3)) = gz) (E_wx : (FP.dadd (FP.dmul sx dv2) (FP.dmul tx dv3)) = wx) (E_wy : (FP.dadd (FP.dmul sy dv2) (FP.dmul ty dv3)) = wy) (E_wz : (FP.dadd (FP.dmul sz dv2) (FP.dmul tz dv3)) = wz) (nn46_nn8 : Jvm.Free.Fl.NoNaN64 (FP.dmul xa xa)) (nn46_nn17 : Jvm.Free.Fl.NoNaN64 (FP.dmul ya ya)) (nn46_nn18 : Jvm.Free.Fl.NoNaN64 (FP.dadd (FP.dmul xa xa) (FP.dmul ya ya))) (nn46_nn27 : Jvm.Free.Fl.NoNaN64 (FP.dmul za za)) (nn46_nn28 : Jvm.Free.Fl.NoNaN64 (FP.dadd (FP.dadd (FP.dmul xa xa) (FP.dmul ya ya)) (FP.dmul za za))) (nn53_nn8 : Jvm.Free.Fl.NoNaN64 (FP.dmul xa xb)) (nn53_nn17 : Jvm.Free.Fl.NoNaN64 (FP.dmul ya yb)) (nn53_nn18 : Jvm.Free.Fl.NoNaN64 (FP.dadd (FP.dmul xa xb) (FP.dmul ya yb))) (nn53_nn27 : Jvm.Free.Fl.NoNaN64 (FP.dmul za zb)) (nn53_nn28 : Jvm.Free.Fl.NoNaN64 (FP.dadd (FP.dadd (FP.dmul xa xb) (FP.dmul ya yb)) (FP.dmul za zb))) (nn60_nn8 : Jvm.Free.Fl.NoNaN64 (FP.dmul xb xb)) (nn60_nn17 : Jvm.Free.Fl.NoNaN64 (FP.dmul yb yb)) (nn60_nn18 : Jvm.Free.Fl.NoNaN64 (FP.dadd (FP.dmul xb xb) (FP.dmul yb yb))) (nn60_nn27 : Jvm.Free.Fl.NoNaN64 (FP.dmul zb zb)) (nn60_nn28 : Jvm.Free.Fl.NoNaN64 (FP.dadd (FP.dadd (FP.dmul xb xb) (FP.dmul yb yb)) (FP.dmul zb zb))) (nn70 : Jvm.Free.Fl.NoNaN64 (FP.dmul av cv)) (nn75 : Jvm.Free.Fl.NoNaN64 (FP.dmul bv bv)) (nn76 : Jvm.Free.Fl.NoNaN64 (FP.dsub (FP.dmul av cv) (FP.dmul bv bv))) (nn77 : Jvm.Free.Fl.NoNaN64 (FP.ddiv (4607182418800017408 : UInt64) (FP.dsub (FP.dmul av cv) (FP.dmul bv bv)))) (nn85 : Jvm.Free.Fl.NoNaN64 (FP.dmul cv iv)) (nn86_nn9 : Jvm.Free.Fl.NoNaN64 (FP.dmul xa ck)) (nn86_nn15 : Jvm.Free.Fl.NoNaN64 (FP.dmul ya ck)) (nn86_nn21 : Jvm.Free.Fl.NoNaN64 (FP.dmul za ck)) (nn94 : Jvm.Free.Fl.NoNaN64 (FP.dmul bv iv)) (nn95_nn9 : Jvm.Free.Fl.NoNaN64 (FP.dmul xb bk)) (nn95_nn15 : Jvm.Free.Fl.NoNaN64 (FP.dmul yb bk)) (nn95_nn21 : Jvm.Free.Fl.NoNaN64 (FP.dmul zb bk)) (nn98_nn12 : Jvm.Free.Fl.NoNaN64 (FP.dsub (FP.dmul xa ck) (FP.dmul xb bk))) (nn98_nn21 : Jvm.Free.Fl.NoNaN64 (FP.dsub (FP.dmul ya ck) (FP.dmul yb bk))) (nn98_nn30 : Jvm.Free.Fl.NoNaN64 (FP.dsub (FP.dmul za ck) (FP.dmul zb bk))) (nn108 : Jvm.Free.Fl.NoNaN64 (FP.dmul av iv)) (nn109_nn9 : Jvm.Free.Fl.NoNaN64 (FP.dmul xb ak)) (nn109_nn15 : Jvm.Free.Fl.NoNaN64 (FP.dmul yb ak)) (nn109_nn21 : Jvm.Free.Fl.NoNaN64 (FP.dmul zb ak)) (nn117 : Jvm.Free.Fl.NoNaN64 (FP.dmul bv iv)) (nn118_nn9 : Jvm.Free.Fl.NoNaN64 (FP.dmul xa bk)) (nn118_nn15 : Jvm.Free.Fl.NoNaN64 (FP.dmul ya bk)) (nn118_nn21 : Jvm.Free.Fl.NoNaN64 (FP.dmul za bk)) (nn121_nn12 : Jvm.Free.Fl.NoNaN64 (FP.dsub (FP.dmul xb ak) (FP.dmul xa bk))) (nn121_nn21 : Jvm.Free.Fl.NoNaN64 (FP.dsub (FP.dmul yb ak) (FP.dmul ya bk))) (nn121_nn30 : Jvm.Free.Fl.NoNaN64 (FP.dsub (FP.dmul zb ak) (FP.dmul za bk))) (nn136 : Jvm.Free.Fl.NoNaN64 (FP.dsub u2 u0)) (nn137_nn9 : Jvm.Free.Fl.NoNaN64 (FP.dmul sx du2)) (nn137_nn15 : Jvm.Free.Fl.NoNaN64 (FP.dmul sy du2)) (nn137_nn21 : Jvm.Free.Fl.NoNaN64 (FP.dmul sz du2)) (nn150 : Jvm.Free.Fl.NoNaN64 (FP.dsub u4 u0)) (nn151_nn9 : Jvm.Free.Fl.NoNaN64 (FP.dmul tx du3)) (nn151_nn15 : Jvm.Free.Fl.NoNaN64 (FP.dmul ty du3)) (nn151_nn21 : Jvm.Free.Fl.NoNaN64 (FP.dmul tz du3)) (nn154_nn12 : Jvm.Free.Fl.NoNaN64 (FP.dadd (FP.dmul sx du2) (FP.dmul tx du3))) (nn154_nn21 : Jvm.Free.Fl.NoNaN64 (FP.dadd (FP.dmul sy du2) (FP.dmul ty du3))) (nn154_nn30 : Jvm.Free.Fl.NoNaN64 (FP.dadd (FP.dmul sz du2) (FP.dmul tz du3))) (nn169 : Jvm.Free.Fl.NoNaN64 (FP.dsub u3 u1)) (nn170_nn9 : Jvm.Free.Fl.NoNaN64 (FP.dmul sx dv2)) (nn170_nn15 : Jvm.Free.Fl.NoNaN64 (FP.dmul sy dv2)) (nn170_nn21 : Jvm.Free.Fl.NoNaN64 (FP.dmul sz dv2)) (nn183 : Jvm.Free.Fl.NoNaN64 (FP.dsub u5 u1)) (nn184_nn9 : Jvm.Free.Fl.NoNaN64 (FP.dmul tx dv3)) (nn184_nn15 : Jvm.Free.Fl.NoNaN64 (FP.dmul ty dv3)) (nn184_nn21 : Jvm.Free.Fl.NoNaN64 (FP.dmul tz dv3)) (nn187_nn12 : Jvm.Free.Fl.NoNaN64 (FP.dadd (FP.dmul sx dv2) (FP.dmul tx dv3))) (nn187_nn21 : Jvm.Free.Fl.NoNaN64 (FP.dadd (FP.dmul sy dv2) (FP.dmul ty dv3))) (nn187_nn30 : Jvm.Free.Fl.NoNaN64 (FP.dadd (FP.dmul sz dv2) (FP.dmul tz dv3))) :
    Con l Z (⟨"com/example/stochastic_ray_tracer/stochasticraytracer/TextureCoordinates", "<init>", "(Lcom/example/stochastic_ray_tracer/stochasticraytracer/Vec3;Lcom/example/stochastic_ray_tracer/stochasticraytracer/Vec3;Lcom/example/stochastic_ray_tracer/stochasticraytracer/Vec3;[D)V"⟩ : MethodName) prog_68_method_1_code 17 none ws ({ frames := 3, cells := 12, slots := 36, locals := 46 } : Room) #[(.ref a), (.ref f), (.ref ea), (.ref eb), (.ref uv)] h0 (own_Q4 Z a f ea eb uv fx fy fz xa ya za xb yb zb u0 u1 u2 u3 u4 u5 kA av bv cv iv ck bk ak sx sy sz tx ty tz du2 du3 dv2 dv3 gx gy gz wx wy wz h0 n0) := by
  refine Con.start #[.val (.ref a), .val (.ref f), .val (.ref ea), .val (.ref eb), .val (.ref uv), .unset, .unset, .unset, .unset, .unset, .unset, .unset, .unset, .unset, .unset, .unset, .unset] (plainFor_of_name own_pn2) (fun m => by first | (refine own_ef ?_; exact rfl) | (simp [entryFrame, mkF, argsToLocals, Value.category]; done) | rfl) ?_
  intro p e s m below meth c s₁ P X0 hx hby hml hret hlk hown hnm hZ e0 hf
  have hml : c.maxLocals = 17 := hml
  have N0 := Fr.nil n0
  have K0 : Keep h0 h0 [a] := Keep.refl _ _
  refine g_aloadN (pc' := 1) X0 hx hby (v := (.ref a)) own_d4_0 rfl rfl rfl ?_
  refine g_initO (pc' := 4) X0 hx hby hZ hown (hw _ (List.mem_of_getElem? (i := 26) rfl)) (hw _ (List.mem_of_getElem? (i := 12) rfl)) (hw _ (List.mem_of_getElem? (i := 13) rfl)) e0 (by rw [hml]; rfl) rfl own_d4_1 rfl (by decide) (W := 0) rfl (by decide) ?_
  intro T1 X1 e1
  refine g_aloadN (pc' := 5) X1 hx hby (v := (.ref a)) own_d4_4 rfl rfl rfl ?_
  refine g_aloadN (pc' := 6) X1 hx hby (v := (.ref f)) own_d4_5 rfl rfl rfl ?_
  refine g_virt (argsL := []) (pc' := 9) X1 hx hby (by rw [hml]; rfl) hZ hown e1 (own_rm5 l Z a0 hw [] f fx h0 n0 Z0 c16) (hw _ (List.mem_of_getElem? (i := 27) rfl)) (hw _ (List.mem_of_getElem? (i := 28) rfl)) (hw _ (List.mem_of_getElem? (i := 30) rfl)) (hw _ (List.mem_of_getElem? (i := 29) rfl)) (hw _ (List.mem_of_getElem? (i := 7) rfl)) (hw _ (List.mem_of_getElem? (i := 31) rfl)) (by decide) c13 own_pd1 rfl rfl (W := 1) rfl (by decide) (by decide) (by decide) (by decide) own_d4_6 rfl ?_
  intro T2 v2 L2 X2 qq2
  obtain ⟨rfl, n2, e2⟩ := qq2
  have N2 := Fr.app N0 n2
  show Gf p e below P T2 m 9 #[.val (.ref a), .val (.ref f), .val (.ref ea), .val (.ref eb), .val (.ref uv), .unset, .unset, .unset, .unset, .unset, .unset, .unset, .unset, .unset, .unset, .unset, .unset] [(.double fx), (.ref a)]
  refine g_putF (pc' := 12) X2 hx hby hZ hown (host := "") (Or.inl (hw _ (List.mem_of_getElem? (i := 32) rfl))) Via.refl e2 c1 c0 (Or.inr ⟨(hw _ (List.mem_of_getElem? (i := 33) rfl)), rfl, hnm⟩) (hw _ (List.mem_of_getElem? (i := 21) rfl)) (ty := .double) own_fd0 rfl rfl rfl own_d4_9 rfl N2 c12 ?_
  intro T3 h3 X3 e3 W3 N3
  have f4 := c0.wr W3
  have f5 := c1.same W3
  have f6 := c2.other W3 (Or.inr (slot_ne (Or.inr (hw _ (List.mem_of_getElem? (i := 40) rfl))) (Or.inr (hw _ (List.mem_of_getElem? (i := 33) rfl))) own_nes6 own_fd0 own_fd0))
  have f7 := c3.other W3 (Or.inr (slot_ne (Or.inr (hw _ (List.mem_of_getElem? (i := 47) rfl))) (Or.inr (hw _ (List.mem_of_getElem? (i := 33) rfl))) own_nes7 own_fd0 own_fd0))
  have f8 := c4.other W3 (Or.inr (slot_ne (Or.inr (hw _ (List.mem_of_getElem? (i := 49) rfl))) (Or.inr (hw _ (List.mem_of_getElem? (i := 33) rfl))) own_nes8 own_fd0 own_fd0))
  have f9 := c5.other W3 (Or.inr (slot_ne (Or.inr (hw _ (List.mem_of_getElem? (i := 51) rfl))) (Or.inr (hw _ (List.mem_of_getElem? (i := 33) rfl))) own_nes9 own_fd0 own_fd0))
  have f10 := c6.other W3 (Or.inr (slot_ne (Or.inr (hw _ (List.mem_of_getElem? (i := 75) rfl))) (Or.inr (hw _ (List.mem_of_getElem? (i := 33) rfl))) own_nes10 own_fd0 own_fd0))
  have f11 := c7.other W3 (Or.inr (slot_ne (Or.inr (hw _ (List.mem_of_getElem? (i := 77) rfl))) (Or.inr (hw _ (List.mem_of_getElem? (i := 33) rfl))) own_nes11 own_fd0 own_fd0))
  have f12 := c8.other W3 (Or.inr (slot_ne (Or.inr (hw _ (List.mem_of_getElem? (i := 79) rfl))) (Or.inr (hw _ (List.mem_of_getElem? (i := 33) rfl))) own_nes12 own_fd0 own_fd0))
  have f13 := c9.other W3 (Or.inr (slot_ne (Or.inr (hw _ (List.mem_of_getElem? (i := 81) rfl))) (Or.inr (hw _ (List.mem_of_getElem? (i := 33) rfl))) own_nes13 own_fd0 own_fd0))
  have f14 := c10.other W3 (Or.inr (slot_ne (Or.inr (hw _ (List.mem_of_getElem? (i := 83) rfl))) (Or.inr (hw _ (List.mem_of_getElem? (i := 33) rfl))) own_nes14 own_fd0 own_fd0))
  have f15 := c11.other W3 (Or.inr (slot_ne (Or.inr (hw _ (List.mem_of_getElem? (i := 85) rfl))) (Or.inr (hw _ (List.mem_of_getElem? (i := 33) rfl))) own_nes15 own_fd0 own_fd0))
  have f16 := c13.wr W3
  have f17 := c14.wr W3
  have f18 := c15.wr W3
  have f19 := c16.other W3 (Or.inl ne_f)
  have f20 := c17.other W3 (Or.inl ne_f)
  have f21 := c18.other W3 (Or.inl ne_f)
  have f22 := c19.other W3 (Or.inl ne_ea)
  have f23 := c20.other W3 (Or.inl ne_ea)
  have f24 := c21.other W3 (Or.inl ne_ea)
  have f25 := c22.other W3 (Or.inl ne_eb)
  have f26 := c23.other W3 (Or.inl ne_eb)
  have f27 := c24.other W3 (Or.inl ne_eb)
  have f28 := c25.other W3 ne_uv
  have z3 := Nat.le_trans Z0 (Keep.of_wr W3).1
  have K3 := K0.wr W3 (Or.inl (List.mem_of_getElem? (i := 0) rfl))
  refine g_aloadN (pc' := 13) X3 hx hby (v := (.ref a)) own_d4_12 rfl rfl rfl ?_
  refine g_aloadN (pc' := 14) X3 hx hby (v := (.ref f)) own_d4_13 rfl rfl rfl ?_
  refine g_virt (argsL := []) (pc' := 17) X3 hx hby (by rw [hml]; rfl) hZ hown e3 (own_rm6 l Z a0 hw [] f fy h3 n0 z3 f20) (hw _ (List.mem_of_getElem? (i := 34) rfl)) (hw _ (List.mem_of_getElem? (i := 35) rfl)) (hw _ (List.mem_of_getElem? (i := 37) rfl)) (hw _ (List.mem_of_getElem? (i := 36) rfl)) (hw _ (List.mem_of_getElem? (i := 7) rfl)) (hw _ (List.mem_of_getElem? (i := 38) rfl)) (by decide) f16 own_pd1 rfl rfl (W := 1) rfl (by decide) (by decide) (by decide) (by decide) own_d4_14 rfl ?_
  intro T29 v29 L29 X29 qq29
  obtain ⟨rfl, n29, e29⟩ := qq29
  have N29 := Fr.app N3 n29
  show Gf p e below P T29 m 17 #[.val (.ref a), .val (.ref f), .val (.ref ea), .val (.ref eb), .val (.ref uv), .unset, .unset, .unset, .unset, .unset, .unset, .unset, .unset, .unset, .unset, .unset, .unset] [(.double fy), (.ref a)]
  refine g_putF (pc' := 20) X29 hx hby hZ hown (host := "") (Or.inl (hw _ (List.mem_of_getElem? (i := 39) rfl))) Via.refl e29 f6 f4 (Or.inr ⟨(hw _ (List.mem_of_getElem? (i := 40) rfl)), rfl, hnm⟩) (hw _ (List.mem_of_getElem? (i := 21) rfl)) (ty := .double) own_fd0 rfl rfl rfl own_d4_17 rfl N29 c12 ?_
  intro T30 h30 X30 e30 W30 N30
  have f31 := f4.wr W30
  have f32 := f5.other W30 (Or.inr (slot_ne (Or.inr (hw _ (List.mem_of_getElem? (i := 33) rfl))) (Or.inr (hw _ (List.mem_of_getElem? (i := 40) rfl))) own_nes16 own_fd0 own_fd0))
  have f33 := f6.same W30
  have f34 := f7.other W30 (Or.inr (slot_ne (Or.inr (hw _ (List.mem_of_getElem? (i := 47) rfl))) (Or.inr (hw _ (List.mem_of_getElem? (i := 40) rfl))) own_nes17 own_fd0 own_fd0))
  have f35 := f8.other W30 (Or.inr (slot_ne (Or.inr (hw _ (List.mem_of_getElem? (i := 49) rfl))) (Or.inr (hw _ (List.mem_of_getElem? (i := 40) rfl))) own_nes18 own_fd0 own_fd0))
  have f36 := f9.other W30 (Or.inr (slot_ne (Or.inr (hw _ (List.mem_of_getElem? (i := 51) rfl))) (Or.inr (hw _ (List.mem_of_getElem? (i := 40) rfl))) own_nes19 own_fd0 own_fd0))
  have f37 := f10.other W30 (Or.inr (slot_ne (Or.inr (hw _ (List.mem_of_getElem? (i := 75) rfl))) (Or.inr (hw _ (List.mem_of_getElem? (i := 40) rfl))) own_nes20 own_fd0 own_fd0))
  have f38 := f11.other W30 (Or.inr (slot_ne (Or.inr (hw _ (List.mem_of_getElem? (i := 77) rfl))) (Or.inr (hw _ (List.mem_of_getElem? (i := 40) rfl))) own_nes21 own_fd0 own_fd0))
  have f39 := f12.other W30 (Or.inr (slot_ne (Or.inr (hw _ (List.mem_of_getElem? (i := 79) rfl))) (Or.inr (hw _ (List.mem_of_getElem? (i := 40) rfl))) own_nes22 own_fd0 own_fd0))
  have f40 := f13.other W30 (Or.inr (slot_ne (Or.inr (hw _ (List.mem_of_getElem? (i := 81) rfl))) (Or.inr (hw _ (List.mem_of_getElem? (i := 40) rfl))) own_nes23 own_fd0 own_fd0))
  have f41 := f14.other W30 (Or.inr (slot_ne (Or.inr (hw _ (List.mem_of_getElem? (i := 83) rfl))) (Or.inr (hw _ (List.mem_of_getElem? (i := 40) rfl))) own_nes24 own_fd0 own_fd0))
  have f42 := f15.other W30 (Or.inr (slot_ne (Or.inr (hw _ (List.mem_of_getElem? (i := 85) rfl))) (Or.inr (hw _ (List.mem_of_getElem? (i := 40) rfl))) own_nes25 own_fd0 own_fd0))
  have f43 := f16.wr W30
  have f44 := f17.wr W30
  have f45 := f18.wr W30
  have f46 := f19.other W30 (Or.inl ne_f)
  have f47 := f20.other W30 (Or.inl ne_f)
  have f48 := f21.other W30 (Or.inl ne_f)
  have f49 := f22.other W30 (Or.inl ne_ea)
  have f50 := f23.other W30 (Or.inl ne_ea)
  have f51 := f24.other W30 (Or.inl ne_ea)
  have f52 := f25.other W30 (Or.inl ne_eb)
  have f53 := f26.other W30 (Or.inl ne_eb)
  have f54 := f27.other W30 (Or.inl ne_eb)
  have f55 := f28.other W30 ne_uv
  have z30 := Nat.le_trans z3 (Keep.of_wr W30).1
  have K30 := K3.wr W30 (Or.inl (List.mem_of_getElem? (i := 0) rfl))
  refine g_aloadN (pc' := 21) X30 hx hby (v := (.ref a)) own_d4_20 rfl rfl rfl ?_
  refine g_aloadN (pc' := 22) X30 hx hby (v := (.ref f)) own_d4_21 rfl rfl rfl ?_
  refine g_virt (argsL := []) (pc' := 25) X30 hx hby (by rw [hml]; rfl) hZ hown e30 (own_rm7 l Z a0 hw [] f fz h30 n0 z30 f48) (hw _ (List.mem_of_getElem? (i := 41) rfl)) (hw _ (List.mem_of_getElem? (i := 42) rfl)) (hw _ (List.mem_of_getElem? (i := 44) rfl)) (hw _ (List.mem_of_getElem? (i := 43) rfl)) (hw _ (List.mem_of_getElem? (i := 7) rfl)) (hw _ (List.mem_of_getElem? (i := 45) rfl)) (by decide) f43 own_pd1 rfl rfl (W := 1) rfl (by decide) (by decide) (by decide) (by decide) own_d4_22 rfl ?_
  intro T56 v56 L56 X56 qq56
  obtain ⟨rfl, n56, e56⟩ := qq56
  have N56 := Fr.app N30 n56
  show Gf p e below P T56 m 25 #[.val (.ref a), .val (.ref f), .val (.ref ea), .val (.ref eb), .val (.ref uv), .unset, .unset, .unset, .unset, .unset, .unset, .unset, .unset, .unset, .unset, .unset, .unset] [(.double fz), (.ref a)]
  refine g_putF (pc' := 28) X56 hx hby hZ hown (host := "") (Or.inl (hw _ (List.mem_of_getElem? (i := 46) rfl))) Via.refl e56 f34 f31 (Or.inr ⟨(hw _ (List.mem_of_getElem? (i := 47) rfl)), rfl, hnm⟩) (hw _ (List.mem_of_getElem? (i := 21) rfl)) (ty := .double) own_fd0 rfl rfl rfl own_d4_25 rfl N56 c12 ?_
  intro T57 h57 X57 e57 W57 N57
  have f58 := f31.wr W57
  have f59 := f32.other W57 (Or.inr (slot_ne (Or.inr (hw _ (List.mem_of_getElem? (i := 33) rfl))) (Or.inr (hw _ (List.mem_of_getElem? (i := 47) rfl))) own_nes26 own_fd0 own_fd0))
  have f60 := f33.other W57 (Or.inr (slot_ne (Or.inr (hw _ (List.mem_of_getElem? (i := 40) rfl))) (Or.inr (hw _ (List.mem_of_getElem? (i := 47) rfl))) own_nes27 own_fd0 own_fd0))
  have f61 := f34.same W57
  have f62 := f35.other W57 (Or.inr (slot_ne (Or.inr (hw _ (List.mem_of_getElem? (i := 49) rfl))) (Or.inr (hw _ (List.mem_of_getElem? (i := 47) rfl))) own_nes28 own_fd0 own_fd0))
  have f63 := f36.other W57 (Or.inr (slot_ne (Or.inr (hw _ (List.mem_of_getElem? (i := 51) rfl))) (Or.inr (hw _ (List.mem_of_getElem? (i := 47) rfl))) own_nes29 own_fd0 own_fd0))
  have f64 := f37.other W57 (Or.inr (slot_ne (Or.inr (hw _ (List.mem_of_getElem? (i := 75) rfl))) (Or.inr (hw _ (List.mem_of_getElem? (i := 47) rfl))) own_nes30 own_fd0 own_fd0))
  have f65 := f38.other W57 (Or.inr (slot_ne (Or.inr (hw _ (List.mem_of_getElem? (i := 77) rfl))) (Or.inr (hw _ (List.mem_of_getElem? (i := 47) rfl))) own_nes31 own_fd0 own_fd0))
  have f66 := f39.other W57 (Or.inr (slot_ne (Or.inr (hw _ (List.mem_of_getElem? (i := 79) rfl))) (Or.inr (hw _ (List.mem_of_getElem? (i := 47) rfl))) own_nes32 own_fd0 own_fd0))
  have f67 := f40.other W57 (Or.inr (slot_ne (Or.inr (hw _ (List.mem_of_getElem? (i := 81) rfl))) (Or.inr (hw _ (List.mem_of_getElem? (i := 47) rfl))) own_nes33 own_fd0 own_fd0))
  have f68 := f41.other W57 (Or.inr (slot_ne (Or.inr (hw _ (List.mem_of_getElem? (i := 83) rfl))) (Or.inr (hw _ (List.mem_of_getElem? (i := 47) rfl))) own_nes34 own_fd0 own_fd0))
  have f69 := f42.other W57 (Or.inr (slot_ne (Or.inr (hw _ (List.mem_of_getElem? (i := 85) rfl))) (Or.inr (hw _ (List.mem_of_getElem? (i := 47) rfl))) own_nes35 own_fd0 own_fd0))
  have f70 := f43.wr W57
  have f71 := f44.wr W57
  have f72 := f45.wr W57
  have f73 := f46.other W57 (Or.inl ne_f)
  have f74 := f47.other W57 (Or.inl ne_f)
  have f75 := f48.other W57 (Or.inl ne_f)
  have f76 := f49.other W57 (Or.inl ne_ea)
  have f77 := f50.other W57 (Or.inl ne_ea)
  have f78 := f51.other W57 (Or.inl ne_ea)
  have f79 := f52.other W57 (Or.inl ne_eb)
  have f80 := f53.other W57 (Or.inl ne_eb)
  have f81 := f54.other W57 (Or.inl ne_eb)
  have f82 := f55.other W57 ne_uv
  have z57 := Nat.le_trans z30 (Keep.of_wr W57).1
  have K57 := K30.wr W57 (Or.inl (List.mem_of_getElem? (i := 0) rfl))
  refine g_aloadN (pc' := 29) X57 hx hby (v := (.ref a)) own_d4_28 rfl rfl rfl ?_
  refine g_aload (pc' := 31) X57 hx hby (v := (.ref uv)) own_d4_29 rfl rfl rfl ?_
  refine g_iconst (pc' := 32) (v := (0 : Int32)) X57 hx hby own_d4_31 rfl rfl ?_
  refine g_ldD (pc' := 33) X57 hx hby hZ (v := u0) e57 f82 ⟨by decide, by decide⟩ rfl rfl own_d4_32 rfl ?_
  refine g_putF (pc' := 36) X57 hx hby hZ hown (host := "") (Or.inl (hw _ (List.mem_of_getElem? (i := 48) rfl))) Via.refl e57 f62 f58 (Or.inr ⟨(hw _ (List.mem_of_getElem? (i := 49) rfl)), rfl, hnm⟩) (hw _ (List.mem_of_getElem? (i := 21) rfl)) (ty := .double) own_fd0 rfl rfl rfl own_d4_33 rfl N57 c12 ?_
  intro T83 h83 X83 e83 W83 N83
  have f84 := f58.wr W83
  have f85 := f59.other W83 (Or.inr (slot_ne (Or.inr (hw _ (List.mem_of_getElem? (i := 33) rfl))) (Or.inr (hw _ (List.mem_of_getElem? (i := 49) rfl))) own_nes36 own_fd0 own_fd0))
  have f86 := f60.other W83 (Or.inr (slot_ne (Or.inr (hw _ (List.mem_of_getElem? (i := 40) rfl))) (Or.inr (hw _ (List.mem_of_getElem? (i := 49) rfl))) own_nes37 own_fd0 own_fd0))
  have f87 := f61.other W83 (Or.inr (slot_ne (Or.inr (hw _ (List.mem_of_getElem? (i := 47) rfl))) (Or.inr (hw _ (List.mem_of_getElem? (i := 49) rfl))) own_nes38 own_fd0 own_fd0))
  have f88 := f62.same W83
  have f89 := f63.other W83 (Or.inr (slot_ne (Or.inr (hw _ (List.mem_of_getElem? (i := 51) rfl))) (Or.inr (hw _ (List.mem_of_getElem? (i := 49) rfl))) own_nes39 own_fd0 own_fd0))
  have f90 := f64.other W83 (Or.inr (slot_ne (Or.inr (hw _ (List.mem_of_getElem? (i := 75) rfl))) (Or.inr (hw _ (List.mem_of_getElem? (i := 49) rfl))) own_nes40 own_fd0 own_fd0))
  have f91 := f65.other W83 (Or.inr (slot_ne (Or.inr (hw _ (List.mem_of_getElem? (i := 77) rfl))) (Or.inr (hw _ (List.mem_of_getElem? (i := 49) rfl))) own_nes41 own_fd0 own_fd0))
  have f92 := f66.other W83 (Or.inr (slot_ne (Or.inr (hw _ (List.mem_of_getElem? (i := 79) rfl))) (Or.inr (hw _ (List.mem_of_getElem? (i := 49) rfl))) own_nes42 own_fd0 own_fd0))
  have f93 := f67.other W83 (Or.inr (slot_ne (Or.inr (hw _ (List.mem_of_getElem? (i := 81) rfl))) (Or.inr (hw _ (List.mem_of_getElem? (i := 49) rfl))) own_nes43 own_fd0 own_fd0))
  have f94 := f68.other W83 (Or.inr (slot_ne (Or.inr (hw _ (List.mem_of_getElem? (i := 83) rfl))) (Or.inr (hw _ (List.mem_of_getElem? (i := 49) rfl))) own_nes44 own_fd0 own_fd0))
  have f95 := f69.other W83 (Or.inr (slot_ne (Or.inr (hw _ (List.mem_of_getElem? (i := 85) rfl))) (Or.inr (hw _ (List.mem_of_getElem? (i := 49) rfl))) own_nes45 own_fd0 own_fd0))
  have f96 := f70.wr W83
  have f97 := f71.wr W83
  have f98 := f72.wr W83
  have f99 := f73.other W83 (Or.inl ne_f)
  have f100 := f74.other W83 (Or.inl ne_f)
  have f101 := f75.other W83 (Or.inl ne_f)
  have f102 := f76.other W83 (Or.inl ne_ea)
  have f103 := f77.other W83 (Or.inl ne_ea)
  have f104 := f78.other W83 (Or.inl ne_ea)
  have f105 := f79.other W83 (Or.inl ne_eb)
  have f106 := f80.other W83 (Or.inl ne_eb)
  have f107 := f81.other W83 (Or.inl ne_eb)
  have f108 := f82.other W83 ne_uv
  have z83 := Nat.le_trans z57 (Keep.of_wr W83).1
  have K83 := K57.wr W83 (Or.inl (List.mem_of_getElem? (i := 0) rfl))
  refine g_aloadN (pc' := 37) X83 hx hby (v := (.ref a)) own_d4_36 rfl rfl rfl ?_
  refine g_aload (pc' := 39) X83 hx hby (v := (.ref uv)) own_d4_37 rfl rfl rfl ?_
  refine g_iconst (pc' := 40) (v := (1 : Int32)) X83 hx hby own_d4_39 rfl rfl ?_
  refine g_ldD (pc' := 41) X83 hx hby hZ (v := u1) e83 f108 ⟨by decide, by decide⟩ rfl rfl own_d4_40 rfl ?_
  refine g_putF (pc' := 44) X83 hx hby hZ hown (host := "") (Or.inl (hw _ (List.mem_of_getElem? (i := 50) rfl))) Via.refl e83 f89 f84 (Or.inr ⟨(hw _ (List.mem_of_getElem? (i := 51) rfl)), rfl, hnm⟩) (hw _ (List.mem_of_getElem? (i := 21) rfl)) (ty := .double) own_fd0 rfl rfl rfl own_d4_41 rfl N83 c12 ?_
  intro T109 h109 X109 e109 W109 N109
  have f110 := f84.wr W109
  have f111 := f85.other W109 (Or.inr (slot_ne (Or.inr (hw _ (List.mem_of_getElem? (i := 33) rfl))) (Or.inr (hw _ (List.mem_of_getElem? (i := 51) rfl))) own_nes46 own_fd0 own_fd0))
  have f112 := f86.other W109 (Or.inr (slot_ne (Or.inr (hw _ (List.mem_of_getElem? (i := 40) rfl))) (Or.inr (hw _ (List.mem_of_getElem? (i := 51) rfl))) own_nes47 own_fd0 own_fd0))
  have f113 := f87.other W109 (Or.inr (slot_ne (Or.inr (hw _ (List.mem_of_getElem? (i := 47) rfl))) (Or.inr (hw _ (List.mem_of_getElem? (i := 51) rfl))) own_nes48 own_fd0 own_fd0))
  have f114 := f88.other W109 (Or.inr (slot_ne (Or.inr (hw _ (List.mem_of_getElem? (i := 49) rfl))) (Or.inr (hw _ (List.mem_of_getElem? (i := 51) rfl))) own_nes49 own_fd0 own_fd0))
  have f115 := f89.same W109
  have f116 := f90.other W109 (Or.inr (slot_ne (Or.inr (hw _ (List.mem_of_getElem? (i := 75) rfl))) (Or.inr (hw _ (List.mem_of_getElem? (i := 51) rfl))) own_nes50 own_fd0 own_fd0))
  have f117 := f91.other W109 (Or.inr (slot_ne (Or.inr (hw _ (List.mem_of_getElem? (i := 77) rfl))) (Or.inr (hw _ (List.mem_of_getElem? (i := 51) rfl))) own_nes51 own_fd0 own_fd0))
  have f118 := f92.other W109 (Or.inr (slot_ne (Or.inr (hw _ (List.mem_of_getElem? (i := 79) rfl))) (Or.inr (hw _ (List.mem_of_getElem? (i := 51) rfl))) own_nes52 own_fd0 own_fd0))
  have f119 := f93.other W109 (Or.inr (slot_ne (Or.inr (hw _ (List.mem_of_getElem? (i := 81) rfl))) (Or.inr (hw _ (List.mem_of_getElem? (i := 51) rfl))) own_nes53 own_fd0 own_fd0))
  have f120 := f94.other W109 (Or.inr (slot_ne (Or.inr (hw _ (List.mem_of_getElem? (i := 83) rfl))) (Or.inr (hw _ (List.mem_of_getElem? (i := 51) rfl))) own_nes54 own_fd0 own_fd0))
  have f121 := f95.other W109 (Or.inr (slot_ne (Or.inr (hw _ (List.mem_of_getElem? (i := 85) rfl))) (Or.inr (hw _ (List.mem_of_getElem? (i := 51) rfl))) own_nes55 own_fd0 own_fd0))
  have f122 := f96.wr W109
  have f123 := f97.wr W109
  have f124 := f98.wr W109
  have f125 := f99.other W109 (Or.inl ne_f)
  have f126 := f100.other W109 (Or.inl ne_f)
  have f127 := f101.other W109 (Or.inl ne_f)
  have f128 := f102.other W109 (Or.inl ne_ea)
  have f129 := f103.other W109 (Or.inl ne_ea)
  have f130 := f104.other W109 (Or.inl ne_ea)
  have f131 := f105.other W109 (Or.inl ne_eb)
  have f132 := f106.other W109 (Or.inl ne_eb)
  have f133 := f107.other W109 (Or.inl ne_eb)
  have f134 := f108.other W109 ne_uv
  have z109 := Nat.le_trans z83 (Keep.of_wr W109).1
  have K109 := K83.wr W109 (Or.inl (List.mem_of_getElem? (i := 0) rfl))
  refine g_aloadN (pc' := 45) X109 hx hby (v := (.ref ea)) own_d4_44 rfl rfl rfl ?_
  refine g_aloadN (pc' := 46) X109 hx hby (v := (.ref ea)) own_d4_45 rfl rfl rfl ?_
  refine g_virt (argsL := [(.ref ea)]) (pc' := 49) X109 hx hby (by rw [hml]; rfl) hZ hown e109 (own_rm8 l Z a0 hw [] ea ea xa ya za xa ya za h109 n0 z109 f128 f129 f130 f128 f129 f130 nn46_nn8 nn46_nn17 nn46_nn18 nn46_nn27 nn46_nn28) (hw _ (List.mem_of_getElem? (i := 52) rfl)) (hw _ (List.mem_of_getElem? (i := 53) rfl)) (hw _ (List.mem_of_getElem? (i := 55) rfl)) (hw _ (List.mem_of_getElem? (i := 54) rfl)) (hw _ (List.mem_of_getElem? (i := 7) rfl)) (hw _ (List.mem_of_getElem? (i := 56) rfl)) (by decide) f123 own_pd2 rfl rfl (W := 0) rfl (by decide) (by decide) (by decide) (by decide) own_d4_46 rfl ?_
  intro T135 v135 L135 X135 qq135
  obtain ⟨rfl, n135, e135⟩ := qq135
  have N135 := Fr.app N109 n135
  rw [E_av]
  show Gf p e below P T135 m 49 #[.val (.ref a), .val (.ref f), .val (.ref ea), .val (.ref eb), .val (.ref uv), .unset, .unset, .unset, .unset, .unset, .unset, .unset, .unset, .unset, .unset, .unset, .unset] [(.double av)]
  refine g_dstore (pc' := 51) (Ls' := #[.val (.ref a), .val (.ref f), .val (.ref ea), .val (.ref eb), .val (.ref uv), .val (.double av), .second, .unset, .unset, .unset, .unset, .unset, .unset, .unset, .unset, .unset, .unset]) X135 hx hby own_d4_49 rfl rfl rfl ?_
  refine g_aloadN (pc' := 52) X135 hx hby (v := (.ref ea)) own_d4_51 rfl rfl rfl ?_
  refine g_aloadN (pc' := 53) X135 hx hby (v := (.ref eb)) own_d4_52 rfl rfl rfl ?_
  refine g_virt (argsL := [(.ref eb)]) (pc' := 56) X135 hx hby (by rw [hml]; rfl) hZ hown e135 (own_rm8 l Z a0 hw [] ea eb xa ya za xb yb zb h109 n0 z109 f128 f129 f130 f131 f132 f133 nn53_nn8 nn53_nn17 nn53_nn18 nn53_nn27 nn53_nn28) (hw _ (List.mem_of_getElem? (i := 52) rfl)) (hw _ (List.mem_of_getElem? (i := 53) rfl)) (hw _ (List.mem_of_getElem? (i := 55) rfl)) (hw _ (List.mem_of_getElem? (i := 54) rfl)) (hw _ (List.mem_of_getElem? (i := 7) rfl)) (hw _ (List.mem_of_getElem? (i := 56) rfl)) (by decide) f123 own_pd2 rfl rfl (W := 0) rfl (by decide) (by decide) (by decide) (by decide) own_d4_53 rfl ?_
  intro T136 v136 L136 X136 qq136
  obtain ⟨rfl, n136, e136⟩ := qq136
  have N136 := Fr.app N135 n136
  rw [E_bv]
  show Gf p e below P T136 m 56 #[.val (.ref a), .val (.ref f), .val (.ref ea), .val (.ref eb), .val (.ref uv), .val (.double av), .second, .unset, .unset, .unset, .unset, .unset, .unset, .unset, .unset, .unset, .unset] [(.double bv)]
  refine g_dstore (pc' := 58) (Ls' := #[.val (.ref a), .val (.ref f), .val (.ref ea), .val (.ref eb), .val (.ref uv), .val (.double av), .second, .val (.double bv), .second, .unset, .unset, .unset, .unset, .unset, .unset, .unset, .unset]) X136 hx hby own_d4_56 rfl rfl rfl ?_
  refine g_aloadN (pc' := 59) X136 hx hby (v := (.ref eb)) own_d4_58 rfl rfl rfl ?_
  refine g_aloadN (pc' := 60) X136 hx hby (v := (.ref eb)) own_d4_59 rfl rfl rfl ?_
  refine g_virt (argsL := [(.ref eb)]) (pc' := 63) X136 hx hby (by rw [hml]; rfl) hZ hown e136 (own_rm8 l Z a0 hw [] eb eb xb yb zb xb yb zb h109 n0 z109 f131 f132 f133 f131 f132 f133 nn60_nn8 nn60_nn17 nn60_nn18 nn60_nn27 nn60_nn28) (hw _ (List.mem_of_getElem? (i := 52) rfl)) (hw _ (List.mem_of_getElem? (i := 53) rfl)) (hw _ (List.mem_of_getElem? (i := 55) rfl)) (hw _ (List.mem_of_getElem? (i := 54) rfl)) (hw _ (List.mem_of_getElem? (i := 7) rfl)) (hw _ (List.mem_of_getElem? (i := 56) rfl)) (by decide) f124 own_pd2 rfl rfl (W := 0) rfl (by decide) (by decide) (by decide) (by decide) own_d4_60 rfl ?_
  intro T137 v137 L137 X137 qq137
  obtain ⟨rfl, n137, e137⟩ := qq137
  have N137 := Fr.app N136 n137
  rw [E_cv]
  show Gf p e below P T137 m 63 #[.val (.ref a), .val (.ref f), .val (.ref ea), .val (.ref eb), .val (.ref uv), .val (.double av), .second, .val (.double bv), .second, .unset, .unset, .unset, .unset, .unset, .unset, .unset, .unset] [(.double cv)]
  refine g_dstore (pc' := 65) (Ls' := #[.val (.ref a), .val (.ref f), .val (.ref ea), .val (.ref eb), .val (.ref uv), .val (.double av), .second, .val (.double bv), .second, .val (.double cv), .second, .unset, .unset, .unset, .unset, .unset, .unset]) X137 hx hby own_d4_63 rfl rfl rfl ?_
  refine g_dconst1 (pc' := 66) (v := (4607182418800017408 : UInt64)) X137 hx hby own_d4_65 rfl rfl ?_
  refine g_dload (pc' := 68) X137 hx hby (v := av) own_d4_66 rfl rfl ?_
  refine g_dload (pc' := 70) X137 hx hby (v := cv) own_d4_68 rfl rfl ?_
  refine g_dmul (pc' := 71) (v := (FP.dmul av cv)) X137 hx hby own_d4_70 rfl (nn70) rfl rfl ?_
  refine g_dload (pc' := 73) X137 hx hby (v := bv) own_d4_71 rfl rfl ?_
  refine g_dload (pc' := 75) X137 hx hby (v := bv) own_d4_73 rfl rfl ?_
  refine g_dmul (pc' := 76) (v := (FP.dmul bv bv)) X137 hx hby own_d4_75 rfl (nn75) rfl rfl ?_
  refine g_dsub (pc' := 77) (v := (FP.dsub (FP.dmul av cv) (FP.dmul bv bv))) X137 hx hby own_d4_76 rfl (nn76) rfl rfl ?_
  refine g_ddiv (pc' := 78) (v := iv) X137 hx hby own_d4_77 rfl (nn77) E_iv rfl ?_
  refine g_dstore (pc' := 80) (Ls' := #[.val (.ref a), .val (.ref f), .val (.ref ea), .val (.ref eb), .val (.ref uv), .val (.double av), .second, .val (.double bv), .second, .val (.double cv), .second, .val (.double iv), .second, .unset, .unset, .unset, .unset]) X137 hx hby own_d4_78 rfl rfl rfl ?_
  refine g_aloadN (pc' := 81) X137 hx hby (v := (.ref ea)) own_d4_80 rfl rfl rfl ?_
  refine g_dload (pc' := 83) X137 hx hby (v := cv) own_d4_81 rfl rfl ?_
  refine g_dload (pc' := 85) X137 hx hby (v := iv) own_d4_83 rfl rfl ?_
  refine g_dmul (pc' := 86) (v := ck) X137 hx hby own_d4_85 rfl (nn85) E_ck rfl ?_
  refine g_virt (argsL := [(.double ck)]) (pc' := 89) X137 hx hby (by rw [hml]; rfl) hZ hown e137 (own_rm9 l Z a0 hw [] ea ck xa ya za h109 n0 z109 f128 f129 f130 nn86_nn9 nn86_nn15 nn86_nn21) (hw _ (List.mem_of_getElem? (i := 57) rfl)) (hw _ (List.mem_of_getElem? (i := 58) rfl)) (hw _ (List.mem_of_getElem? (i := 60) rfl)) (hw _ (List.mem_of_getElem? (i := 59) rfl)) (hw _ (List.mem_of_getElem? (i := 7) rfl)) (hw _ (List.mem_of_getElem? (i := 61) rfl)) (by decide) f123 own_pd3 rfl rfl (W := 0) rfl (by decide) (by decide) (by decide) (by decide) own_d4_86 rfl ?_
  intro T138 v138 L138 X138 qq138
  obtain ⟨h138, e138⟩ : ∃ h, T138.heap = h := ⟨_, rfl⟩
  rw [e138] at qq138
  obtain ⟨ta, rfl, n138, k138, p138_0, p138_1, p138_2, p138_3, p138_4⟩ := qq138
  have f139 := f110.keep k138
  have f140 := f111.keep k138 nin0
  have f141 := f112.keep k138 nin0
  have f142 := f113.keep k138 nin0
  have f143 := f114.keep k138 nin0
  have f144 := f115.keep k138 nin0
  have f145 := f116.keep k138 nin0
  have f146 := f117.keep k138 nin0
  have f147 := f118.keep k138 nin0
  have f148 := f119.keep k138 nin0
  have f149 := f120.keep k138 nin0
  have f150 := f121.keep k138 nin0
  have f151 := f123.keep k138
  have f152 := f124.keep k138
  have f153 := f128.keep k138 nin0
  have f154 := f129.keep k138 nin0
  have f155 := f130.keep k138 nin0
  have f156 := f131.keep k138 nin0
  have f157 := f132.keep k138 nin0
  have f158 := f133.keep k138 nin0
  have f159 := f134.keep k138 nin0
  have ge160 : n0 ≤ ta := Nat.le_trans z109 p138_0
  have ne161 : a ≠ ta := Nat.ne_of_lt (Nat.lt_of_lt_of_le f110.lt p138_0)
  have ne162 : ea ≠ ta := Nat.ne_of_lt (Nat.lt_of_lt_of_le f123.lt p138_0)
  have ne163 : eb ≠ ta := Nat.ne_of_lt (Nat.lt_of_lt_of_le f124.lt p138_0)
  have ne164 : uv ≠ ta := Nat.ne_of_lt (Nat.lt_of_lt_of_le f134.lt p138_0)
  have kp165 : h0.size ≤ ta := Nat.le_trans K109.1 p138_0
  have z138 := Nat.le_trans z109 k138.1
  have K138 := K109.trans k138 all0
  have N138 := Fr.app N137 n138
  show Gf p e below P T138 m 89 #[.val (.ref a), .val (.ref f), .val (.ref ea), .val (.ref eb), .val (.ref uv), .val (.double av), .second, .val (.double bv), .second, .val (.double cv), .second, .val (.double iv), .second, .unset, .unset, .unset, .unset] [(.ref ta)]
  refine g_aloadN (pc' := 90) X138 hx hby (v := (.ref eb)) own_d4_89 rfl rfl rfl ?_
  refine g_dload (pc' := 92) X138 hx hby (v := bv) own_d4_90 rfl rfl ?_
  refine g_dload (pc' := 94) X138 hx hby (v := iv) own_d4_92 rfl rfl ?_
  refine g_dmul (pc' := 95) (v := bk) X138 hx hby own_d4_94 rfl (nn94) E_bk rfl ?_
  refine g_virt (argsL := [(.double bk)]) (pc' := 98) X138 hx hby (by rw [hml]; rfl) hZ hown e138 (own_rm9 l Z a0 hw [] eb bk xb yb zb h138 n0 z138 f156 f157 f158 nn95_nn9 nn95_nn15 nn95_nn21) (hw _ (List.mem_of_getElem? (i := 57) rfl)) (hw _ (List.mem_of_getElem? (i := 58) rfl)) (hw _ (List.mem_of_getElem? (i := 60) rfl)) (hw _ (List.mem_of_getElem? (i := 59) rfl)) (hw _ (List.mem_of_getElem? (i := 7) rfl)) (hw _ (List.mem_of_getElem? (i := 61) rfl)) (by decide) f152 own_pd3 rfl rfl (W := 1) rfl (by decide) (by decide) (by decide) (by decide) own_d4_95 rfl ?_
  intro T166 v166 L166 X166 qq166
  obtain ⟨h166, e166⟩ : ∃ h, T166.heap = h := ⟨_, rfl⟩
  rw [e166] at qq166
  obtain ⟨tb, rfl, n166, k166, p166_0, p166_1, p166_2, p166_3, p166_4⟩ := qq166
  have f167 := f139.keep k166
  have f168 := f140.keep k166 nin0
  have f169 := f141.keep k166 nin0
  have f170 := f142.keep k166 nin0
  have f171 := f143.keep k166 nin0
  have f172 := f144.keep k166 nin0
  have f173 := f145.keep k166 nin0
  have f174 := f146.keep k166 nin0
  have f175 := f147.keep k166 nin0
  have f176 := f148.keep k166 nin0
  have f177 := f149.keep k166 nin0
  have f178 := f150.keep k166 nin0
  have f179 := f151.keep k166
  have f180 := f152.keep k166
  have f181 := f153.keep k166 nin0
  have f182 := f154.keep k166 nin0
  have f183 := f155.keep k166 nin0
  have f184 := f156.keep k166 nin0
  have f185 := f157.keep k166 nin0
  have f186 := f158.keep k166 nin0
  have f187 := f159.keep k166 nin0
  have f188 := p138_1.keep k166
  have f189 := p138_2.keep k166 nin0
  have f190 := p138_3.keep k166 nin0
  have f191 := p138_4.keep k166 nin0
  have ge192 : n0 ≤ tb := Nat.le_trans z138 p166_0
  have ne193 : a ≠ tb := Nat.ne_of_lt (Nat.lt_of_lt_of_le f139.lt p166_0)
  have ne194 : ea ≠ tb := Nat.ne_of_lt (Nat.lt_of_lt_of_le f151.lt p166_0)
  have ne195 : eb ≠ tb := Nat.ne_of_lt (Nat.lt_of_lt_of_le f152.lt p166_0)
  have ne196 : ta ≠ tb := Nat.ne_of_lt (Nat.lt_of_lt_of_le p138_1.lt p166_0)
  have ne197 : uv ≠ tb := Nat.ne_of_lt (Nat.lt_of_lt_of_le f159.lt p166_0)
  have kp198 : h0.size ≤ tb := Nat.le_trans K138.1 p166_0
  have z166 := Nat.le_trans z138 k166.1
  have K166 := K138.trans k166 all0
  have N166 := Fr.app N138 n166
  show Gf p e below P T166 m 98 #[.val (.ref a), .val (.ref f), .val (.ref ea), .val (.ref eb), .val (.ref uv), .val (.double av), .second, .val (.double bv), .second, .val (.double cv), .second, .val (.double iv), .second, .unset, .unset, .unset, .unset] [(.ref tb), (.ref ta)]
  refine g_virt (argsL := [(.ref tb)]) (pc' := 101) X166 hx hby (by rw [hml]; rfl) hZ hown e166 (own_rm10 l Z a0 hw [] ta tb (FP.dmul xa ck) (FP.dmul ya ck) (FP.dmul za ck) (FP.dmul xb bk) (FP.dmul yb bk) (FP.dmul zb bk) h166 n0 z166 f189 f190 f191 p166_2 p166_3 p166_4 nn98_nn12 nn98_nn21 nn98_nn30) (hw _ (List.mem_of_getElem? (i := 64) rfl)) (hw _ (List.mem_of_getElem? (i := 65) rfl)) (hw _ (List.mem_of_getElem? (i := 67) rfl)) (hw _ (List.mem_of_getElem? (i := 66) rfl)) (hw _ (List.mem_of_getElem? (i := 7) rfl)) (hw _ (List.mem_of_getElem? (i := 68) rfl)) (by decide) f188 own_pd4 rfl rfl (W := 0) rfl (by decide) (by decide) (by decide) (by decide) own_d4_98 rfl ?_
  intro T199 v199 L199 X199 qq199
  obtain ⟨h199, e199⟩ : ∃ h, T199.heap = h := ⟨_, rfl⟩
  rw [e199] at qq199
  obtain ⟨sec, rfl, n199, k199, p199_0, p199_1, p199_2, p199_3, p199_4⟩ := qq199
  have f200 := f167.keep k199
  have f201 := f168.keep k199 nin0
  have f202 := f169.keep k199 nin0
  have f203 := f170.keep k199 nin0
  have f204 := f171.keep k199 nin0
  have f205 := f172.keep k199 nin0
  have f206 := f173.keep k199 nin0
  have f207 := f174.keep k199 nin0
  have f208 := f175.keep k199 nin0
  have f209 := f176.keep k199 nin0
  have f210 := f177.keep k199 nin0
  have f211 := f178.keep k199 nin0
  have f212 := f179.keep k199
  have f213 := f180.keep k199
  have f214 := f181.keep k199 nin0
  have f215 := f182.keep k199 nin0
  have f216 := f183.keep k199 nin0
  have f217 := f184.keep k199 nin0
  have f218 := f185.keep k199 nin0
  have f219 := f186.keep k199 nin0
  have f220 := f187.keep k199 nin0
  have f221 := f188.keep k199
  have f222 := f189.keep k199 nin0
  have f223 := f190.keep k199 nin0
  have f224 := f191.keep k199 nin0
  have f225 := p166_1.keep k199
  have f226 := p166_2.keep k199 nin0
  have f227 := p166_3.keep k199 nin0
  have f228 := p166_4.keep k199 nin0
  have ge229 : n0 ≤ sec := Nat.le_trans z166 p199_0
  have ne230 : a ≠ sec := Nat.ne_of_lt (Nat.lt_of_lt_of_le f167.lt p199_0)
  have ne231 : ea ≠ sec := Nat.ne_of_lt (Nat.lt_of_lt_of_le f179.lt p199_0)
  have ne232 : eb ≠ sec := Nat.ne_of_lt (Nat.lt_of_lt_of_le f180.lt p199_0)
  have ne233 : ta ≠ sec := Nat.ne_of_lt (Nat.lt_of_lt_of_le f188.lt p199_0)
  have ne234 : tb ≠ sec := Nat.ne_of_lt (Nat.lt_of_lt_of_le p166_1.lt p199_0)
  have ne235 : uv ≠ sec := Nat.ne_of_lt (Nat.lt_of_lt_of_le f187.lt p199_0)
  have kp236 : h0.size ≤ sec := Nat.le_trans K166.1 p199_0
  have z199 := Nat.le_trans z166 k199.1
  have K199 := K166.trans k199 all0
  have N199 := Fr.app N166 n199
  show Gf p e below P T199 m 101 #[.val (.ref a), .val (.ref f), .val (.ref ea), .val (.ref eb), .val (.ref uv), .val (.double av), .second, .val (.double bv), .second, .val (.double cv), .second, .val (.double iv), .second, .unset, .unset, .unset, .unset] [(.ref sec)]
  rw [E_sx] at p199_2
  rw [E_sy] at p199_3
  rw [E_sz] at p199_4
  refine g_astore (pc' := 103) (Ls' := #[.val (.ref a), .val (.ref f), .val (.ref ea), .val (.ref eb), .val (.ref uv), .val (.double av), .second, .val (.double bv), .second, .val (.double cv), .second, .val (.double iv), .second, .val (.ref sec), .unset, .unset, .unset]) X199 hx hby own_d4_101 rfl rfl rfl rfl ?_
  refine g_aloadN (pc' := 104) X199 hx hby (v := (.ref eb)) own_d4_103 rfl rfl rfl ?_
  refine g_dload (pc' := 106) X199 hx hby (v := av) own_d4_104 rfl rfl ?_
  refine g_dload (pc' := 108) X199 hx hby (v := iv) own_d4_106 rfl rfl ?_
  refine g_dmul (pc' := 109) (v := ak) X199 hx hby own_d4_108 rfl (nn108) E_ak rfl ?_
  refine g_virt (argsL := [(.double ak)]) (pc' := 112) X199 hx hby (by rw [hml]; rfl) hZ hown e199 (own_rm9 l Z a0 hw [] eb ak xb yb zb h199 n0 z199 f217 f218 f219 nn109_nn9 nn109_nn15 nn109_nn21) (hw _ (List.mem_of_getElem? (i := 57) rfl)) (hw _ (List.mem_of_getElem? (i := 58) rfl)) (hw _ (List.mem_of_getElem? (i := 60) rfl)) (hw _ (List.mem_of_getElem? (i := 59) rfl)) (hw _ (List.mem_of_getElem? (i := 7) rfl)) (hw _ (List.mem_of_getElem? (i := 61) rfl)) (by decide) f213 own_pd3 rfl rfl (W := 0) rfl (by decide) (by decide) (by decide) (by decide) own_d4_109 rfl ?_
  intro T237 v237 L237 X237 qq237
  obtain ⟨h237, e237⟩ : ∃ h, T237.heap = h := ⟨_, rfl⟩
  rw [e237] at qq237
  obtain ⟨tcc, rfl, n237, k237, p237_0, p237_1, p237_2, p237_3, p237_4⟩ := qq237
  have f238 := f200.keep k237
  have f239 := f201.keep k237 nin0
  have f240 := f202.keep k237 nin0
  have f241 := f203.keep k237 nin0
  have f242 := f204.keep k237 nin0
  have f243 := f205.keep k237 nin0
  have f244 := f206.keep k237 nin0
  have f245 := f207.keep k237 nin0
  have f246 := f208.keep k237 nin0
  have f247 := f209.keep k237 nin0
  have f248 := f210.keep k237 nin0
  have f249 := f211.keep k237 nin0
  have f250 := f212.keep k237
  have f251 := f213.keep k237
  have f252 := f214.keep k237 nin0
  have f253 := f215.keep k237 nin0
  have f254 := f216.keep k237 nin0
  have f255 := f217.keep k237 nin0
  have f256 := f218.keep k237 nin0
  have f257 := f219.keep k237 nin0
  have f258 := f220.keep k237 nin0
  have f259 := p199_1.keep k237
  have f260 := p199_2.keep k237 nin0
  have f261 := p199_3.keep k237 nin0
  have f262 := p199_4.keep k237 nin0
  have ge263 : n0 ≤ tcc := Nat.le_trans z199 p237_0
  have ne264 : a ≠ tcc := Nat.ne_of_lt (Nat.lt_of_lt_of_le f200.lt p237_0)
  have ne265 : ea ≠ tcc := Nat.ne_of_lt (Nat.lt_of_lt_of_le f212.lt p237_0)
  have ne266 : eb ≠ tcc := Nat.ne_of_lt (Nat.lt_of_lt_of_le f213.lt p237_0)
  have ne267 : sec ≠ tcc := Nat.ne_of_lt (Nat.lt_of_lt_of_le p199_1.lt p237_0)
  have ne268 : uv ≠ tcc := Nat.ne_of_lt (Nat.lt_of_lt_of_le f220.lt p237_0)
  have kp269 : h0.size ≤ tcc := Nat.le_trans K199.1 p237_0
  have z237 := Nat.le_trans z199 k237.1
  have K237 := K199.trans k237 all0
  have N237 := Fr.app N199 n237
  show Gf p e below P T237 m 112 #[.val (.ref a), .val (.ref f), .val (.ref ea), .val (.ref eb), .val (.ref uv), .val (.double av), .second, .val (.double bv), .second, .val (.double cv), .second, .val (.double iv), .second, .val (.ref sec), .unset, .unset, .unset] [(.ref tcc)]
  refine g_aloadN (pc' := 113) X237 hx hby (v := (.ref ea)) own_d4_112 rfl rfl rfl ?_
  refine g_dload (pc' := 115) X237 hx hby (v := bv) own_d4_113 rfl rfl ?_
  refine g_dload (pc' := 117) X237 hx hby (v := iv) own_d4_115 rfl rfl ?_
  refine g_dmul (pc' := 118) (v := bk) X237 hx hby own_d4_117 rfl (nn117) E_bk rfl ?_
  refine g_virt (argsL := [(.double bk)]) (pc' := 121) X237 hx hby (by rw [hml]; rfl) hZ hown e237 (own_rm9 l Z a0 hw [] ea bk xa ya za h237 n0 z237 f252 f253 f254 nn118_nn9 nn118_nn15 nn118_nn21) (hw _ (List.mem_of_getElem? (i := 57) rfl)) (hw _ (List.mem_of_getElem? (i := 58) rfl)) (hw _ (List.mem_of_getElem? (i := 60) rfl)) (hw _ (List.mem_of_getElem? (i := 59) rfl)) (hw _ (List.mem_of_getElem? (i := 7) rfl)) (hw _ (List.mem_of_getElem? (i := 61) rfl)) (by decide) f250 own_pd3 rfl rfl (W := 1) rfl (by decide) (by decide) (by decide) (by decide) own_d4_118 rfl ?_
  intro T270 v270 L270 X270 qq270
  obtain ⟨h270, e270⟩ : ∃ h, T270.heap = h := ⟨_, rfl⟩
  rw [e270] at qq270
  obtain ⟨td, rfl, n270, k270, p270_0, p270_1, p270_2, p270_3, p270_4⟩ := qq270
  have f271 := f238.keep k270
  have f272 := f239.keep k270 nin0
  have f273 := f240.keep k270 nin0
  have f274 := f241.keep k270 nin0
  have f275 := f242.keep k270 nin0
  have f276 := f243.keep k270 nin0
  have f277 := f244.keep k270 nin0
  have f278 := f245.keep k270 nin0
  have f279 := f246.keep k270 nin0
  have f280 := f247.keep k270 nin0
  have f281 := f248.keep k270 nin0
  have f282 := f249.keep k270 nin0
  have f283 := f250.keep k270
  have f284 := f251.keep k270
  have f285 := f252.keep k270 nin0
  have f286 := f253.keep k270 nin0
  have f287 := f254.keep k270 nin0
  have f288 := f255.keep k270 nin0
  have f289 := f256.keep k270 nin0
  have f290 := f257.keep k270 nin0
  have f291 := f258.keep k270 nin0
  have f292 := f259.keep k270
  have f293 := f260.keep k270 nin0
  have f294 := f261.keep k270 nin0
  have f295 := f262.keep k270 nin0
  have f296 := p237_1.keep k270
  have f297 := p237_2.keep k270 nin0
  have f298 := p237_3.keep k270 nin0
  have f299 := p237_4.keep k270 nin0
  have ge300 : n0 ≤ td := Nat.le_trans z237 p270_0
  have ne301 : a ≠ td := Nat.ne_of_lt (Nat.lt_of_lt_of_le f238.lt p270_0)
  have ne302 : ea ≠ td := Nat.ne_of_lt (Nat.lt_of_lt_of_le f250.lt p270_0)
  have ne303 : eb ≠ td := Nat.ne_of_lt (Nat.lt_of_lt_of_le f251.lt p270_0)
  have ne304 : sec ≠ td := Nat.ne_of_lt (Nat.lt_of_lt_of_le f259.lt p270_0)
  have ne305 : tcc ≠ td := Nat.ne_of_lt (Nat.lt_of_lt_of_le p237_1.lt p270_0)
  have ne306 : uv ≠ td := Nat.ne_of_lt (Nat.lt_of_lt_of_le f258.lt p270_0)
  have kp307 : h0.size ≤ td := Nat.le_trans K237.1 p270_0
  have z270 := Nat.le_trans z237 k270.1
  have K270 := K237.trans k270 all0
  have N270 := Fr.app N237 n270
  show Gf p e below P T270 m 121 #[.val (.ref a), .val (.ref f), .val (.ref ea), .val (.ref eb), .val (.ref uv), .val (.double av), .second, .val (.double bv), .second, .val (.double cv), .second, .val (.double iv), .second, .val (.ref sec), .unset, .unset, .unset] [(.ref td), (.ref tcc)]
  refine g_virt (argsL := [(.ref td)]) (pc' := 124) X270 hx hby (by rw [hml]; rfl) hZ hown e270 (own_rm10 l Z a0 hw [] tcc td (FP.dmul xb ak) (FP.dmul yb ak) (FP.dmul zb ak) (FP.dmul xa bk) (FP.dmul ya bk) (FP.dmul za bk) h270 n0 z270 f297 f298 f299 p270_2 p270_3 p270_4 nn121_nn12 nn121_nn21 nn121_nn30) (hw _ (List.mem_of_getElem? (i := 64) rfl)) (hw _ (List.mem_of_getElem? (i := 65) rfl)) (hw _ (List.mem_of_getElem? (i := 67) rfl)) (hw _ (List.mem_of_getElem? (i := 66) rfl)) (hw _ (List.mem_of_getElem? (i := 7) rfl)) (hw _ (List.mem_of_getElem? (i := 68) rfl)) (by decide) f296 own_pd4 rfl rfl (W := 0) rfl (by decide) (by decide) (by decide) (by decide) own_d4_121 rfl ?_
  intro T308 v308 L308 X308 qq308
  obtain ⟨h308, e308⟩ : ∃ h, T308.heap = h := ⟨_, rfl⟩
  rw [e308] at qq308
  obtain ⟨thi, rfl, n308, k308, p308_0, p308_1, p308_2, p308_3, p308_4⟩ := qq308
  have f309 := f271.keep k308
  have f310 := f272.keep k308 nin0
  have f311 := f273.keep k308 nin0
  have f312 := f274.keep k308 nin0
  have f313 := f275.keep k308 nin0
  have f314 := f276.keep k308 nin0
  have f315 := f277.keep k308 nin0
  have f316 := f278.keep k308 nin0
  have f317 := f279.keep k308 nin0
  have f318 := f280.keep k308 nin0
  have f319 := f281.keep k308 nin0
  have f320 := f282.keep k308 nin0
  have f321 := f283.keep k308
  have f322 := f284.keep k308
  have f323 := f285.keep k308 nin0
  have f324 := f286.keep k308 nin0
  have f325 := f287.keep k308 nin0
  have f326 := f288.keep k308 nin0
  have f327 := f289.keep k308 nin0
  have f328 := f290.keep k308 nin0
  have f329 := f291.keep k308 nin0
  have f330 := f292.keep k308
  have f331 := f293.keep k308 nin0
  have f332 := f294.keep k308 nin0
  have f333 := f295.keep k308 nin0
  have f334 := f296.keep k308
  have f335 := f297.keep k308 nin0
  have f336 := f298.keep k308 nin0
  have f337 := f299.keep k308 nin0
  have f338 := p270_1.keep k308
  have f339 := p270_2.keep k308 nin0
  have f340 := p270_3.keep k308 nin0
  have f341 := p270_4.keep k308 nin0
  have ge342 : n0 ≤ thi := Nat.le_trans z270 p308_0
  have ne343 : a ≠ thi := Nat.ne_of_lt (Nat.lt_of_lt_of_le f271.lt p308_0)
  have ne344 : ea ≠ thi := Nat.ne_of_lt (Nat.lt_of_lt_of_le f283.lt p308_0)
  have ne345 : eb ≠ thi := Nat.ne_of_lt (Nat.lt_of_lt_of_le f284.lt p308_0)
  have ne346 : sec ≠ thi := Nat.ne_of_lt (Nat.lt_of_lt_of_le f292.lt p308_0)
  have ne347 : tcc ≠ thi := Nat.ne_of_lt (Nat.lt_of_lt_of_le f296.lt p308_0)
  have ne348 : td ≠ thi := Nat.ne_of_lt (Nat.lt_of_lt_of_le p270_1.lt p308_0)
  have ne349 : uv ≠ thi := Nat.ne_of_lt (Nat.lt_of_lt_of_le f291.lt p308_0)
  have kp350 : h0.size ≤ thi := Nat.le_trans K270.1 p308_0
  have z308 := Nat.le_trans z270 k308.1
  have K308 := K270.trans k308 all0
  have N308 := Fr.app N270 n308
  show Gf p e below P T308 m 124 #[.val (.ref a), .val (.ref f), .val (.ref ea), .val (.ref eb), .val (.ref uv), .val (.double av), .second, .val (.double bv), .second, .val (.double cv), .second, .val (.double iv), .second, .val (.ref sec), .unset, .unset, .unset] [(.ref thi)]
  rw [E_tx] at p308_2
  rw [E_ty] at p308_3
  rw [E_tz] at p308_4
  refine g_astore (pc' := 126) (Ls' := #[.val (.ref a), .val (.ref f), .val (.ref ea), .val (.ref eb), .val (.ref uv), .val (.double av), .second, .val (.double bv), .second, .val (.double cv), .second, .val (.double iv), .second, .val (.ref sec), .val (.ref thi), .unset, .unset]) X308 hx hby own_d4_124 rfl rfl rfl rfl ?_
  refine g_aload (pc' := 128) X308 hx hby (v := (.ref sec)) own_d4_126 rfl rfl rfl ?_
  refine g_aload (pc' := 130) X308 hx hby (v := (.ref uv)) own_d4_128 rfl rfl rfl ?_
  refine g_iconst (pc' := 131) (v := (2 : Int32)) X308 hx hby own_d4_130 rfl rfl ?_
  refine g_ldD (pc' := 132) X308 hx hby hZ (v := u2) e308 f329 ⟨by decide, by decide⟩ rfl rfl own_d4_131 rfl ?_
  refine g_aload (pc' := 134) X308 hx hby (v := (.ref uv)) own_d4_132 rfl rfl rfl ?_
  refine g_iconst (pc' := 135) (v := (0 : Int32)) X308 hx hby own_d4_134 rfl rfl ?_
  refine g_ldD (pc' := 136) X308 hx hby hZ (v := u0) e308 f329 ⟨by decide, by decide⟩ rfl rfl own_d4_135 rfl ?_
  refine g_dsub (pc' := 137) (v := du2) X308 hx hby own_d4_136 rfl (nn136) E_du2 rfl ?_
  refine g_virt (argsL := [(.double du2)]) (pc' := 140) X308 hx hby (by rw [hml]; rfl) hZ hown e308 (own_rm9 l Z a0 hw [] sec du2 sx sy sz h308 n0 z308 f331 f332 f333 nn137_nn9 nn137_nn15 nn137_nn21) (hw _ (List.mem_of_getElem? (i := 57) rfl)) (hw _ (List.mem_of_getElem? (i := 58) rfl)) (hw _ (List.mem_of_getElem? (i := 60) rfl)) (hw _ (List.mem_of_getElem? (i := 59) rfl)) (hw _ (List.mem_of_getElem? (i := 7) rfl)) (hw _ (List.mem_of_getElem? (i := 61) rfl)) (by decide) f330 own_pd3 rfl rfl (W := 0) rfl (by decide) (by decide) (by decide) (by decide) own_d4_137 rfl ?_
  intro T351 v351 L351 X351 qq351
  obtain ⟨h351, e351⟩ : ∃ h, T351.heap = h := ⟨_, rfl⟩
  rw [e351] at qq351
  obtain ⟨te, rfl, n351, k351, p351_0, p351_1, p351_2, p351_3, p351_4⟩ := qq351
  have f352 := f309.keep k351
  have f353 := f310.keep k351 nin0
  have f354 := f311.keep k351 nin0
  have f355 := f312.keep k351 nin0
  have f356 := f313.keep k351 nin0
  have f357 := f314.keep k351 nin0
  have f358 := f315.keep k351 nin0
  have f359 := f316.keep k351 nin0
  have f360 := f317.keep k351 nin0
  have f361 := f318.keep k351 nin0
  have f362 := f319.keep k351 nin0
  have f363 := f320.keep k351 nin0
  have f364 := f329.keep k351 nin0
  have f365 := f330.keep k351
  have f366 := f331.keep k351 nin0
  have f367 := f332.keep k351 nin0
  have f368 := f333.keep k351 nin0
  have f369 := p308_1.keep k351
  have f370 := p308_2.keep k351 nin0
  have f371 := p308_3.keep k351 nin0
  have f372 := p308_4.keep k351 nin0
  have ge373 : n0 ≤ te := Nat.le_trans z308 p351_0
  have ne374 : a ≠ te := Nat.ne_of_lt (Nat.lt_of_lt_of_le f309.lt p351_0)
  have ne375 : sec ≠ te := Nat.ne_of_lt (Nat.lt_of_lt_of_le f330.lt p351_0)
  have ne376 : thi ≠ te := Nat.ne_of_lt (Nat.lt_of_lt_of_le p308_1.lt p351_0)
  have ne377 : uv ≠ te := Nat.ne_of_lt (Nat.lt_of_lt_of_le f329.lt p351_0)
  have kp378 : h0.size ≤ te := Nat.le_trans K308.1 p351_0
  have z351 := Nat.le_trans z308 k351.1
  have K351 := K308.trans k351 all0
  have N351 := Fr.app N308 n351
  show Gf p e below P T351 m 140 #[.val (.ref a), .val (.ref f), .val (.ref ea), .val (.ref eb), .val (.ref uv), .val (.double av), .second, .val (.double bv), .second, .val (.double cv), .second, .val (.double iv), .second, .val (.ref sec), .val (.ref thi), .unset, .unset] [(.ref te)]
  refine g_aload (pc' := 142) X351 hx hby (v := (.ref thi)) own_d4_140 rfl rfl rfl ?_
  refine g_aload (pc' := 144) X351 hx hby (v := (.ref uv)) own_d4_142 rfl rfl rfl ?_
  refine g_iconst (pc' := 145) (v := (4 : Int32)) X351 hx hby own_d4_144 rfl rfl ?_
  refine g_ldD (pc' := 146) X351 hx hby hZ (v := u4) e351 f364 ⟨by decide, by decide⟩ rfl rfl own_d4_145 rfl ?_
  refine g_aload (pc' := 148) X351 hx hby (v := (.ref uv)) own_d4_146 rfl rfl rfl ?_
  refine g_iconst (pc' := 149) (v := (0 : Int32)) X351 hx hby own_d4_148 rfl rfl ?_
  refine g_ldD (pc' := 150) X351 hx hby hZ (v := u0) e351 f364 ⟨by decide, by decide⟩ rfl rfl own_d4_149 rfl ?_
  refine g_dsub (pc' := 151) (v := du3) X351 hx hby own_d4_150 rfl (nn150) E_du3 rfl ?_
  refine g_virt (argsL := [(.double du3)]) (pc' := 154) X351 hx hby (by rw [hml]; rfl) hZ hown e351 (own_rm9 l Z a0 hw [] thi du3 tx ty tz h351 n0 z351 f370 f371 f372 nn151_nn9 nn151_nn15 nn151_nn21) (hw _ (List.mem_of_getElem? (i := 57) rfl)) (hw _ (List.mem_of_getElem? (i := 58) rfl)) (hw _ (List.mem_of_getElem? (i := 60) rfl)) (hw _ (List.mem_of_getElem? (i := 59) rfl)) (hw _ (List.mem_of_getElem? (i := 7) rfl)) (hw _ (List.mem_of_getElem? (i := 61) rfl)) (by decide) f369 own_pd3 rfl rfl (W := 1) rfl (by decide) (by decide) (by decide) (by decide) own_d4_151 rfl ?_
  intro T379 v379 L379 X379 qq379
  obtain ⟨h379, e379⟩ : ∃ h, T379.heap = h := ⟨_, rfl⟩
  rw [e379] at qq379
  obtain ⟨tf, rfl, n379, k379, p379_0, p379_1, p379_2, p379_3, p379_4⟩ := qq379
  have f380 := f352.keep k379
  have f381 := f353.keep k379 nin0
  have f382 := f354.keep k379 nin0
  have f383 := f355.keep k379 nin0
  have f384 := f356.keep k379 nin0
  have f385 := f357.keep k379 nin0
  have f386 := f358.keep k379 nin0
  have f387 := f359.keep k379 nin0
  have f388 := f360.keep k379 nin0
  have f389 := f361.keep k379 nin0
  have f390 := f362.keep k379 nin0
  have f391 := f363.keep k379 nin0
  have f392 := f364.keep k379 nin0
  have f393 := f365.keep k379
  have f394 := f366.keep k379 nin0
  have f395 := f367.keep k379 nin0
  have f396 := f368.keep k379 nin0
  have f397 := f369.keep k379
  have f398 := f370.keep k379 nin0
  have f399 := f371.keep k379 nin0
  have f400 := f372.keep k379 nin0
  have f401 := p351_1.keep k379
  have f402 := p351_2.keep k379 nin0
  have f403 := p351_3.keep k379 nin0
  have f404 := p351_4.keep k379 nin0
  have ge405 : n0 ≤ tf := Nat.le_trans z351 p379_0
  have ne406 : a ≠ tf := Nat.ne_of_lt (Nat.lt_of_lt_of_le f352.lt p379_0)
  have ne407 : sec ≠ tf := Nat.ne_of_lt (Nat.lt_of_lt_of_le f365.lt p379_0)
  have ne408 : te ≠ tf := Nat.ne_of_lt (Nat.lt_of_lt_of_le p351_1.lt p379_0)
  have ne409 : thi ≠ tf := Nat.ne_of_lt (Nat.lt_of_lt_of_le f369.lt p379_0)
  have ne410 : uv ≠ tf := Nat.ne_of_lt (Nat.lt_of_lt_of_le f364.lt p379_0)
  have kp411 : h0.size ≤ tf := Nat.le_trans K351.1 p379_0
  have z379 := Nat.le_trans z351 k379.1
  have K379 := K351.trans k379 all0
  have N379 := Fr.app N351 n379
  show Gf p e below P T379 m 154 #[.val (.ref a), .val (.ref f), .val (.ref ea), .val (.ref eb), .val (.ref uv), .val (.double av), .second, .val (.double bv), .second, .val (.double cv), .second, .val (.double iv), .second, .val (.ref sec), .val (.ref thi), .unset, .unset] [(.ref tf), (.ref te)]
  refine g_virt (argsL := [(.ref tf)]) (pc' := 157) X379 hx hby (by rw [hml]; rfl) hZ hown e379 (own_rm11 l Z a0 hw [] te tf (FP.dmul sx du2) (FP.dmul sy du2) (FP.dmul sz du2) (FP.dmul tx du3) (FP.dmul ty du3) (FP.dmul tz du3) h379 n0 z379 f402 f403 f404 p379_2 p379_3 p379_4 nn154_nn12 nn154_nn21 nn154_nn30) (hw _ (List.mem_of_getElem? (i := 69) rfl)) (hw _ (List.mem_of_getElem? (i := 70) rfl)) (hw _ (List.mem_of_getElem? (i := 72) rfl)) (hw _ (List.mem_of_getElem? (i := 71) rfl)) (hw _ (List.mem_of_getElem? (i := 7) rfl)) (hw _ (List.mem_of_getElem? (i := 73) rfl)) (by decide) f401 own_pd4 rfl rfl (W := 0) rfl (by decide) (by decide) (by decide) (by decide) own_d4_154 rfl ?_
  intro T412 v412 L412 X412 qq412
  obtain ⟨h412, e412⟩ : ∃ h, T412.heap = h := ⟨_, rfl⟩
  rw [e412] at qq412
  obtain ⟨ugr, rfl, n412, k412, p412_0, p412_1, p412_2, p412_3, p412_4⟩ := qq412
  have f413 := f380.keep k412
  have f414 := f381.keep k412 nin0
  have f415 := f382.keep k412 nin0
  have f416 := f383.keep k412 nin0
  have f417 := f384.keep k412 nin0
  have f418 := f385.keep k412 nin0
  have f419 := f386.keep k412 nin0
  have f420 := f387.keep k412 nin0
  have f421 := f388.keep k412 nin0
  have f422 := f389.keep k412 nin0
  have f423 := f390.keep k412 nin0
  have f424 := f391.keep k412 nin0
  have f425 := f392.keep k412 nin0
  have f426 := f393.keep k412
  have f427 := f394.keep k412 nin0
  have f428 := f395.keep k412 nin0
  have f429 := f396.keep k412 nin0
  have f430 := f397.keep k412
  have f431 := f398.keep k412 nin0
  have f432 := f399.keep k412 nin0
  have f433 := f400.keep k412 nin0
  have f434 := f401.keep k412
  have f435 := f402.keep k412 nin0
  have f436 := f403.keep k412 nin0
  have f437 := f404.keep k412 nin0
  have f438 := p379_1.keep k412
  have f439 := p379_2.keep k412 nin0
  have f440 := p379_3.keep k412 nin0
  have f441 := p379_4.keep k412 nin0
  have ge442 : n0 ≤ ugr := Nat.le_trans z379 p412_0
  have ne443 : a ≠ ugr := Nat.ne_of_lt (Nat.lt_of_lt_of_le f380.lt p412_0)
  have ne444 : sec ≠ ugr := Nat.ne_of_lt (Nat.lt_of_lt_of_le f393.lt p412_0)
  have ne445 : te ≠ ugr := Nat.ne_of_lt (Nat.lt_of_lt_of_le f401.lt p412_0)
  have ne446 : tf ≠ ugr := Nat.ne_of_lt (Nat.lt_of_lt_of_le p379_1.lt p412_0)
  have ne447 : thi ≠ ugr := Nat.ne_of_lt (Nat.lt_of_lt_of_le f397.lt p412_0)
  have ne448 : uv ≠ ugr := Nat.ne_of_lt (Nat.lt_of_lt_of_le f392.lt p412_0)
  have kp449 : h0.size ≤ ugr := Nat.le_trans K379.1 p412_0
  have z412 := Nat.le_trans z379 k412.1
  have K412 := K379.trans k412 all0
  have N412 := Fr.app N379 n412
  show Gf p e below P T412 m 157 #[.val (.ref a), .val (.ref f), .val (.ref ea), .val (.ref eb), .val (.ref uv), .val (.double av), .second, .val (.double bv), .second, .val (.double cv), .second, .val (.double iv), .second, .val (.ref sec), .val (.ref thi), .unset, .unset] [(.ref ugr)]
  rw [E_gx] at p412_2
  rw [E_gy] at p412_3
  rw [E_gz] at p412_4
  refine g_astore (pc' := 159) (Ls' := #[.val (.ref a), .val (.ref f), .val (.ref ea), .val (.ref eb), .val (.ref uv), .val (.double av), .second, .val (.double bv), .second, .val (.double cv), .second, .val (.double iv), .second, .val (.ref sec), .val (.ref thi), .val (.ref ugr), .unset]) X412 hx hby own_d4_157 rfl rfl rfl rfl ?_
  refine g_aload (pc' := 161) X412 hx hby (v := (.ref sec)) own_d4_159 rfl rfl rfl ?_
  refine g_aload (pc' := 163) X412 hx hby (v := (.ref uv)) own_d4_161 rfl rfl rfl ?_
  refine g_iconst (pc' := 164) (v := (3 : Int32)) X412 hx hby own_d4_163 rfl rfl ?_
  refine g_ldD (pc' := 165) X412 hx hby hZ (v := u3) e412 f425 ⟨by decide, by decide⟩ rfl rfl own_d4_164 rfl ?_
  refine g_aload (pc' := 167) X412 hx hby (v := (.ref uv)) own_d4_165 rfl rfl rfl ?_
  refine g_iconst (pc' := 168) (v := (1 : Int32)) X412 hx hby own_d4_167 rfl rfl ?_
  refine g_ldD (pc' := 169) X412 hx hby hZ (v := u1) e412 f425 ⟨by decide, by decide⟩ rfl rfl own_d4_168 rfl ?_
  refine g_dsub (pc' := 170) (v := dv2) X412 hx hby own_d4_169 rfl (nn169) E_dv2 rfl ?_
  refine g_virt (argsL := [(.double dv2)]) (pc' := 173) X412 hx hby (by rw [hml]; rfl) hZ hown e412 (own_rm9 l Z a0 hw [] sec dv2 sx sy sz h412 n0 z412 f427 f428 f429 nn170_nn9 nn170_nn15 nn170_nn21) (hw _ (List.mem_of_getElem? (i := 57) rfl)) (hw _ (List.mem_of_getElem? (i := 58) rfl)) (hw _ (List.mem_of_getElem? (i := 60) rfl)) (hw _ (List.mem_of_getElem? (i := 59) rfl)) (hw _ (List.mem_of_getElem? (i := 7) rfl)) (hw _ (List.mem_of_getElem? (i := 61) rfl)) (by decide) f426 own_pd3 rfl rfl (W := 0) rfl (by decide) (by decide) (by decide) (by decide) own_d4_170 rfl ?_
  intro T450 v450 L450 X450 qq450
  obtain ⟨h450, e450⟩ : ∃ h, T450.heap = h := ⟨_, rfl⟩
  rw [e450] at qq450
  obtain ⟨tg, rfl, n450, k450, p450_0, p450_1, p450_2, p450_3, p450_4⟩ := qq450
  have f451 := f413.keep k450
  have f452 := f414.keep k450 nin0
  have f453 := f415.keep k450 nin0
  have f454 := f416.keep k450 nin0
  have f455 := f417.keep k450 nin0
  have f456 := f418.keep k450 nin0
  have f457 := f419.keep k450 nin0
  have f458 := f420.keep k450 nin0
  have f459 := f421.keep k450 nin0
  have f460 := f422.keep k450 nin0
  have f461 := f423.keep k450 nin0
  have f462 := f424.keep k450 nin0
  have f463 := f425.keep k450 nin0
  have f464 := f426.keep k450
  have f465 := f427.keep k450 nin0
  have f466 := f428.keep k450 nin0
  have f467 := f429.keep k450 nin0
  have f468 := f430.keep k450
  have f469 := f431.keep k450 nin0
  have f470 := f432.keep k450 nin0
  have f471 := f433.keep k450 nin0
  have f472 := p412_1.keep k450
  have f473 := p412_2.keep k450 nin0
  have f474 := p412_3.keep k450 nin0
  have f475 := p412_4.keep k450 nin0
  have ge476 : n0 ≤ tg := Nat.le_trans z412 p450_0
  have ne477 : a ≠ tg := Nat.ne_of_lt (Nat.lt_of_lt_of_le f413.lt p450_0)
  have ne478 : sec ≠ tg := Nat.ne_of_lt (Nat.lt_of_lt_of_le f426.lt p450_0)
  have ne479 : thi ≠ tg := Nat.ne_of_lt (Nat.lt_of_lt_of_le f430.lt p450_0)
  have ne480 : ugr ≠ tg := Nat.ne_of_lt (Nat.lt_of_lt_of_le p412_1.lt p450_0)
  have ne481 : uv ≠ tg := Nat.ne_of_lt (Nat.lt_of_lt_of_le f425.lt p450_0)
  have kp482 : h0.size ≤ tg := Nat.le_trans K412.1 p450_0
  have z450 := Nat.le_trans z412 k450.1
  have K450 := K412.trans k450 all0
  have N450 := Fr.app N412 n450
  show Gf p e below P T450 m 173 #[.val (.ref a), .val (.ref f), .val (.ref ea), .val (.ref eb), .val (.ref uv), .val (.double av), .second, .val (.double bv), .second, .val (.double cv), .second, .val (.double iv), .second, .val (.ref sec), .val (.ref thi), .val (.ref ugr), .unset] [(.ref tg)]
  refine g_aload (pc' := 175) X450 hx hby (v := (.ref thi)) own_d4_173 rfl rfl rfl ?_
  refine g_aload (pc' := 177) X450 hx hby (v := (.ref uv)) own_d4_175 rfl rfl rfl ?_
  refine g_iconst (pc' := 178) (v := (5 : Int32)) X450 hx hby own_d4_177 rfl rfl ?_
  refine g_ldD (pc' := 179) X450 hx hby hZ (v := u5) e450 f463 ⟨by decide, by decide⟩ rfl rfl own_d4_178 rfl ?_
  refine g_aload (pc' := 181) X450 hx hby (v := (.ref uv)) own_d4_179 rfl rfl rfl ?_
  refine g_iconst (pc' := 182) (v := (1 : Int32)) X450 hx hby own_d4_181 rfl rfl ?_
  refine g_ldD (pc' := 183) X450 hx hby hZ (v := u1) e450 f463 ⟨by decide, by decide⟩ rfl rfl own_d4_182 rfl ?_
  refine g_dsub (pc' := 184) (v := dv3) X450 hx hby own_d4_183 rfl (nn183) E_dv3 rfl ?_
  refine g_virt (argsL := [(.double dv3)]) (pc' := 187) X450 hx hby (by rw [hml]; rfl) hZ hown e450 (own_rm9 l Z a0 hw [] thi dv3 tx ty tz h450 n0 z450 f469 f470 f471 nn184_nn9 nn184_nn15 nn184_nn21) (hw _ (List.mem_of_getElem? (i := 57) rfl)) (hw _ (List.mem_of_getElem? (i := 58) rfl)) (hw _ (List.mem_of_getElem? (i := 60) rfl)) (hw _ (List.mem_of_getElem? (i := 59) rfl)) (hw _ (List.mem_of_getElem? (i := 7) rfl)) (hw _ (List.mem_of_getElem? (i := 61) rfl)) (by decide) f468 own_pd3 rfl rfl (W := 1) rfl (by decide) (by decide) (by decide) (by decide) own_d4_184 rfl ?_
  intro T483 v483 L483 X483 qq483
  obtain ⟨h483, e483⟩ : ∃ h, T483.heap = h := ⟨_, rfl⟩
  rw [e483] at qq483
  obtain ⟨th, rfl, n483, k483, p483_0, p483_1, p483_2, p483_3, p483_4⟩ := qq483
  have f484 := f451.keep k483
  have f485 := f452.keep k483 nin0
  have f486 := f453.keep k483 nin0
  have f487 := f454.keep k483 nin0
  have f488 := f455.keep k483 nin0
  have f489 := f456.keep k483 nin0
  have f490 := f457.keep k483 nin0
  have f491 := f458.keep k483 nin0
  have f492 := f459.keep k483 nin0
  have f493 := f460.keep k483 nin0
  have f494 := f461.keep k483 nin0
  have f495 := f462.keep k483 nin0
  have f496 := f463.keep k483 nin0
  have f497 := f464.keep k483
  have f498 := f465.keep k483 nin0
  have f499 := f466.keep k483 nin0
  have f500 := f467.keep k483 nin0
  have f501 := f468.keep k483
  have f502 := f469.keep k483 nin0
  have f503 := f470.keep k483 nin0
  have f504 := f471.keep k483 nin0
  have f505 := f472.keep k483
  have f506 := f473.keep k483 nin0
  have f507 := f474.keep k483 nin0
  have f508 := f475.keep k483 nin0
  have f509 := p450_1.keep k483
  have f510 := p450_2.keep k483 nin0
  have f511 := p450_3.keep k483 nin0
  have f512 := p450_4.keep k483 nin0
  have ge513 : n0 ≤ th := Nat.le_trans z450 p483_0
  have ne514 : a ≠ th := Nat.ne_of_lt (Nat.lt_of_lt_of_le f451.lt p483_0)
  have ne515 : sec ≠ th := Nat.ne_of_lt (Nat.lt_of_lt_of_le f464.lt p483_0)
  have ne516 : tg ≠ th := Nat.ne_of_lt (Nat.lt_of_lt_of_le p450_1.lt p483_0)
  have ne517 : thi ≠ th := Nat.ne_of_lt (Nat.lt_of_lt_of_le f468.lt p483_0)
  have ne518 : ugr ≠ th := Nat.ne_of_lt (Nat.lt_of_lt_of_le f472.lt p483_0)
  have ne519 : uv ≠ th := Nat.ne_of_lt (Nat.lt_of_lt_of_le f463.lt p483_0)
  have kp520 : h0.size ≤ th := Nat.le_trans K450.1 p483_0
  have z483 := Nat.le_trans z450 k483.1
  have K483 := K450.trans k483 all0
  have N483 := Fr.app N450 n483
  show Gf p e below P T483 m 187 #[.val (.ref a), .val (.ref f), .val (.ref ea), .val (.ref eb), .val (.ref uv), .val (.double av), .second, .val (.double bv), .second, .val (.double cv), .second, .val (.double iv), .second, .val (.ref sec), .val (.ref thi), .val (.ref ugr), .unset] [(.ref th), (.ref tg)]
  refine g_virt (argsL := [(.ref th)]) (pc' := 190) X483 hx hby (by rw [hml]; rfl) hZ hown e483 (own_rm11 l Z a0 hw [] tg th (FP.dmul sx dv2) (FP.dmul sy dv2) (FP.dmul sz dv2) (FP.dmul tx dv3) (FP.dmul ty dv3) (FP.dmul tz dv3) h483 n0 z483 f510 f511 f512 p483_2 p483_3 p483_4 nn187_nn12 nn187_nn21 nn187_nn30) (hw _ (List.mem_of_getElem? (i := 69) rfl)) (hw _ (List.mem_of_getElem? (i := 70) rfl)) (hw _ (List.mem_of_getElem? (i := 72) rfl)) (hw _ (List.mem_of_getElem? (i := 71) rfl)) (hw _ (List.mem_of_getElem? (i := 7) rfl)) (hw _ (List.mem_of_getElem? (i := 73) rfl)) (by decide) f509 own_pd4 rfl rfl (W := 0) rfl (by decide) (by decide) (by decide) (by decide) own_d4_187 rfl ?_
  intro T521 v521 L521 X521 qq521
  obtain ⟨h521, e521⟩ : ∃ h, T521.heap = h := ⟨_, rfl⟩
  rw [e521] at qq521
  obtain ⟨vgr, rfl, n521, k521, p521_0, p521_1, p521_2, p521_3, p521_4⟩ := qq521
  have f522 := f484.keep k521
  have f523 := f485.keep k521 nin0
  have f524 := f486.keep k521 nin0
  have f525 := f487.keep k521 nin0
  have f526 := f488.keep k521 nin0
  have f527 := f489.keep k521 nin0
  have f528 := f490.keep k521 nin0
  have f529 := f491.keep k521 nin0
  have f530 := f492.keep k521 nin0
  have f531 := f493.keep k521 nin0
  have f532 := f494.keep k521 nin0
  have f533 := f495.keep k521 nin0
  have f534 := f496.keep k521 nin0
  have f535 := f497.keep k521
  have f536 := f498.keep k521 nin0
  have f537 := f499.keep k521 nin0
  have f538 := f500.keep k521 nin0
  have f539 := f501.keep k521
  have f540 := f502.keep k521 nin0
  have f541 := f503.keep k521 nin0
  have f542 := f504.keep k521 nin0
  have f543 := f505.keep k521
  have f544 := f506.keep k521 nin0
  have f545 := f507.keep k521 nin0
  have f546 := f508.keep k521 nin0
  have f547 := f509.keep k521
  have f548 := f510.keep k521 nin0
  have f549 := f511.keep k521 nin0
  have f550 := f512.keep k521 nin0
  have f551 := p483_1.keep k521
  have f552 := p483_2.keep k521 nin0
  have f553 := p483_3.keep k521 nin0
  have f554 := p483_4.keep k521 nin0
  have ge555 : n0 ≤ vgr := Nat.le_trans z483 p521_0
  have ne556 : a ≠ vgr := Nat.ne_of_lt (Nat.lt_of_lt_of_le f484.lt p521_0)
  have ne557 : sec ≠ vgr := Nat.ne_of_lt (Nat.lt_of_lt_of_le f497.lt p521_0)
  have ne558 : tg ≠ vgr := Nat.ne_of_lt (Nat.lt_of_lt_of_le f509.lt p521_0)
  have ne559 : th ≠ vgr := Nat.ne_of_lt (Nat.lt_of_lt_of_le p483_1.lt p521_0)
  have ne560 : thi ≠ vgr := Nat.ne_of_lt (Nat.lt_of_lt_of_le f501.lt p521_0)
  have ne561 : ugr ≠ vgr := Nat.ne_of_lt (Nat.lt_of_lt_of_le f505.lt p521_0)
  have ne562 : uv ≠ vgr := Nat.ne_of_lt (Nat.lt_of_lt_of_le f496.lt p521_0)
  have kp563 : h0.size ≤ vgr := Nat.le_trans K483.1 p521_0
  have z521 := Nat.le_trans z483 k521.1
  have K521 := K483.trans k521 all0
  have N521 := Fr.app N483 n521
  show Gf p e below P T521 m 190 #[.val (.ref a), .val (.ref f), .val (.ref ea), .val (.ref eb), .val (.ref uv), .val (.double av), .second, .val (.double bv), .second, .val (.double cv), .second, .val (.double iv), .second, .val (.ref sec), .val (.ref thi), .val (.ref ugr), .unset] [(.ref vgr)]
  rw [E_wx] at p521_2
  rw [E_wy] at p521_3
  rw [E_wz] at p521_4
  refine g_astore (pc' := 192) (Ls' := #[.val (.ref a), .val (.ref f), .val (.ref ea), .val (.ref eb), .val (.ref uv), .val (.double av), .second, .val (.double bv), .second, .val (.double cv), .second, .val (.double iv), .second, .val (.ref sec), .val (.ref thi), .val (.ref ugr), .val (.ref vgr)]) X521 hx hby own_d4_190 rfl rfl rfl rfl ?_
  refine g_aloadN (pc' := 193) X521 hx hby (v := (.ref a)) own_d4_192 rfl rfl rfl ?_
  refine g_aload (pc' := 195) X521 hx hby (v := (.ref ugr)) own_d4_193 rfl rfl rfl ?_
  refine g_virt (argsL := []) (pc' := 198) X521 hx hby (by rw [hml]; rfl) hZ hown e521 (own_rm5 l Z a0 hw [] ugr gx h521 n0 z521 f544) (hw _ (List.mem_of_getElem? (i := 27) rfl)) (hw _ (List.mem_of_getElem? (i := 28) rfl)) (hw _ (List.mem_of_getElem? (i := 30) rfl)) (hw _ (List.mem_of_getElem? (i := 29) rfl)) (hw _ (List.mem_of_getElem? (i := 7) rfl)) (hw _ (List.mem_of_getElem? (i := 31) rfl)) (by decide) f543 own_pd1 rfl rfl (W := 1) rfl (by decide) (by decide) (by decide) (by decide) own_d4_195 rfl ?_
  intro T564 v564 L564 X564 qq564
  obtain ⟨rfl, n564, e564⟩ := qq564
  have N564 := Fr.app N521 n564
  show Gf p e below P T564 m 198 #[.val (.ref a), .val (.ref f), .val (.ref ea), .val (.ref eb), .val (.ref uv), .val (.double av), .second, .val (.double bv), .second, .val (.double cv), .second, .val (.double iv), .second, .val (.ref sec), .val (.ref thi), .val (.ref ugr), .val (.ref vgr)] [(.double gx), (.ref a)]
  refine g_putF (pc' := 201) X564 hx hby hZ hown (host := "") (Or.inl (hw _ (List.mem_of_getElem? (i := 74) rfl))) Via.refl e564 f528 f522 (Or.inr ⟨(hw _ (List.mem_of_getElem? (i := 75) rfl)), rfl, hnm⟩) (hw _ (List.mem_of_getElem? (i := 21) rfl)) (ty := .double) own_fd0 rfl rfl rfl own_d4_198 rfl N564 c12 ?_
  intro T565 h565 X565 e565 W565 N565
  have f566 := f522.wr W565
  have f567 := f523.other W565 (Or.inr (slot_ne (Or.inr (hw _ (List.mem_of_getElem? (i := 33) rfl))) (Or.inr (hw _ (List.mem_of_getElem? (i := 75) rfl))) own_nes56 own_fd0 own_fd0))
  have f568 := f524.other W565 (Or.inr (slot_ne (Or.inr (hw _ (List.mem_of_getElem? (i := 40) rfl))) (Or.inr (hw _ (List.mem_of_getElem? (i := 75) rfl))) own_nes57 own_fd0 own_fd0))
  have f569 := f525.other W565 (Or.inr (slot_ne (Or.inr (hw _ (List.mem_of_getElem? (i := 47) rfl))) (Or.inr (hw _ (List.mem_of_getElem? (i := 75) rfl))) own_nes58 own_fd0 own_fd0))
  have f570 := f526.other W565 (Or.inr (slot_ne (Or.inr (hw _ (List.mem_of_getElem? (i := 49) rfl))) (Or.inr (hw _ (List.mem_of_getElem? (i := 75) rfl))) own_nes59 own_fd0 own_fd0))
  have f571 := f527.other W565 (Or.inr (slot_ne (Or.inr (hw _ (List.mem_of_getElem? (i := 51) rfl))) (Or.inr (hw _ (List.mem_of_getElem? (i := 75) rfl))) own_nes60 own_fd0 own_fd0))
  have f572 := f528.same W565
  have f573 := f529.other W565 (Or.inr (slot_ne (Or.inr (hw _ (List.mem_of_getElem? (i := 77) rfl))) (Or.inr (hw _ (List.mem_of_getElem? (i := 75) rfl))) own_nes61 own_fd0 own_fd0))
  have f574 := f530.other W565 (Or.inr (slot_ne (Or.inr (hw _ (List.mem_of_getElem? (i := 79) rfl))) (Or.inr (hw _ (List.mem_of_getElem? (i := 75) rfl))) own_nes62 own_fd0 own_fd0))
  have f575 := f531.other W565 (Or.inr (slot_ne (Or.inr (hw _ (List.mem_of_getElem? (i := 81) rfl))) (Or.inr (hw _ (List.mem_of_getElem? (i := 75) rfl))) own_nes63 own_fd0 own_fd0))
  have f576 := f532.other W565 (Or.inr (slot_ne (Or.inr (hw _ (List.mem_of_getElem? (i := 83) rfl))) (Or.inr (hw _ (List.mem_of_getElem? (i := 75) rfl))) own_nes64 own_fd0 own_fd0))
  have f577 := f533.other W565 (Or.inr (slot_ne (Or.inr (hw _ (List.mem_of_getElem? (i := 85) rfl))) (Or.inr (hw _ (List.mem_of_getElem? (i := 75) rfl))) own_nes65 own_fd0 own_fd0))
  have f578 := f543.wr W565
  have f579 := f544.other W565 (Or.inl (Ne.symm ne443))
  have f580 := f545.other W565 (Or.inl (Ne.symm ne443))
  have f581 := f546.other W565 (Or.inl (Ne.symm ne443))
  have f582 := p521_1.wr W565
  have f583 := p521_2.other W565 (Or.inl (Ne.symm ne556))
  have f584 := p521_3.other W565 (Or.inl (Ne.symm ne556))
  have f585 := p521_4.other W565 (Or.inl (Ne.symm ne556))
  have z565 := Nat.le_trans z521 (Keep.of_wr W565).1
  have K565 := K521.wr W565 (Or.inl (List.mem_of_getElem? (i := 0) rfl))
  refine g_aloadN (pc' := 202) X565 hx hby (v := (.ref a)) own_d4_201 rfl rfl rfl ?_
  refine g_aload (pc' := 204) X565 hx hby (v := (.ref ugr)) own_d4_202 rfl rfl rfl ?_
  refine g_virt (argsL := []) (pc' := 207) X565 hx hby (by rw [hml]; rfl) hZ hown e565 (own_rm6 l Z a0 hw [] ugr gy h565 n0 z565 f580) (hw _ (List.mem_of_getElem? (i := 34) rfl)) (hw _ (List.mem_of_getElem? (i := 35) rfl)) (hw _ (List.mem_of_getElem? (i := 37) rfl)) (hw _ (List.mem_of_getElem? (i := 36) rfl)) (hw _ (List.mem_of_getElem? (i := 7) rfl)) (hw _ (List.mem_of_getElem? (i := 38) rfl)) (by decide) f578 own_pd1 rfl rfl (W := 1) rfl (by decide) (by decide) (by decide) (by decide) own_d4_204 rfl ?_
  intro T586 v586 L586 X586 qq586
  obtain ⟨rfl, n586, e586⟩ := qq586
  have N586 := Fr.app N565 n586
  show Gf p e below P T586 m 207 #[.val (.ref a), .val (.ref f), .val (.ref ea), .val (.ref eb), .val (.ref uv), .val (.double av), .second, .val (.double bv), .second, .val (.double cv), .second, .val (.double iv), .second, .val (.ref sec), .val (.ref thi), .val (.ref ugr), .val (.ref vgr)] [(.double gy), (.ref a)]
  refine g_putF (pc' := 210) X586 hx hby hZ hown (host := "") (Or.inl (hw _ (List.mem_of_getElem? (i := 76) rfl))) Via.refl e586 f573 f566 (Or.inr ⟨(hw _ (List.mem_of_getElem? (i := 77) rfl)), rfl, hnm⟩) (hw _ (List.mem_of_getElem? (i := 21) rfl)) (ty := .double) own_fd0 rfl rfl rfl own_d4_207 rfl N586 c12 ?_
  intro T587 h587 X587 e587 W587 N587
  have f588 := f566.wr W587
  have f589 := f567.other W587 (Or.inr (slot_ne (Or.inr (hw _ (List.mem_of_getElem? (i := 33) rfl))) (Or.inr (hw _ (List.mem_of_getElem? (i := 77) rfl))) own_nes66 own_fd0 own_fd0))
  have f590 := f568.other W587 (Or.inr (slot_ne (Or.inr (hw _ (List.mem_of_getElem? (i := 40) rfl))) (Or.inr (hw _ (List.mem_of_getElem? (i := 77) rfl))) own_nes67 own_fd0 own_fd0))
  have f591 := f569.other W587 (Or.inr (slot_ne (Or.inr (hw _ (List.mem_of_getElem? (i := 47) rfl))) (Or.inr (hw _ (List.mem_of_getElem? (i := 77) rfl))) own_nes68 own_fd0 own_fd0))
  have f592 := f570.other W587 (Or.inr (slot_ne (Or.inr (hw _ (List.mem_of_getElem? (i := 49) rfl))) (Or.inr (hw _ (List.mem_of_getElem? (i := 77) rfl))) own_nes69 own_fd0 own_fd0))
  have f593 := f571.other W587 (Or.inr (slot_ne (Or.inr (hw _ (List.mem_of_getElem? (i := 51) rfl))) (Or.inr (hw _ (List.mem_of_getElem? (i := 77) rfl))) own_nes70 own_fd0 own_fd0))
  have f594 := f572.other W587 (Or.inr (slot_ne (Or.inr (hw _ (List.mem_of_getElem? (i := 75) rfl))) (Or.inr (hw _ (List.mem_of_getElem? (i := 77) rfl))) own_nes71 own_fd0 own_fd0))
  have f595 := f573.same W587
  have f596 := f574.other W587 (Or.inr (slot_ne (Or.inr (hw _ (List.mem_of_getElem? (i := 79) rfl))) (Or.inr (hw _ (List.mem_of_getElem? (i := 77) rfl))) own_nes72 own_fd0 own_fd0))
  have f597 := f575.other W587 (Or.inr (slot_ne (Or.inr (hw _ (List.mem_of_getElem? (i := 81) rfl))) (Or.inr (hw _ (List.mem_of_getElem? (i := 77) rfl))) own_nes73 own_fd0 own_fd0))
  have f598 := f576.other W587 (Or.inr (slot_ne (Or.inr (hw _ (List.mem_of_getElem? (i := 83) rfl))) (Or.inr (hw _ (List.mem_of_getElem? (i := 77) rfl))) own_nes74 own_fd0 own_fd0))
  have f599 := f577.other W587 (Or.inr (slot_ne (Or.inr (hw _ (List.mem_of_getElem? (i := 85) rfl))) (Or.inr (hw _ (List.mem_of_getElem? (i := 77) rfl))) own_nes75 own_fd0 own_fd0))
  have f600 := f578.wr W587
  have f601 := f579.other W587 (Or.inl (Ne.symm ne443))
  have f602 := f580.other W587 (Or.inl (Ne.symm ne443))
  have f603 := f581.other W587 (Or.inl (Ne.symm ne443))
  have f604 := f582.wr W587
  have f605 := f583.other W587 (Or.inl (Ne.symm ne556))
  have f606 := f584.other W587 (Or.inl (Ne.symm ne556))
  have f607 := f585.other W587 (Or.inl (Ne.symm ne556))
  have z587 := Nat.le_trans z565 (Keep.of_wr W587).1
  have K587 := K565.wr W587 (Or.inl (List.mem_of_getElem? (i := 0) rfl))
  refine g_aloadN (pc' := 211) X587 hx hby (v := (.ref a)) own_d4_210 rfl rfl rfl ?_
  refine g_aload (pc' := 213) X587 hx hby (v := (.ref ugr)) own_d4_211 rfl rfl rfl ?_
  refine g_virt (argsL := []) (pc' := 216) X587 hx hby (by rw [hml]; rfl) hZ hown e587 (own_rm7 l Z a0 hw [] ugr gz h587 n0 z587 f603) (hw _ (List.mem_of_getElem? (i := 41) rfl)) (hw _ (List.mem_of_getElem? (i := 42) rfl)) (hw _ (List.mem_of_getElem? (i := 44) rfl)) (hw _ (List.mem_of_getElem? (i := 43) rfl)) (hw _ (List.mem_of_getElem? (i := 7) rfl)) (hw _ (List.mem_of_getElem? (i := 45) rfl)) (by decide) f600 own_pd1 rfl rfl (W := 1) rfl (by decide) (by decide) (by decide) (by decide) own_d4_213 rfl ?_
  intro T608 v608 L608 X608 qq608
  obtain ⟨rfl, n608, e608⟩ := qq608
  have N608 := Fr.app N587 n608
  show Gf p e below P T608 m 216 #[.val (.ref a), .val (.ref f), .val (.ref ea), .val (.ref eb), .val (.ref uv), .val (.double av), .second, .val (.double bv), .second, .val (.double cv), .second, .val (.double iv), .second, .val (.ref sec), .val (.ref thi), .val (.ref ugr), .val (.ref vgr)] [(.double gz), (.ref a)]
  refine g_putF (pc' := 219) X608 hx hby hZ hown (host := "") (Or.inl (hw _ (List.mem_of_getElem? (i := 78) rfl))) Via.refl e608 f596 f588 (Or.inr ⟨(hw _ (List.mem_of_getElem? (i := 79) rfl)), rfl, hnm⟩) (hw _ (List.mem_of_getElem? (i := 21) rfl)) (ty := .double) own_fd0 rfl rfl rfl own_d4_216 rfl N608 c12 ?_
  intro T609 h609 X609 e609 W609 N609
  have f610 := f588.wr W609
  have f611 := f589.other W609 (Or.inr (slot_ne (Or.inr (hw _ (List.mem_of_getElem? (i := 33) rfl))) (Or.inr (hw _ (List.mem_of_getElem? (i := 79) rfl))) own_nes76 own_fd0 own_fd0))
  have f612 := f590.other W609 (Or.inr (slot_ne (Or.inr (hw _ (List.mem_of_getElem? (i := 40) rfl))) (Or.inr (hw _ (List.mem_of_getElem? (i := 79) rfl))) own_nes77 own_fd0 own_fd0))
  have f613 := f591.other W609 (Or.inr (slot_ne (Or.inr (hw _ (List.mem_of_getElem? (i := 47) rfl))) (Or.inr (hw _ (List.mem_of_getElem? (i := 79) rfl))) own_nes78 own_fd0 own_fd0))
  have f614 := f592.other W609 (Or.inr (slot_ne (Or.inr (hw _ (List.mem_of_getElem? (i := 49) rfl))) (Or.inr (hw _ (List.mem_of_getElem? (i := 79) rfl))) own_nes79 own_fd0 own_fd0))
  have f615 := f593.other W609 (Or.inr (slot_ne (Or.inr (hw _ (List.mem_of_getElem? (i := 51) rfl))) (Or.inr (hw _ (List.mem_of_getElem? (i := 79) rfl))) own_nes80 own_fd0 own_fd0))
  have f616 := f594.other W609 (Or.inr (slot_ne (Or.inr (hw _ (List.mem_of_getElem? (i := 75) rfl))) (Or.inr (hw _ (List.mem_of_getElem? (i := 79) rfl))) own_nes81 own_fd0 own_fd0))
  have f617 := f595.other W609 (Or.inr (slot_ne (Or.inr (hw _ (List.mem_of_getElem? (i := 77) rfl))) (Or.inr (hw _ (List.mem_of_getElem? (i := 79) rfl))) own_nes82 own_fd0 own_fd0))
  have f618 := f596.same W609
  have f619 := f597.other W609 (Or.inr (slot_ne (Or.inr (hw _ (List.mem_of_getElem? (i := 81) rfl))) (Or.inr (hw _ (List.mem_of_getElem? (i := 79) rfl))) own_nes83 own_fd0 own_fd0))
  have f620 := f598.other W609 (Or.inr (slot_ne (Or.inr (hw _ (List.mem_of_getElem? (i := 83) rfl))) (Or.inr (hw _ (List.mem_of_getElem? (i := 79) rfl))) own_nes84 own_fd0 own_fd0))
  have f621 := f599.other W609 (Or.inr (slot_ne (Or.inr (hw _ (List.mem_of_getElem? (i := 85) rfl))) (Or.inr (hw _ (List.mem_of_getElem? (i := 79) rfl))) own_nes85 own_fd0 own_fd0))
  have f622 := f600.wr W609
  have f623 := f601.other W609 (Or.inl (Ne.symm ne443))
  have f624 := f602.other W609 (Or.inl (Ne.symm ne443))
  have f625 := f603.other W609 (Or.inl (Ne.symm ne443))
  have f626 := f604.wr W609
  have f627 := f605.other W609 (Or.inl (Ne.symm ne556))
  have f628 := f606.other W609 (Or.inl (Ne.symm ne556))
  have f629 := f607.other W609 (Or.inl (Ne.symm ne556))
  have z609 := Nat.le_trans z587 (Keep.of_wr W609).1
  have K609 := K587.wr W609 (Or.inl (List.mem_of_getElem? (i := 0) rfl))
  refine g_aloadN (pc' := 220) X609 hx hby (v := (.ref a)) own_d4_219 rfl rfl rfl ?_
  refine g_aload (pc' := 222) X609 hx hby (v := (.ref vgr)) own_d4_220 rfl rfl rfl ?_
  refine g_virt (argsL := []) (pc' := 225) X609 hx hby (by rw [hml]; rfl) hZ hown e609 (own_rm5 l Z a0 hw [] vgr wx h609 n0 z609 f627) (hw _ (List.mem_of_getElem? (i := 27) rfl)) (hw _ (List.mem_of_getElem? (i := 28) rfl)) (hw _ (List.mem_of_getElem? (i := 30) rfl)) (hw _ (List.mem_of_getElem? (i := 29) rfl)) (hw _ (List.mem_of_getElem? (i := 7) rfl)) (hw _ (List.mem_of_getElem? (i := 31) rfl)) (by decide) f626 own_pd1 rfl rfl (W := 1) rfl (by decide) (by decide) (by decide) (by decide) own_d4_222 rfl ?_
  intro T630 v630 L630 X630 qq630
  obtain ⟨rfl, n630, e630⟩ := qq630
  have N630 := Fr.app N609 n630
  show Gf p e below P T630 m 225 #[.val (.ref a), .val (.ref f), .val (.ref ea), .val (.ref eb), .val (.ref uv), .val (.double av), .second, .val (.double bv), .second, .val (.double cv), .second, .val (.double iv), .second, .val (.ref sec), .val (.ref thi), .val (.ref ugr), .val (.ref vgr)] [(.double wx), (.ref a)]
  refine g_putF (pc' := 228) X630 hx hby hZ hown (host := "") (Or.inl (hw _ (List.mem_of_getElem? (i := 80) rfl))) Via.refl e630 f619 f610 (Or.inr ⟨(hw _ (List.mem_of_getElem? (i := 81) rfl)), rfl, hnm⟩) (hw _ (List.mem_of_getElem? (i := 21) rfl)) (ty := .double) own_fd0 rfl rfl rfl own_d4_225 rfl N630 c12 ?_
  intro T631 h631 X631 e631 W631 N631
  have f632 := f610.wr W631
  have f633 := f611.other W631 (Or.inr (slot_ne (Or.inr (hw _ (List.mem_of_getElem? (i := 33) rfl))) (Or.inr (hw _ (List.mem_of_getElem? (i := 81) rfl))) own_nes86 own_fd0 own_fd0))
  have f634 := f612.other W631 (Or.inr (slot_ne (Or.inr (hw _ (List.mem_of_getElem? (i := 40) rfl))) (Or.inr (hw _ (List.mem_of_getElem? (i := 81) rfl))) own_nes87 own_fd0 own_fd0))
  have f635 := f613.other W631 (Or.inr (slot_ne (Or.inr (hw _ (List.mem_of_getElem? (i := 47) rfl))) (Or.inr (hw _ (List.mem_of_getElem? (i := 81) rfl))) own_nes88 own_fd0 own_fd0))
  have f636 := f614.other W631 (Or.inr (slot_ne (Or.inr (hw _ (List.mem_of_getElem? (i := 49) rfl))) (Or.inr (hw _ (List.mem_of_getElem? (i := 81) rfl))) own_nes89 own_fd0 own_fd0))
  have f637 := f615.other W631 (Or.inr (slot_ne (Or.inr (hw _ (List.mem_of_getElem? (i := 51) rfl))) (Or.inr (hw _ (List.mem_of_getElem? (i := 81) rfl))) own_nes90 own_fd0 own_fd0))
  have f638 := f616.other W631 (Or.inr (slot_ne (Or.inr (hw _ (List.mem_of_getElem? (i := 75) rfl))) (Or.inr (hw _ (List.mem_of_getElem? (i := 81) rfl))) own_nes91 own_fd0 own_fd0))
  have f639 := f617.other W631 (Or.inr (slot_ne (Or.inr (hw _ (List.mem_of_getElem? (i := 77) rfl))) (Or.inr (hw _ (List.mem_of_getElem? (i := 81) rfl))) own_nes92 own_fd0 own_fd0))
  have f640 := f618.other W631 (Or.inr (slot_ne (Or.inr (hw _ (List.mem_of_getElem? (i := 79) rfl))) (Or.inr (hw _ (List.mem_of_getElem? (i := 81) rfl))) own_nes93 own_fd0 own_fd0))
  have f641 := f619.same W631
  have f642 := f620.other W631 (Or.inr (slot_ne (Or.inr (hw _ (List.mem_of_getElem? (i := 83) rfl))) (Or.inr (hw _ (List.mem_of_getElem? (i := 81) rfl))) own_nes94 own_fd0 own_fd0))
  have f643 := f621.other W631 (Or.inr (slot_ne (Or.inr (hw _ (List.mem_of_getElem? (i := 85) rfl))) (Or.inr (hw _ (List.mem_of_getElem? (i := 81) rfl))) own_nes95 own_fd0 own_fd0))
  have f644 := f622.wr W631
  have f645 := f623.other W631 (Or.inl (Ne.symm ne443))
  have f646 := f624.other W631 (Or.inl (Ne.symm ne443))
  have f647 := f625.other W631 (Or.inl (Ne.symm ne443))
  have f648 := f626.wr W631
  have f649 := f627.other W631 (Or.inl (Ne.symm ne556))
  have f650 := f628.other W631 (Or.inl (Ne.symm ne556))
  have f651 := f629.other W631 (Or.inl (Ne.symm ne556))
  have z631 := Nat.le_trans z609 (Keep.of_wr W631).1
  have K631 := K609.wr W631 (Or.inl (List.mem_of_getElem? (i := 0) rfl))
  refine g_aloadN (pc' := 229) X631 hx hby (v := (.ref a)) own_d4_228 rfl rfl rfl ?_
  refine g_aload (pc' := 231) X631 hx hby (v := (.ref vgr)) own_d4_229 rfl rfl rfl ?_
  refine g_virt (argsL := []) (pc' := 234) X631 hx hby (by rw [hml]; rfl) hZ hown e631 (own_rm6 l Z a0 hw [] vgr wy h631 n0 z631 f650) (hw _ (List.mem_of_getElem? (i := 34) rfl)) (hw _ (List.mem_of_getElem? (i := 35) rfl)) (hw _ (List.mem_of_getElem? (i := 37) rfl)) (hw _ (List.mem_of_getElem? (i := 36) rfl)) (hw _ (List.mem_of_getElem? (i := 7) rfl)) (hw _ (List.mem_of_getElem? (i := 38) rfl)) (by decide) f648 own_pd1 rfl rfl (W := 1) rfl (by decide) (by decide) (by decide) (by decide) own_d4_231 rfl ?_
  intro T652 v652 L652 X652 qq652
  obtain ⟨rfl, n652, e652⟩ := qq652
  have N652 := Fr.app N631 n652
  show Gf p e below P T652 m 234 #[.val (.ref a), .val (.ref f), .val (.ref ea), .val (.ref eb), .val (.ref uv), .val (.double av), .second, .val (.double bv), .second, .val (.double cv), .second, .val (.double iv), .second, .val (.ref sec), .val (.ref thi), .val (.ref ugr), .val (.ref vgr)] [(.double wy), (.ref a)]
  refine g_putF (pc' := 237) X652 hx hby hZ hown (host := "") (Or.inl (hw _ (List.mem_of_getElem? (i := 82) rfl))) Via.refl e652 f642 f632 (Or.inr ⟨(hw _ (List.mem_of_getElem? (i := 83) rfl)), rfl, hnm⟩) (hw _ (List.mem_of_getElem? (i := 21) rfl)) (ty := .double) own_fd0 rfl rfl rfl own_d4_234 rfl N652 c12 ?_
  intro T653 h653 X653 e653 W653 N653
  have f654 := f632.wr W653
  have f655 := f633.other W653 (Or.inr (slot_ne (Or.inr (hw _ (List.mem_of_getElem? (i := 33) rfl))) (Or.inr (hw _ (List.mem_of_getElem? (i := 83) rfl))) own_nes96 own_fd0 own_fd0))
  have f656 := f634.other W653 (Or.inr (slot_ne (Or.inr (hw _ (List.mem_of_getElem? (i := 40) rfl))) (Or.inr (hw _ (List.mem_of_getElem? (i := 83) rfl))) own_nes97 own_fd0 own_fd0))
  have f657 := f635.other W653 (Or.inr (slot_ne (Or.inr (hw _ (List.mem_of_getElem? (i := 47) rfl))) (Or.inr (hw _ (List.mem_of_getElem? (i := 83) rfl))) own_nes98 own_fd0 own_fd0))
  have f658 := f636.other W653 (Or.inr (slot_ne (Or.inr (hw _ (List.mem_of_getElem? (i := 49) rfl))) (Or.inr (hw _ (List.mem_of_getElem? (i := 83) rfl))) own_nes99 own_fd0 own_fd0))
  have f659 := f637.other W653 (Or.inr (slot_ne (Or.inr (hw _ (List.mem_of_getElem? (i := 51) rfl))) (Or.inr (hw _ (List.mem_of_getElem? (i := 83) rfl))) own_nes100 own_fd0 own_fd0))
  have f660 := f638.other W653 (Or.inr (slot_ne (Or.inr (hw _ (List.mem_of_getElem? (i := 75) rfl))) (Or.inr (hw _ (List.mem_of_getElem? (i := 83) rfl))) own_nes101 own_fd0 own_fd0))
  have f661 := f639.other W653 (Or.inr (slot_ne (Or.inr (hw _ (List.mem_of_getElem? (i := 77) rfl))) (Or.inr (hw _ (List.mem_of_getElem? (i := 83) rfl))) own_nes102 own_fd0 own_fd0))
  have f662 := f640.other W653 (Or.inr (slot_ne (Or.inr (hw _ (List.mem_of_getElem? (i := 79) rfl))) (Or.inr (hw _ (List.mem_of_getElem? (i := 83) rfl))) own_nes103 own_fd0 own_fd0))
  have f663 := f641.other W653 (Or.inr (slot_ne (Or.inr (hw _ (List.mem_of_getElem? (i := 81) rfl))) (Or.inr (hw _ (List.mem_of_getElem? (i := 83) rfl))) own_nes104 own_fd0 own_fd0))
  have f664 := f642.same W653
  have f665 := f643.other W653 (Or.inr (slot_ne (Or.inr (hw _ (List.mem_of_getElem? (i := 85) rfl))) (Or.inr (hw _ (List.mem_of_getElem? (i := 83) rfl))) own_nes105 own_fd0 own_fd0))
  have f666 := f644.wr W653
  have f667 := f645.other W653 (Or.inl (Ne.symm ne443))
  have f668 := f646.other W653 (Or.inl (Ne.symm ne443))
  have f669 := f647.other W653 (Or.inl (Ne.symm ne443))
  have f670 := f648.wr W653
  have f671 := f649.other W653 (Or.inl (Ne.symm ne556))
  have f672 := f650.other W653 (Or.inl (Ne.symm ne556))
  have f673 := f651.other W653 (Or.inl (Ne.symm ne556))
  have z653 := Nat.le_trans z631 (Keep.of_wr W653).1
  have K653 := K631.wr W653 (Or.inl (List.mem_of_getElem? (i := 0) rfl))
  refine g_aloadN (pc' := 238) X653 hx hby (v := (.ref a)) own_d4_237 rfl rfl rfl ?_
  refine g_aload (pc' := 240) X653 hx hby (v := (.ref vgr)) own_d4_238 rfl rfl rfl ?_
  refine g_virt (argsL := []) (pc' := 243) X653 hx hby (by rw [hml]; rfl) hZ hown e653 (own_rm7 l Z a0 hw [] vgr wz h653 n0 z653 f673) (hw _ (List.mem_of_getElem? (i := 41) rfl)) (hw _ (List.mem_of_getElem? (i := 42) rfl)) (hw _ (List.mem_of_getElem? (i := 44) rfl)) (hw _ (List.mem_of_getElem? (i := 43) rfl)) (hw _ (List.mem_of_getElem? (i := 7) rfl)) (hw _ (List.mem_of_getElem? (i := 45) rfl)) (by decide) f670 own_pd1 rfl rfl (W := 1) rfl (by decide) (by decide) (by decide) (by decide) own_d4_240 rfl ?_
  intro T674 v674 L674 X674 qq674
  obtain ⟨rfl, n674, e674⟩ := qq674
  have N674 := Fr.app N653 n674
  show Gf p e below P T674 m 243 #[.val (.ref a), .val (.ref f), .val (.ref ea), .val (.ref eb), .val (.ref uv), .val (.double av), .second, .val (.double bv), .second, .val (.double cv), .second, .val (.double iv), .second, .val (.ref sec), .val (.ref thi), .val (.ref ugr), .val (.ref vgr)] [(.double wz), (.ref a)]
  refine g_putF (pc' := 246) X674 hx hby hZ hown (host := "") (Or.inl (hw _ (List.mem_of_getElem? (i := 84) rfl))) Via.refl e674 f665 f654 (Or.inr ⟨(hw _ (List.mem_of_getElem? (i := 85) rfl)), rfl, hnm⟩) (hw _ (List.mem_of_getElem? (i := 21) rfl)) (ty := .double) own_fd0 rfl rfl rfl own_d4_243 rfl N674 c12 ?_
  intro T675 h675 X675 e675 W675 N675
  have f676 := f654.wr W675
  have f677 := f655.other W675 (Or.inr (slot_ne (Or.inr (hw _ (List.mem_of_getElem? (i := 33) rfl))) (Or.inr (hw _ (List.mem_of_getElem? (i := 85) rfl))) own_nes106 own_fd0 own_fd0))
  have f678 := f656.other W675 (Or.inr (slot_ne (Or.inr (hw _ (List.mem_of_getElem? (i := 40) rfl))) (Or.inr (hw _ (List.mem_of_getElem? (i := 85) rfl))) own_nes107 own_fd0 own_fd0))
  have f679 := f657.other W675 (Or.inr (slot_ne (Or.inr (hw _ (List.mem_of_getElem? (i := 47) rfl))) (Or.inr (hw _ (List.mem_of_getElem? (i := 85) rfl))) own_nes108 own_fd0 own_fd0))
  have f680 := f658.other W675 (Or.inr (slot_ne (Or.inr (hw _ (List.mem_of_getElem? (i := 49) rfl))) (Or.inr (hw _ (List.mem_of_getElem? (i := 85) rfl))) own_nes109 own_fd0 own_fd0))
  have f681 := f659.other W675 (Or.inr (slot_ne (Or.inr (hw _ (List.mem_of_getElem? (i := 51) rfl))) (Or.inr (hw _ (List.mem_of_getElem? (i := 85) rfl))) own_nes110 own_fd0 own_fd0))
  have f682 := f660.other W675 (Or.inr (slot_ne (Or.inr (hw _ (List.mem_of_getElem? (i := 75) rfl))) (Or.inr (hw _ (List.mem_of_getElem? (i := 85) rfl))) own_nes111 own_fd0 own_fd0))
  have f683 := f661.other W675 (Or.inr (slot_ne (Or.inr (hw _ (List.mem_of_getElem? (i := 77) rfl))) (Or.inr (hw _ (List.mem_of_getElem? (i := 85) rfl))) own_nes112 own_fd0 own_fd0))
  have f684 := f662.other W675 (Or.inr (slot_ne (Or.inr (hw _ (List.mem_of_getElem? (i := 79) rfl))) (Or.inr (hw _ (List.mem_of_getElem? (i := 85) rfl))) own_nes113 own_fd0 own_fd0))
  have f685 := f663.other W675 (Or.inr (slot_ne (Or.inr (hw _ (List.mem_of_getElem? (i := 81) rfl))) (Or.inr (hw _ (List.mem_of_getElem? (i := 85) rfl))) own_nes114 own_fd0 own_fd0))
  have f686 := f664.other W675 (Or.inr (slot_ne (Or.inr (hw _ (List.mem_of_getElem? (i := 83) rfl))) (Or.inr (hw _ (List.mem_of_getElem? (i := 85) rfl))) own_nes115 own_fd0 own_fd0))
  have f687 := f665.same W675
  have f688 := f666.wr W675
  have f689 := f667.other W675 (Or.inl (Ne.symm ne443))
  have f690 := f668.other W675 (Or.inl (Ne.symm ne443))
  have f691 := f669.other W675 (Or.inl (Ne.symm ne443))
  have f692 := f670.wr W675
  have f693 := f671.other W675 (Or.inl (Ne.symm ne556))
  have f694 := f672.other W675 (Or.inl (Ne.symm ne556))
  have f695 := f673.other W675 (Or.inl (Ne.symm ne556))
  have z675 := Nat.le_trans z653 (Keep.of_wr W675).1
  have K675 := K653.wr W675 (Or.inl (List.mem_of_getElem? (i := 0) rfl))
  exact g_ret X675 hx hby hf hlk hret own_d4_246 rfl (by decide) (by decide) e675 ⟨rfl, N675, K675, f676, f677, f678, f679, f680, f681, f682, f683, f684, f685, f686, f687⟩
theorem own_d12_0 : decode prog_68_method_2_code 0 = .ok (.aload_n 0, 1) := by decide +kernel
theorem own_d12_1 : decode prog_68_method_2_code 1 = .ok (.getfield 31, 3) := by decide +kernel
theorem own_d12_4 : decode prog_68_method_2_code 4 = .ok (.dload_n 1, 1) := by decide +kernel
theorem own_d12_5 : decode prog_68_method_2_code 5 = .ok (.aload_n 0, 1) := by decide +kernel
theorem own_d12_6 : decode prog_68_method_2_code 6 = .ok (.getfield 13, 3) := by decide +kernel
theorem own_d12_9 : decode prog_68_method_2_code 9 = .ok (.dsub, 1) := by decide +kernel
theorem own_d12_10 : decode prog_68_method_2_code 10 = .ok (.aload_n 0, 1) := by decide +kernel
theorem own_d12_11 : decode prog_68_method_2_code 11 = .ok (.getfield 52, 3) := by decide +kernel
theorem own_d12_14 : decode prog_68_method_2_code 14 = .ok (.dmul, 1) := by decide +kernel
theorem own_d12_15 : decode prog_68_method_2_code 15 = .ok (.dadd, 1) := by decide +kernel
theorem own_d12_16 : decode prog_68_method_2_code 16 = .ok (.dload_n 3, 1) := by decide +kernel
theorem own_d12_17 : decode prog_68_method_2_code 17 = .ok (.aload_n 0, 1) := by decide +kernel
theorem own_d12_18 : decode prog_68_method_2_code 18 = .ok (.getfield 22, 3) := by decide +kernel
theorem own_d12_21 : decode prog_68_method_2_code 21 = .ok (.dsub, 1) := by decide +kernel
theorem own_d12_22 : decode prog_68_method_2_code 22 = .ok (.aload_n 0, 1) := by decide +kernel
theorem own_d12_23 : decode prog_68_method_2_code 23 = .ok (.getfield 55, 3) := by decide +kernel
theorem own_d12_26 : decode prog_68_method_2_code 26 = .ok (.dmul, 1) := by decide +kernel
theorem own_d12_27 : decode prog_68_method_2_code 27 = .ok (.dadd, 1) := by decide +kernel
theorem own_d12_28 : decode prog_68_method_2_code 28 = .ok (.dload 5, 2) := by decide +kernel
theorem own_d12_30 : decode prog_68_method_2_code 30 = .ok (.aload_n 0, 1) := by decide +kernel
theorem own_d12_31 : decode prog_68_method_2_code 31 = .ok (.getfield 28, 3) := by decide +kernel
theorem own_d12_34 : decode prog_68_method_2_code 34 = .ok (.dsub, 1) := by decide +kernel
theorem own_d12_35 : decode prog_68_method_2_code 35 = .ok (.aload_n 0, 1) := by decide +kernel
theorem own_d12_36 : decode prog_68_method_2_code 36 = .ok (.getfield 58, 3) := by decide +kernel
theorem own_d12_39 : decode prog_68_method_2_code 39 = .ok (.dmul, 1) := by decide +kernel
theorem own_d12_40 : decode prog_68_method_2_code 40 = .ok (.dadd, 1) := by decide +kernel
theorem own_d12_41 : decode prog_68_method_2_code 41 = .ok (.dreturn, 1) := by decide +kernel
def own_Q12 (Z : State) (a : Addr) (px : UInt64) (py : UInt64) (pz : UInt64) (cu : UInt64) (fx : UInt64) (gx : UInt64) (fy : UInt64) (gy : UInt64) (fz : UInt64) (gz : UInt64) (h0 : Heap) (n0 : Nat) (v : Option Value) (h : Heap) (L : List Loc) : Prop := v = some (.double (FP.dadd (FP.dadd (FP.dadd cu (FP.dmul (FP.dsub px fx) gx)) (FP.dmul (FP.dsub py fy) gy)) (FP.dmul (FP.dsub pz fz) gz))) ∧ Fr n0 L ∧ h = h0
set_option maxRecDepth 65536 in
set_option maxHeartbeats 40000000 in
theorem own_rm12 (l : Launch) (Z : State) (a0 : Array Value) (hw : ∀ d ∈ tables_1, d.before a0 Z = true) (ws : List Jvm.Cond) (a : Addr) (px : UInt64) (py : UInt64) (pz : UInt64) (cu : UInt64) (fx : UInt64) (gx : UInt64) (fy : UInt64) (gy : UInt64) (fz : UInt64) (gz : UInt64) (h0 : Heap) (n0 : Nat) (Z0 : n0 ≤ h0.size) (c0 : Fld Z h0 a "com/example/stochastic_ray_tracer/stochasticraytracer/TextureCoordinates" "cornerU" "D" (.double cu)) (c1 : Fld Z h0 a "com/example/stochastic_ray_tracer/stochasticraytracer/TextureCoordinates" "cornerX" "D" (.double fx)) (c2 : Fld Z h0 a "com/example/stochastic_ray_tracer/stochasticraytracer/TextureCoordinates" "uGradientX" "D" (.double gx)) (c3 : Fld Z h0 a "com/example/stochastic_ray_tracer/stochasticraytracer/TextureCoordinates" "cornerY" "D" (.double fy)) (c4 : Fld Z h0 a "com/example/stochastic_ray_tracer/stochasticraytracer/TextureCoordinates" "uGradientY" "D" (.double gy)) (c5 : Fld Z h0 a "com/example/stochastic_ray_tracer/stochasticraytracer/TextureCoordinates" "cornerZ" "D" (.double fz)) (c6 : Fld Z h0 a "com/example/stochastic_ray_tracer/stochasticraytracer/TextureCoordinates" "uGradientZ" "D" (.double gz)) (nn9 : Jvm.Free.Fl.NoNaN64 (FP.dsub px fx)) (nn14 : Jvm.Free.Fl.NoNaN64 (FP.dmul (FP.dsub px fx) gx)) (nn15 : Jvm.Free.Fl.NoNaN64 (FP.dadd cu (FP.dmul (FP.dsub px fx) gx))) (nn21 : Jvm.Free.Fl.NoNaN64 (FP.dsub py fy)) (nn26 : Jvm.Free.Fl.NoNaN64 (FP.dmul (FP.dsub py fy) gy)) (nn27 : Jvm.Free.Fl.NoNaN64 (FP.dadd (FP.dadd cu (FP.dmul (FP.dsub px fx) gx)) (FP.dmul (FP.dsub py fy) gy))) (nn34 : Jvm.Free.Fl.NoNaN64 (FP.dsub pz fz)) (nn39 : Jvm.Free.Fl.NoNaN64 (FP.dmul (FP.dsub pz fz) gz)) (nn40 : Jvm.Free.Fl.NoNaN64 (FP.dadd (FP.dadd (FP.dadd cu (FP.dmul (FP.dsub px fx) gx)) (FP.dmul (FP.dsub py fy) gy)) (FP.dmul (FP.dsub pz fz) gz))) :
    Con l Z (⟨"com/example/stochastic_ray_tracer/stochasticraytracer/TextureCoordinates", "u", "(DDD)D"⟩ : MethodName) prog_68_method_2_code 7 (some .double) ws ({ frames := 0, cells := 0, slots := 0, locals := 0 } : Room) #[(.ref a), (.double px), (.double py), (.double pz)] h0 (own_Q12 Z a px py pz cu fx gx fy gy fz gz h0 n0) := by
  refine Con.start #[.val (.ref a), .val (.double px), .second, .val (.double py), .second, .val (.double pz), .second] (plainFor_of_name own_pn2) (fun m => by first | (refine own_ef ?_; exact rfl) | (simp [entryFrame, mkF, argsToLocals, Value.category]; done) | rfl) ?_
  intro p e s m below meth c s₁ P X0 hx hby hml hret hlk hown hnm hZ e0 hf
  have hml : c.maxLocals = 7 := hml
  have N0 := Fr.nil n0
  refine g_aloadN (pc' := 1) X0 hx hby (v := (.ref a)) own_d12_0 rfl rfl rfl ?_
  refine g_getF (pc' := 4) X0 hx hby hZ hown (host := "") (Or.inl (hw _ (List.mem_of_getElem? (i := 48) rfl))) Via.refl e0 c0 rfl own_d12_1 rfl ?_
  intro T1 X1 e1
  refine g_dloadN (pc' := 5) X1 hx hby (v := px) own_d12_4 rfl rfl ?_
  refine g_aloadN (pc' := 6) X1 hx hby (v := (.ref a)) own_d12_5 rfl rfl rfl ?_
  refine g_getF (pc' := 9) X1 hx hby hZ hown (host := "") (Or.inl (hw _ (List.mem_of_getElem? (i := 32) rfl))) Via.refl e1 c1 rfl own_d12_6 rfl ?_
  intro T2 X2 e2
  refine g_dsub (pc' := 10) (v := (FP.dsub px fx)) X2 hx hby own_d12_9 rfl (nn9) rfl rfl ?_
  refine g_aloadN (pc' := 11) X2 hx hby (v := (.ref a)) own_d12_10 rfl rfl rfl ?_
  refine g_getF (pc' := 14) X2 hx hby hZ hown (host := "") (Or.inl (hw _ (List.mem_of_getElem? (i := 74) rfl))) Via.refl e2 c2 rfl own_d12_11 rfl ?_
  intro T3 X3 e3
  refine g_dmul (pc' := 15) (v := (FP.dmul (FP.dsub px fx) gx)) X3 hx hby own_d12_14 rfl (nn14) rfl rfl ?_
  refine g_dadd (pc' := 16) (v := (FP.dadd cu (FP.dmul (FP.dsub px fx) gx))) X3 hx hby own_d12_15 rfl (nn15) rfl rfl ?_
  refine g_dloadN (pc' := 17) X3 hx hby (v := py) own_d12_16 rfl rfl ?_
  refine g_aloadN (pc' := 18) X3 hx hby (v := (.ref a)) own_d12_17 rfl rfl rfl ?_
  refine g_getF (pc' := 21) X3 hx hby hZ hown (host := "") (Or.inl (hw _ (List.mem_of_getElem? (i := 39) rfl))) Via.refl e3 c3 rfl own_d12_18 rfl ?_
  intro T4 X4 e4
  refine g_dsub (pc' := 22) (v := (FP.dsub py fy)) X4 hx hby own_d12_21 rfl (nn21) rfl rfl ?_
  refine g_aloadN (pc' := 23) X4 hx hby (v := (.ref a)) own_d12_22 rfl rfl rfl ?_
  refine g_getF (pc' := 26) X4 hx hby hZ hown (host := "") (Or.inl (hw _ (List.mem_of_getElem? (i := 76) rfl))) Via.refl e4 c4 rfl own_d12_23 rfl ?_
  intro T5 X5 e5
  refine g_dmul (pc' := 27) (v := (FP.dmul (FP.dsub py fy) gy)) X5 hx hby own_d12_26 rfl (nn26) rfl rfl ?_
  refine g_dadd (pc' := 28) (v := (FP.dadd (FP.dadd cu (FP.dmul (FP.dsub px fx) gx)) (FP.dmul (FP.dsub py fy) gy))) X5 hx hby own_d12_27 rfl (nn27) rfl rfl ?_
  refine g_dload (pc' := 30) X5 hx hby (v := pz) own_d12_28 rfl rfl ?_
  refine g_aloadN (pc' := 31) X5 hx hby (v := (.ref a)) own_d12_30 rfl rfl rfl ?_
  refine g_getF (pc' := 34) X5 hx hby hZ hown (host := "") (Or.inl (hw _ (List.mem_of_getElem? (i := 46) rfl))) Via.refl e5 c5 rfl own_d12_31 rfl ?_
  intro T6 X6 e6
  refine g_dsub (pc' := 35) (v := (FP.dsub pz fz)) X6 hx hby own_d12_34 rfl (nn34) rfl rfl ?_
  refine g_aloadN (pc' := 36) X6 hx hby (v := (.ref a)) own_d12_35 rfl rfl rfl ?_
  refine g_getF (pc' := 39) X6 hx hby hZ hown (host := "") (Or.inl (hw _ (List.mem_of_getElem? (i := 78) rfl))) Via.refl e6 c6 rfl own_d12_36 rfl ?_
  intro T7 X7 e7
  refine g_dmul (pc' := 40) (v := (FP.dmul (FP.dsub pz fz) gz)) X7 hx hby own_d12_39 rfl (nn39) rfl rfl ?_
  refine g_dadd (pc' := 41) (v := (FP.dadd (FP.dadd (FP.dadd cu (FP.dmul (FP.dsub px fx) gx)) (FP.dmul (FP.dsub py fy) gy)) (FP.dmul (FP.dsub pz fz) gz))) X7 hx hby own_d12_40 rfl (nn40) rfl rfl ?_
  exact g_retV X7 hx hby hf hlk hret own_d12_41 rfl rfl (Or.inr (Or.inr (Or.inl ⟨rfl, rfl, _, rfl⟩))) (by decide) (by decide) e7 ⟨rfl, N0, rfl⟩
def own_Q0 (Z : State) (i0 : Int64) (i1 : Int32) (i2 : Int64) (i3 : Int64) (i4 : Int32) (i5 : Int64) (h0 : Heap) (n0 : Nat) (v : Option Value) (h : Heap) (L : List Loc) : Prop := v = some (.int (1 : Int32)) ∧ Fr n0 L ∧ Keep h0 h []
set_option maxRecDepth 65536 in
set_option maxHeartbeats 40000000 in
theorem own_rm0 (l : Launch) (Z : State) (a0 : Array Value) (hw : ∀ d ∈ tables_1, d.before a0 Z = true) (ws : List Jvm.Cond) (i0 : Int64) (i1 : Int32) (i2 : Int64) (i3 : Int64) (i4 : Int32) (i5 : Int64) (h0 : Heap) (n0 : Nat) (Z0 : n0 ≤ h0.size) :
    Con l Z x code maxLocals ret ws room_1 #[(.long i0), (.int i1), (.long i2), (.long i3), (.int i4), (.long i5)] h0 (own_Q0 Z i0 i1 i2 i3 i4 i5 h0 n0) := by
  refine Con.start #[.val (.long i0), .second, .val (.int i1), .val (.long i2), .second, .val (.long i3), .second, .val (.int i4), .val (.long i5), .second, .unset, .unset, .unset, .unset, .unset, .unset, .unset, .unset, .unset, .unset, .unset, .unset, .unset, .unset, .unset, .unset, .unset, .unset, .unset, .unset, .unset, .unset, .unset, .unset, .unset, .unset, .unset, .unset, .unset, .unset, .unset, .unset, .unset, .unset, .unset, .unset, .unset, .unset, .unset, .unset, .unset, .unset, .unset] (plainFor_of_name own_pn0) (fun m => by first | (refine own_ef ?_; exact rfl) | (simp [entryFrame, mkF, argsToLocals, Value.category, maxLocals]; done) | rfl) ?_
  intro p e s m below meth c s₁ P X0 hx hby hml hret hlk hown hnm hZ e0 hf
  have hml : c.maxLocals = 53 := hml
  have N0 := Fr.nil n0
  have hret : meth.sig.returnType = some .boolean := hret
  have K0 : Keep h0 h0 [] := Keep.refl _ _
  refine g_lloadN (pc' := 1) X0 hx hby (v := i0) at_0 rfl rfl ?_
  obtain ⟨va, h_va⟩ : ∃ z : Int32, i0.toInt32 = z := ⟨_, rfl⟩
  refine g_l2i (pc' := 2) (v := va) X0 hx hby at_1 rfl h_va rfl ?_
  refine g_istore (pc' := 4) (Ls' := #[.val (.long i0), .second, .val (.int i1), .val (.long i2), .second, .val (.long i3), .second, .val (.int i4), .val (.long i5), .second, .val (.int va), .unset, .unset, .unset, .unset, .unset, .unset, .unset, .unset, .unset, .unset, .unset, .unset, .unset, .unset, .unset, .unset, .unset, .unset, .unset, .unset, .unset, .unset, .unset, .unset, .unset, .unset, .unset, .unset, .unset, .unset, .unset, .unset, .unset, .unset, .unset, .unset, .unset, .unset, .unset, .unset, .unset, .unset]) X0 hx hby at_2 rfl rfl rfl ?_
  refine g_lloadN (pc' := 5) X0 hx hby (v := i0) at_4 rfl rfl ?_
  refine g_bipush (pc' := 7) (v := (32 : Int32)) X0 hx hby at_5 rfl rfl ?_
  refine g_lshr (pc' := 8) (v := (i0 >>> ((32 : Int32) &&& 0x3f).toInt64)) X0 hx hby at_7 rfl rfl rfl ?_
  obtain ⟨vb, h_vb⟩ : ∃ z : Int32, (i0 >>> ((32 : Int32) &&& 0x3f).toInt64).toInt32 = z := ⟨_, rfl⟩
  refine g_l2i (pc' := 9) (v := vb) X0 hx hby at_8 rfl h_vb rfl ?_
  refine g_istore (pc' := 11) (Ls' := #[.val (.long i0), .second, .val (.int i1), .val (.long i2), .second, .val (.long i3), .second, .val (.int i4), .val (.long i5), .second, .val (.int va), .val (.int vb), .unset, .unset, .unset, .unset, .unset, .unset, .unset, .unset, .unset, .unset, .unset, .unset, .unset, .unset, .unset, .unset, .unset, .unset, .unset, .unset, .unset, .unset, .unset, .unset, .unset, .unset, .unset, .unset, .unset, .unset, .unset, .unset, .unset, .unset, .unset, .unset, .unset, .unset, .unset, .unset, .unset]) X0 hx hby at_9 rfl rfl rfl ?_
  refine g_lloadN (pc' := 12) X0 hx hby (v := i2) at_11 rfl rfl ?_
  refine g_l2i (pc' := 13) (v := (i2.toInt32)) X0 hx hby at_12 rfl rfl rfl ?_
  refine g_i2s (pc' := 14) (v := ((i2.toInt32).toInt16.toInt32)) X0 hx hby at_13 rfl rfl rfl ?_
  obtain ⟨u1, h_u1⟩ : ∃ z : UInt64, FP.i2d ((i2.toInt32).toInt16.toInt32) = z := ⟨_, rfl⟩
  refine g_i2d (pc' := 15) (v := u1) X0 hx hby at_14 rfl h_u1 rfl ?_
  refine g_dstore (pc' := 17) (Ls' := #[.val (.long i0), .second, .val (.int i1), .val (.long i2), .second, .val (.long i3), .second, .val (.int i4), .val (.long i5), .second, .val (.int va), .val (.int vb), .val (.double u1), .second, .unset, .unset, .unset, .unset, .unset, .unset, .unset, .unset, .unset, .unset, .unset, .unset, .unset, .unset, .unset, .unset, .unset, .unset, .unset, .unset, .unset, .unset, .unset, .unset, .unset, .unset, .unset, .unset, .unset, .unset, .unset, .unset, .unset, .unset, .unset, .unset, .unset, .unset, .unset]) X0 hx hby at_15 rfl rfl rfl ?_
  refine g_lloadN (pc' := 18) X0 hx hby (v := i2) at_17 rfl rfl ?_
  refine g_bipush (pc' := 20) (v := (16 : Int32)) X0 hx hby at_18 rfl rfl ?_
  refine g_lshr (pc' := 21) (v := (i2 >>> ((16 : Int32) &&& 0x3f).toInt64)) X0 hx hby at_20 rfl rfl rfl ?_
  refine g_l2i (pc' := 22) (v := ((i2 >>> ((16 : Int32) &&& 0x3f).toInt64).toInt32)) X0 hx hby at_21 rfl rfl rfl ?_
  refine g_i2s (pc' := 23) (v := (((i2 >>> ((16 : Int32) &&& 0x3f).toInt64).toInt32).toInt16.toInt32)) X0 hx hby at_22 rfl rfl rfl ?_
  obtain ⟨u3, h_u3⟩ : ∃ z : UInt64, FP.i2d (((i2 >>> ((16 : Int32) &&& 0x3f).toInt64).toInt32).toInt16.toInt32) = z := ⟨_, rfl⟩
  refine g_i2d (pc' := 24) (v := u3) X0 hx hby at_23 rfl h_u3 rfl ?_
  refine g_dstore (pc' := 26) (Ls' := #[.val (.long i0), .second, .val (.int i1), .val (.long i2), .second, .val (.long i3), .second, .val (.int i4), .val (.long i5), .second, .val (.int va), .val (.int vb), .val (.double u1), .second, .val (.double u3), .second, .unset, .unset, .unset, .unset, .unset, .unset, .unset, .unset, .unset, .unset, .unset, .unset, .unset, .unset, .unset, .unset, .unset, .unset, .unset, .unset, .unset, .unset, .unset, .unset, .unset, .unset, .unset, .unset, .unset, .unset, .unset, .unset, .unset, .unset, .unset, .unset, .unset]) X0 hx hby at_24 rfl rfl rfl ?_
  refine g_lloadN (pc' := 27) X0 hx hby (v := i2) at_26 rfl rfl ?_
  refine g_bipush (pc' := 29) (v := (32 : Int32)) X0 hx hby at_27 rfl rfl ?_
  refine g_lshr (pc' := 30) (v := (i2 >>> ((32 : Int32) &&& 0x3f).toInt64)) X0 hx hby at_29 rfl rfl rfl ?_
  refine g_l2i (pc' := 31) (v := ((i2 >>> ((32 : Int32) &&& 0x3f).toInt64).toInt32)) X0 hx hby at_30 rfl rfl rfl ?_
  refine g_i2s (pc' := 32) (v := (((i2 >>> ((32 : Int32) &&& 0x3f).toInt64).toInt32).toInt16.toInt32)) X0 hx hby at_31 rfl rfl rfl ?_
  obtain ⟨u5, h_u5⟩ : ∃ z : UInt64, FP.i2d (((i2 >>> ((32 : Int32) &&& 0x3f).toInt64).toInt32).toInt16.toInt32) = z := ⟨_, rfl⟩
  refine g_i2d (pc' := 33) (v := u5) X0 hx hby at_32 rfl h_u5 rfl ?_
  refine g_dstore (pc' := 35) (Ls' := #[.val (.long i0), .second, .val (.int i1), .val (.long i2), .second, .val (.long i3), .second, .val (.int i4), .val (.long i5), .second, .val (.int va), .val (.int vb), .val (.double u1), .second, .val (.double u3), .second, .val (.double u5), .second, .unset, .unset, .unset, .unset, .unset, .unset, .unset, .unset, .unset, .unset, .unset, .unset, .unset, .unset, .unset, .unset, .unset, .unset, .unset, .unset, .unset, .unset, .unset, .unset, .unset, .unset, .unset, .unset, .unset, .unset, .unset, .unset, .unset, .unset, .unset]) X0 hx hby at_33 rfl rfl rfl ?_
  refine g_lload (pc' := 37) X0 hx hby (v := i3) at_35 rfl rfl ?_
  refine g_l2i (pc' := 38) (v := (i3.toInt32)) X0 hx hby at_37 rfl rfl rfl ?_
  obtain ⟨fx, h_fx⟩ : ∃ z : UInt64, FP.i2d (i3.toInt32) = z := ⟨_, rfl⟩
  refine g_i2d (pc' := 39) (v := fx) X0 hx hby at_38 rfl h_fx rfl ?_
  refine g_dstore (pc' := 41) (Ls' := #[.val (.long i0), .second, .val (.int i1), .val (.long i2), .second, .val (.long i3), .second, .val (.int i4), .val (.long i5), .second, .val (.int va), .val (.int vb), .val (.double u1), .second, .val (.double u3), .second, .val (.double u5), .second, .val (.double fx), .second, .unset, .unset, .unset, .unset, .unset, .unset, .unset, .unset, .unset, .unset, .unset, .unset, .unset, .unset, .unset, .unset, .unset, .unset, .unset, .unset, .unset, .unset, .unset, .unset, .unset, .unset, .unset, .unset, .unset, .unset, .unset, .unset, .unset]) X0 hx hby at_39 rfl rfl rfl ?_
  refine g_lload (pc' := 43) X0 hx hby (v := i3) at_41 rfl rfl ?_
  refine g_bipush (pc' := 45) (v := (32 : Int32)) X0 hx hby at_43 rfl rfl ?_
  refine g_lshr (pc' := 46) (v := (i3 >>> ((32 : Int32) &&& 0x3f).toInt64)) X0 hx hby at_45 rfl rfl rfl ?_
  refine g_l2i (pc' := 47) (v := ((i3 >>> ((32 : Int32) &&& 0x3f).toInt64).toInt32)) X0 hx hby at_46 rfl rfl rfl ?_
  obtain ⟨fy, h_fy⟩ : ∃ z : UInt64, FP.i2d ((i3 >>> ((32 : Int32) &&& 0x3f).toInt64).toInt32) = z := ⟨_, rfl⟩
  refine g_i2d (pc' := 48) (v := fy) X0 hx hby at_47 rfl h_fy rfl ?_
  refine g_dstore (pc' := 50) (Ls' := #[.val (.long i0), .second, .val (.int i1), .val (.long i2), .second, .val (.long i3), .second, .val (.int i4), .val (.long i5), .second, .val (.int va), .val (.int vb), .val (.double u1), .second, .val (.double u3), .second, .val (.double u5), .second, .val (.double fx), .second, .val (.double fy), .second, .unset, .unset, .unset, .unset, .unset, .unset, .unset, .unset, .unset, .unset, .unset, .unset, .unset, .unset, .unset, .unset, .unset, .unset, .unset, .unset, .unset, .unset, .unset, .unset, .unset, .unset, .unset, .unset, .unset, .unset, .unset]) X0 hx hby at_48 rfl rfl rfl ?_
  refine g_iload (pc' := 52) X0 hx hby (v := i4) at_50 rfl rfl ?_
  refine g_bipush (pc' := 54) (v := (16 : Int32)) X0 hx hby at_52 rfl rfl ?_
  refine g_ishr (pc' := 55) (v := (i4 >>> ((16 : Int32) &&& 31))) X0 hx hby at_54 rfl rfl rfl ?_
  obtain ⟨fz, h_fz⟩ : ∃ z : UInt64, FP.i2d (i4 >>> ((16 : Int32) &&& 31)) = z := ⟨_, rfl⟩
  refine g_i2d (pc' := 56) (v := fz) X0 hx hby at_55 rfl h_fz rfl ?_
  refine g_dstore (pc' := 58) (Ls' := #[.val (.long i0), .second, .val (.int i1), .val (.long i2), .second, .val (.long i3), .second, .val (.int i4), .val (.long i5), .second, .val (.int va), .val (.int vb), .val (.double u1), .second, .val (.double u3), .second, .val (.double u5), .second, .val (.double fx), .second, .val (.double fy), .second, .val (.double fz), .second, .unset, .unset, .unset, .unset, .unset, .unset, .unset, .unset, .unset, .unset, .unset, .unset, .unset, .unset, .unset, .unset, .unset, .unset, .unset, .unset, .unset, .unset, .unset, .unset, .unset, .unset, .unset, .unset, .unset]) X0 hx hby at_56 rfl rfl rfl ?_
  refine g_iconst (pc' := 59) (v := (1 : Int32)) X0 hx hby at_58 rfl rfl ?_
  refine g_iload (pc' := 61) X0 hx hby (v := i4) at_59 rfl rfl ?_
  refine g_iconst (pc' := 62) (v := (3 : Int32)) X0 hx hby at_61 rfl rfl ?_
  refine g_iand (pc' := 63) (v := (i4 &&& (3 : Int32))) X0 hx hby at_62 rfl rfl rfl ?_
  obtain ⟨pm, h_pm⟩ : ∃ z : Int32, (1 : Int32) <<< ((i4 &&& (3 : Int32)) &&& 31) = z := ⟨_, rfl⟩
  refine g_ishl (pc' := 64) (v := pm) X0 hx hby at_63 rfl h_pm rfl ?_
  refine g_istore (pc' := 66) (Ls' := #[.val (.long i0), .second, .val (.int i1), .val (.long i2), .second, .val (.long i3), .second, .val (.int i4), .val (.long i5), .second, .val (.int va), .val (.int vb), .val (.double u1), .second, .val (.double u3), .second, .val (.double u5), .second, .val (.double fx), .second, .val (.double fy), .second, .val (.double fz), .second, .val (.int pm), .unset, .unset, .unset, .unset, .unset, .unset, .unset, .unset, .unset, .unset, .unset, .unset, .unset, .unset, .unset, .unset, .unset, .unset, .unset, .unset, .unset, .unset, .unset, .unset, .unset, .unset, .unset, .unset]) X0 hx hby at_64 rfl rfl rfl ?_
  refine g_iload (pc' := 68) X0 hx hby (v := i4) at_66 rfl rfl ?_
  refine g_iconst (pc' := 69) (v := (4 : Int32)) X0 hx hby at_68 rfl rfl ?_
  refine g_iand (pc' := 70) (v := (i4 &&& (4 : Int32))) X0 hx hby at_69 rfl rfl rfl ?_
  obtain ⟨pI, h_pI⟩ : ∃ z : Int32, z = (if (i4 &&& (4 : Int32)) = (0 : Int32) then pm else (-pm)) := ⟨_, rfl⟩
  refine own_join P X0 e0 81 #[.val (.long i0), .second, .val (.int i1), .val (.long i2), .second, .val (.long i3), .second, .val (.int i4), .val (.long i5), .second, .val (.int va), .val (.int vb), .val (.double u1), .second, .val (.double u3), .second, .val (.double u5), .second, .val (.double fx), .second, .val (.double fy), .second, .val (.double fz), .second, .val (.int pm), .unset, .unset, .unset, .unset, .unset, .unset, .unset, .unset, .unset, .unset, .unset, .unset, .unset, .unset, .unset, .unset, .unset, .unset, .unset, .unset, .unset, .unset, .unset, .unset, .unset, .unset, .unset, .unset] [(.int pI)] ?_ ?_
  · intro T1 X1 e1
    refine g_istore (pc' := 83) (Ls' := #[.val (.long i0), .second, .val (.int i1), .val (.long i2), .second, .val (.long i3), .second, .val (.int i4), .val (.long i5), .second, .val (.int va), .val (.int vb), .val (.double u1), .second, .val (.double u3), .second, .val (.double u5), .second, .val (.double fx), .second, .val (.double fy), .second, .val (.double fz), .second, .val (.int pm), .val (.int pI), .unset, .unset, .unset, .unset, .unset, .unset, .unset, .unset, .unset, .unset, .unset, .unset, .unset, .unset, .unset, .unset, .unset, .unset, .unset, .unset, .unset, .unset, .unset, .unset, .unset, .unset, .unset]) X1 hx hby at_81 rfl rfl rfl ?_
    refine g_iconst (pc' := 84) (v := (1 : Int32)) X1 hx hby at_83 rfl rfl ?_
    refine g_iload (pc' := 86) X1 hx hby (v := i4) at_84 rfl rfl ?_
    refine g_iconst (pc' := 87) (v := (3 : Int32)) X1 hx hby at_86 rfl rfl ?_
    refine g_ishr (pc' := 88) (v := (i4 >>> ((3 : Int32) &&& 31))) X1 hx hby at_87 rfl rfl rfl ?_
    refine g_iconst (pc' := 89) (v := (3 : Int32)) X1 hx hby at_88 rfl rfl ?_
    refine g_iand (pc' := 90) (v := ((i4 >>> ((3 : Int32) &&& 31)) &&& (3 : Int32))) X1 hx hby at_89 rfl rfl rfl ?_
    obtain ⟨qm, h_qm⟩ : ∃ z : Int32, (1 : Int32) <<< (((i4 >>> ((3 : Int32) &&& 31)) &&& (3 : Int32)) &&& 31) = z := ⟨_, rfl⟩
    refine g_ishl (pc' := 91) (v := qm) X1 hx hby at_90 rfl h_qm rfl ?_
    refine g_istore (pc' := 93) (Ls' := #[.val (.long i0), .second, .val (.int i1), .val (.long i2), .second, .val (.long i3), .second, .val (.int i4), .val (.long i5), .second, .val (.int va), .val (.int vb), .val (.double u1), .second, .val (.double u3), .second, .val (.double u5), .second, .val (.double fx), .second, .val (.double fy), .second, .val (.double fz), .second, .val (.int pm), .val (.int pI), .val (.int qm), .unset, .unset, .unset, .unset, .unset, .unset, .unset, .unset, .unset, .unset, .unset, .unset, .unset, .unset, .unset, .unset, .unset, .unset, .unset, .unset, .unset, .unset, .unset, .unset, .unset, .unset]) X1 hx hby at_91 rfl rfl rfl ?_
    refine g_iload (pc' := 95) X1 hx hby (v := i4) at_93 rfl rfl ?_
    refine g_bipush (pc' := 97) (v := (32 : Int32)) X1 hx hby at_95 rfl rfl ?_
    refine g_iand (pc' := 98) (v := (i4 &&& (32 : Int32))) X1 hx hby at_97 rfl rfl rfl ?_
    obtain ⟨qI, h_qI⟩ : ∃ z : Int32, z = (if (i4 &&& (32 : Int32)) = (0 : Int32) then qm else (-qm)) := ⟨_, rfl⟩
    refine own_join P X1 e1 109 #[.val (.long i0), .second, .val (.int i1), .val (.long i2), .second, .val (.long i3), .second, .val (.int i4), .val (.long i5), .second, .val (.int va), .val (.int vb), .val (.double u1), .second, .val (.double u3), .second, .val (.double u5), .second, .val (.double fx), .second, .val (.double fy), .second, .val (.double fz), .second, .val (.int pm), .val (.int pI), .val (.int qm), .unset, .unset, .unset, .unset, .unset, .unset, .unset, .unset, .unset, .unset, .unset, .unset, .unset, .unset, .unset, .unset, .unset, .unset, .unset, .unset, .unset, .unset, .unset, .unset, .unset, .unset] [(.int qI)] ?_ ?_
    · intro T2 X2 e2
      refine g_istore (pc' := 111) (Ls' := #[.val (.long i0), .second, .val (.int i1), .val (.long i2), .second, .val (.long i3), .second, .val (.int i4), .val (.long i5), .second, .val (.int va), .val (.int vb), .val (.double u1), .second, .val (.double u3), .second, .val (.double u5), .second, .val (.double fx), .second, .val (.double fy), .second, .val (.double fz), .second, .val (.int pm), .val (.int pI), .val (.int qm), .val (.int qI), .unset, .unset, .unset, .unset, .unset, .unset, .unset, .unset, .unset, .unset, .unset, .unset, .unset, .unset, .unset, .unset, .unset, .unset, .unset, .unset, .unset, .unset, .unset, .unset, .unset]) X2 hx hby at_109 rfl rfl rfl ?_
      refine g_iload (pc' := 113) X2 hx hby (v := i4) at_111 rfl rfl ?_
      refine g_bipush (pc' := 115) (v := (6 : Int32)) X2 hx hby at_113 rfl rfl ?_
      refine g_ishr (pc' := 116) (v := (i4 >>> ((6 : Int32) &&& 31))) X2 hx hby at_115 rfl rfl rfl ?_
      refine g_bipush (pc' := 118) (v := (15 : Int32)) X2 hx hby at_116 rfl rfl ?_
      refine g_iand (pc' := 119) (v := ((i4 >>> ((6 : Int32) &&& 31)) &&& (15 : Int32))) X2 hx hby at_118 rfl rfl rfl ?_
      refine g_bipush (pc' := 121) (v := (8 : Int32)) X2 hx hby at_119 rfl rfl ?_
      obtain ⟨rI, h_rI⟩ : ∃ z : Int32, ((i4 >>> ((6 : Int32) &&& 31)) &&& (15 : Int32)) - (8 : Int32) = z := ⟨_, rfl⟩
      refine g_isub (pc' := 122) (v := rI) X2 hx hby at_121 rfl h_rI rfl ?_
      refine g_istore (pc' := 124) (Ls' := #[.val (.long i0), .second, .val (.int i1), .val (.long i2), .second, .val (.long i3), .second, .val (.int i4), .val (.long i5), .second, .val (.int va), .val (.int vb), .val (.double u1), .second, .val (.double u3), .second, .val (.double u5), .second, .val (.double fx), .second, .val (.double fy), .second, .val (.double fz), .second, .val (.int pm), .val (.int pI), .val (.int qm), .val (.int qI), .val (.int rI), .unset, .unset, .unset, .unset, .unset, .unset, .unset, .unset, .unset, .unset, .unset, .unset, .unset, .unset, .unset, .unset, .unset, .unset, .unset, .unset, .unset, .unset, .unset, .unset]) X2 hx hby at_122 rfl rfl rfl ?_
      refine g_iload (pc' := 126) X2 hx hby (v := i4) at_124 rfl rfl ?_
      refine g_bipush (pc' := 128) (v := (10 : Int32)) X2 hx hby at_126 rfl rfl ?_
      refine g_ishr (pc' := 129) (v := (i4 >>> ((10 : Int32) &&& 31))) X2 hx hby at_128 rfl rfl rfl ?_
      refine g_bipush (pc' := 131) (v := (7 : Int32)) X2 hx hby at_129 rfl rfl ?_
      refine g_iand (pc' := 132) (v := ((i4 >>> ((10 : Int32) &&& 31)) &&& (7 : Int32))) X2 hx hby at_131 rfl rfl rfl ?_
      refine g_bipush (pc' := 134) (v := (6 : Int32)) X2 hx hby at_132 rfl rfl ?_
      obtain ⟨kI, h_kI⟩ : ∃ z : Int32, ((i4 >>> ((10 : Int32) &&& 31)) &&& (7 : Int32)) % (6 : Int32) = z := ⟨_, rfl⟩
      refine g_irem (pc' := 135) (v := kI) X2 hx hby at_134 rfl (by decide) h_kI rfl ?_
      refine g_istore (pc' := 137) (Ls' := #[.val (.long i0), .second, .val (.int i1), .val (.long i2), .second, .val (.long i3), .second, .val (.int i4), .val (.long i5), .second, .val (.int va), .val (.int vb), .val (.double u1), .second, .val (.double u3), .second, .val (.double u5), .second, .val (.double fx), .second, .val (.double fy), .second, .val (.double fz), .second, .val (.int pm), .val (.int pI), .val (.int qm), .val (.int qI), .val (.int rI), .val (.int kI), .unset, .unset, .unset, .unset, .unset, .unset, .unset, .unset, .unset, .unset, .unset, .unset, .unset, .unset, .unset, .unset, .unset, .unset, .unset, .unset, .unset, .unset, .unset]) X2 hx hby at_135 rfl rfl rfl ?_
      refine g_iload (pc' := 139) X2 hx hby (v := kI) at_137 rfl rfl ?_
      refine g_iconst (pc' := 140) (v := (3 : Int32)) X2 hx hby at_139 rfl rfl ?_
      obtain ⟨aI, h_aI⟩ : ∃ z : Int32, kI % (3 : Int32) = z := ⟨_, rfl⟩
      refine g_irem (pc' := 141) (v := aI) X2 hx hby at_140 rfl (by decide) h_aI rfl ?_
      refine g_istore (pc' := 143) (Ls' := #[.val (.long i0), .second, .val (.int i1), .val (.long i2), .second, .val (.long i3), .second, .val (.int i4), .val (.long i5), .second, .val (.int va), .val (.int vb), .val (.double u1), .second, .val (.double u3), .second, .val (.double u5), .second, .val (.double fx), .second, .val (.double fy), .second, .val (.double fz), .second, .val (.int pm), .val (.int pI), .val (.int qm), .val (.int qI), .val (.int rI), .val (.int kI), .val (.int aI), .unset, .unset, .unset, .unset, .unset, .unset, .unset, .unset, .unset, .unset, .unset, .unset, .unset, .unset, .unset, .unset, .unset, .unset, .unset, .unset, .unset, .unset]) X2 hx hby at_141 rfl rfl rfl ?_
      refine g_iload (pc' := 145) X2 hx hby (v := aI) at_143 rfl rfl ?_
      refine g_iconst (pc' := 146) (v := (1 : Int32)) X2 hx hby at_145 rfl rfl ?_
      refine g_iadd (pc' := 147) (v := (aI + (1 : Int32))) X2 hx hby at_146 rfl rfl rfl ?_
      refine g_iload (pc' := 149) X2 hx hby (v := kI) at_147 rfl rfl ?_
      refine g_iconst (pc' := 150) (v := (3 : Int32)) X2 hx hby at_149 rfl rfl ?_
      refine g_idiv (pc' := 151) (v := (kI / (3 : Int32))) X2 hx hby at_150 rfl (by decide) rfl rfl ?_
      refine g_iadd (pc' := 152) (v := ((aI + (1 : Int32)) + (kI / (3 : Int32)))) X2 hx hby at_151 rfl rfl rfl ?_
      refine g_iconst (pc' := 153) (v := (3 : Int32)) X2 hx hby at_152 rfl rfl ?_
      obtain ⟨bI, h_bI⟩ : ∃ z : Int32, ((aI + (1 : Int32)) + (kI / (3 : Int32))) % (3 : Int32) = z := ⟨_, rfl⟩
      refine g_irem (pc' := 154) (v := bI) X2 hx hby at_153 rfl (by decide) h_bI rfl ?_
      refine g_istore (pc' := 156) (Ls' := #[.val (.long i0), .second, .val (.int i1), .val (.long i2), .second, .val (.long i3), .second, .val (.int i4), .val (.long i5), .second, .val (.int va), .val (.int vb), .val (.double u1), .second, .val (.double u3), .second, .val (.double u5), .second, .val (.double fx), .second, .val (.double fy), .second, .val (.double fz), .second, .val (.int pm), .val (.int pI), .val (.int qm), .val (.int qI), .val (.int rI), .val (.int kI), .val (.int aI), .val (.int bI), .unset, .unset, .unset, .unset, .unset, .unset, .unset, .unset, .unset, .unset, .unset, .unset, .unset, .unset, .unset, .unset, .unset, .unset, .unset, .unset, .unset]) X2 hx hby at_154 rfl rfl rfl ?_
      refine g_lload (pc' := 158) X2 hx hby (v := i5) at_156 rfl rfl ?_
      refine g_bipush (pc' := 160) (v := (54 : Int32)) X2 hx hby at_158 rfl rfl ?_
      refine g_lshl (pc' := 161) (v := (i5 <<< ((54 : Int32) &&& 0x3f).toInt64)) X2 hx hby at_160 rfl rfl rfl ?_
      refine g_bipush (pc' := 163) (v := (54 : Int32)) X2 hx hby at_161 rfl rfl ?_
      refine g_lshr (pc' := 164) (v := ((i5 <<< ((54 : Int32) &&& 0x3f).toInt64) >>> ((54 : Int32) &&& 0x3f).toInt64)) X2 hx hby at_163 rfl rfl rfl ?_
      obtain ⟨dxI, h_dxI⟩ : ∃ z : Int32, ((i5 <<< ((54 : Int32) &&& 0x3f).toInt64) >>> ((54 : Int32) &&& 0x3f).toInt64).toInt32 = z := ⟨_, rfl⟩
      refine g_l2i (pc' := 165) (v := dxI) X2 hx hby at_164 rfl h_dxI rfl ?_
      refine g_istore (pc' := 167) (Ls' := #[.val (.long i0), .second, .val (.int i1), .val (.long i2), .second, .val (.long i3), .second, .val (.int i4), .val (.long i5), .second, .val (.int va), .val (.int vb), .val (.double u1), .second, .val (.double u3), .second, .val (.double u5), .second, .val (.double fx), .second, .val (.double fy), .second, .val (.double fz), .second, .val (.int pm), .val (.int pI), .val (.int qm), .val (.int qI), .val (.int rI), .val (.int kI), .val (.int aI), .val (.int bI), .val (.int dxI), .unset, .unset, .unset, .unset, .unset, .unset, .unset, .unset, .unset, .unset, .unset, .unset, .unset, .unset, .unset, .unset, .unset, .unset, .unset, .unset]) X2 hx hby at_165 rfl rfl rfl ?_
      refine g_lload (pc' := 169) X2 hx hby (v := i5) at_167 rfl rfl ?_
      refine g_bipush (pc' := 171) (v := (44 : Int32)) X2 hx hby at_169 rfl rfl ?_
      refine g_lshl (pc' := 172) (v := (i5 <<< ((44 : Int32) &&& 0x3f).toInt64)) X2 hx hby at_171 rfl rfl rfl ?_
      refine g_bipush (pc' := 174) (v := (54 : Int32)) X2 hx hby at_172 rfl rfl ?_
      refine g_lshr (pc' := 175) (v := ((i5 <<< ((44 : Int32) &&& 0x3f).toInt64) >>> ((54 : Int32) &&& 0x3f).toInt64)) X2 hx hby at_174 rfl rfl rfl ?_
      obtain ⟨dyI, h_dyI⟩ : ∃ z : Int32, ((i5 <<< ((44 : Int32) &&& 0x3f).toInt64) >>> ((54 : Int32) &&& 0x3f).toInt64).toInt32 = z := ⟨_, rfl⟩
      refine g_l2i (pc' := 176) (v := dyI) X2 hx hby at_175 rfl h_dyI rfl ?_
      refine g_istore (pc' := 178) (Ls' := #[.val (.long i0), .second, .val (.int i1), .val (.long i2), .second, .val (.long i3), .second, .val (.int i4), .val (.long i5), .second, .val (.int va), .val (.int vb), .val (.double u1), .second, .val (.double u3), .second, .val (.double u5), .second, .val (.double fx), .second, .val (.double fy), .second, .val (.double fz), .second, .val (.int pm), .val (.int pI), .val (.int qm), .val (.int qI), .val (.int rI), .val (.int kI), .val (.int aI), .val (.int bI), .val (.int dxI), .val (.int dyI), .unset, .unset, .unset, .unset, .unset, .unset, .unset, .unset, .unset, .unset, .unset, .unset, .unset, .unset, .unset, .unset, .unset, .unset, .unset]) X2 hx hby at_176 rfl rfl rfl ?_
      refine g_lload (pc' := 180) X2 hx hby (v := i5) at_178 rfl rfl ?_
      refine g_bipush (pc' := 182) (v := (34 : Int32)) X2 hx hby at_180 rfl rfl ?_
      refine g_lshl (pc' := 183) (v := (i5 <<< ((34 : Int32) &&& 0x3f).toInt64)) X2 hx hby at_182 rfl rfl rfl ?_
      refine g_bipush (pc' := 185) (v := (54 : Int32)) X2 hx hby at_183 rfl rfl ?_
      refine g_lshr (pc' := 186) (v := ((i5 <<< ((34 : Int32) &&& 0x3f).toInt64) >>> ((54 : Int32) &&& 0x3f).toInt64)) X2 hx hby at_185 rfl rfl rfl ?_
      obtain ⟨dzI, h_dzI⟩ : ∃ z : Int32, ((i5 <<< ((34 : Int32) &&& 0x3f).toInt64) >>> ((54 : Int32) &&& 0x3f).toInt64).toInt32 = z := ⟨_, rfl⟩
      refine g_l2i (pc' := 187) (v := dzI) X2 hx hby at_186 rfl h_dzI rfl ?_
      refine g_istore (pc' := 189) (Ls' := #[.val (.long i0), .second, .val (.int i1), .val (.long i2), .second, .val (.long i3), .second, .val (.int i4), .val (.long i5), .second, .val (.int va), .val (.int vb), .val (.double u1), .second, .val (.double u3), .second, .val (.double u5), .second, .val (.double fx), .second, .val (.double fy), .second, .val (.double fz), .second, .val (.int pm), .val (.int pI), .val (.int qm), .val (.int qI), .val (.int rI), .val (.int kI), .val (.int aI), .val (.int bI), .val (.int dxI), .val (.int dyI), .val (.int dzI), .unset, .unset, .unset, .unset, .unset, .unset, .unset, .unset, .unset, .unset, .unset, .unset, .unset, .unset, .unset, .unset, .unset, .unset]) X2 hx hby at_187 rfl rfl rfl ?_
      have hab := own_abE h_kI h_aI h_bI
      refine g_iload (pc' := 191) X2 hx hby (v := aI) at_189 rfl rfl ?_
      refine g_iload (pc' := 193) X2 hx hby (v := bI) at_191 rfl rfl ?_
      refine g_iload (pc' := 195) X2 hx hby (v := pI) at_193 rfl rfl ?_
      refine g_i2d (pc' := 196) (v := (FP.i2d pI)) X2 hx hby at_195 rfl rfl rfl ?_
      refine g_dconst0 (pc' := 197) (v := (0 : UInt64)) X2 hx hby at_196 rfl rfl ?_
      refine g_dconst0 (pc' := 198) (v := (0 : UInt64)) X2 hx hby at_197 rfl rfl ?_
      refine g_callS (argsL := [(.int aI), (.int bI), (.double (FP.i2d pI)), (.double (0 : UInt64)), (.double (0 : UInt64))]) (pc' := 201) X2 hx hby (by rw [hml]; rfl) hZ hown e2 (own_rm1 l Z a0 hw [] aI bI (FP.i2d pI) (0 : UInt64) (0 : UInt64)  h0 n0 Z0 (hab)) (hw _ (List.mem_of_getElem? (i := 0) rfl)) (hw _ (List.mem_of_getElem? (i := 1) rfl)) (hw _ (List.mem_of_getElem? (i := 2) rfl)) (hw _ (List.mem_of_getElem? (i := 3) rfl)) (by decide) own_pd5 rfl rfl (W := 0) rfl (by decide) (by decide) (by decide) (by decide) at_198 rfl ?_
      intro T3 v3 L3 X3 qq3
      obtain ⟨h3, e3⟩ : ∃ h, T3.heap = h := ⟨_, rfl⟩
      rw [e3] at qq3
      obtain ⟨ra, ka, rfl, n3, k3, p3_0, p3_1⟩ := qq3
      have ge4 : n0 ≤ ra := Nat.le_trans Z0 p3_0
      have kp5 : h0.size ≤ ra := Nat.le_trans K0.1 p3_0
      have z3 := Nat.le_trans Z0 k3.1
      have K3 := K0.trans k3 all0
      have N3 := Fr.app N0 n3
      show Gf p e below P T3 m 201 #[.val (.long i0), .second, .val (.int i1), .val (.long i2), .second, .val (.long i3), .second, .val (.int i4), .val (.long i5), .second, .val (.int va), .val (.int vb), .val (.double u1), .second, .val (.double u3), .second, .val (.double u5), .second, .val (.double fx), .second, .val (.double fy), .second, .val (.double fz), .second, .val (.int pm), .val (.int pI), .val (.int qm), .val (.int qI), .val (.int rI), .val (.int kI), .val (.int aI), .val (.int bI), .val (.int dxI), .val (.int dyI), .val (.int dzI), .unset, .unset, .unset, .unset, .unset, .unset, .unset, .unset, .unset, .unset, .unset, .unset, .unset, .unset, .unset, .unset, .unset, .unset] [(.ref ra)]
      obtain ⟨xa, h_xa⟩ : ∃ z : UInt64, (own_pl aI bI (FP.i2d pI) (0 : UInt64) (0 : UInt64) (0 : Int32)) = z := ⟨_, rfl⟩
      obtain ⟨ya, h_ya⟩ : ∃ z : UInt64, (own_pl aI bI (FP.i2d pI) (0 : UInt64) (0 : UInt64) (1 : Int32)) = z := ⟨_, rfl⟩
      obtain ⟨za, h_za⟩ : ∃ z : UInt64, (own_pl aI bI (FP.i2d pI) (0 : UInt64) (0 : UInt64) (2 : Int32)) = z := ⟨_, rfl⟩
      rw [h_xa, h_ya, h_za] at p3_1
      refine g_astore (pc' := 203) (Ls' := #[.val (.long i0), .second, .val (.int i1), .val (.long i2), .second, .val (.long i3), .second, .val (.int i4), .val (.long i5), .second, .val (.int va), .val (.int vb), .val (.double u1), .second, .val (.double u3), .second, .val (.double u5), .second, .val (.double fx), .second, .val (.double fy), .second, .val (.double fz), .second, .val (.int pm), .val (.int pI), .val (.int qm), .val (.int qI), .val (.int rI), .val (.int kI), .val (.int aI), .val (.int bI), .val (.int dxI), .val (.int dyI), .val (.int dzI), .val (.ref ra), .unset, .unset, .unset, .unset, .unset, .unset, .unset, .unset, .unset, .unset, .unset, .unset, .unset, .unset, .unset, .unset, .unset]) X3 hx hby at_201 rfl rfl rfl rfl ?_
      refine g_iload (pc' := 205) X3 hx hby (v := aI) at_203 rfl rfl ?_
      refine g_iload (pc' := 207) X3 hx hby (v := bI) at_205 rfl rfl ?_
      refine g_iload (pc' := 209) X3 hx hby (v := rI) at_207 rfl rfl ?_
      refine g_i2d (pc' := 210) (v := (FP.i2d rI)) X3 hx hby at_209 rfl rfl rfl ?_
      refine g_iload (pc' := 212) X3 hx hby (v := qI) at_210 rfl rfl ?_
      refine g_i2d (pc' := 213) (v := (FP.i2d qI)) X3 hx hby at_212 rfl rfl rfl ?_
      refine g_dconst0 (pc' := 214) (v := (0 : UInt64)) X3 hx hby at_213 rfl rfl ?_
      refine g_callS (argsL := [(.int aI), (.int bI), (.double (FP.i2d rI)), (.double (FP.i2d qI)), (.double (0 : UInt64))]) (pc' := 217) X3 hx hby (by rw [hml]; rfl) hZ hown e3 (own_rm1 l Z a0 hw [] aI bI (FP.i2d rI) (FP.i2d qI) (0 : UInt64)  h3 n0 z3 (hab)) (hw _ (List.mem_of_getElem? (i := 0) rfl)) (hw _ (List.mem_of_getElem? (i := 1) rfl)) (hw _ (List.mem_of_getElem? (i := 2) rfl)) (hw _ (List.mem_of_getElem? (i := 3) rfl)) (by decide) own_pd5 rfl rfl (W := 0) rfl (by decide) (by decide) (by decide) (by decide) at_214 rfl ?_
      intro T6 v6 L6 X6 qq6
      obtain ⟨h6, e6⟩ : ∃ h, T6.heap = h := ⟨_, rfl⟩
      rw [e6] at qq6
      obtain ⟨rb, kb, rfl, n6, k6, p6_0, p6_1⟩ := qq6
      have f7 := p3_1.keep k6 nin0
      have ge8 : n0 ≤ rb := Nat.le_trans z3 p6_0
      have ne9 : ra ≠ rb := Nat.ne_of_lt (Nat.lt_of_lt_of_le p3_1.lt p6_0)
      have kp10 : h0.size ≤ rb := Nat.le_trans K3.1 p6_0
      have z6 := Nat.le_trans z3 k6.1
      have K6 := K3.trans k6 all0
      have N6 := Fr.app N3 n6
      show Gf p e below P T6 m 217 #[.val (.long i0), .second, .val (.int i1), .val (.long i2), .second, .val (.long i3), .second, .val (.int i4), .val (.long i5), .second, .val (.int va), .val (.int vb), .val (.double u1), .second, .val (.double u3), .second, .val (.double u5), .second, .val (.double fx), .second, .val (.double fy), .second, .val (.double fz), .second, .val (.int pm), .val (.int pI), .val (.int qm), .val (.int qI), .val (.int rI), .val (.int kI), .val (.int aI), .val (.int bI), .val (.int dxI), .val (.int dyI), .val (.int dzI), .val (.ref ra), .unset, .unset, .unset, .unset, .unset, .unset, .unset, .unset, .unset, .unset, .unset, .unset, .unset, .unset, .unset, .unset, .unset] [(.ref rb)]
      obtain ⟨xb, h_xb⟩ : ∃ z : UInt64, (own_pl aI bI (FP.i2d rI) (FP.i2d qI) (0 : UInt64) (0 : Int32)) = z := ⟨_, rfl⟩
      obtain ⟨yb, h_yb⟩ : ∃ z : UInt64, (own_pl aI bI (FP.i2d rI) (FP.i2d qI) (0 : UInt64) (1 : Int32)) = z := ⟨_, rfl⟩
      obtain ⟨zb, h_zb⟩ : ∃ z : UInt64, (own_pl aI bI (FP.i2d rI) (FP.i2d qI) (0 : UInt64) (2 : Int32)) = z := ⟨_, rfl⟩
      rw [h_xb, h_yb, h_zb] at p6_1
      refine g_astore (pc' := 219) (Ls' := #[.val (.long i0), .second, .val (.int i1), .val (.long i2), .second, .val (.long i3), .second, .val (.int i4), .val (.long i5), .second, .val (.int va), .val (.int vb), .val (.double u1), .second, .val (.double u3), .second, .val (.double u5), .second, .val (.double fx), .second, .val (.double fy), .second, .val (.double fz), .second, .val (.int pm), .val (.int pI), .val (.int qm), .val (.int qI), .val (.int rI), .val (.int kI), .val (.int aI), .val (.int bI), .val (.int dxI), .val (.int dyI), .val (.int dzI), .val (.ref ra), .val (.ref rb), .unset, .unset, .unset, .unset, .unset, .unset, .unset, .unset, .unset, .unset, .unset, .unset, .unset, .unset, .unset, .unset]) X6 hx hby at_217 rfl rfl rfl rfl ?_
      refine g_iload (pc' := 221) X6 hx hby (v := aI) at_219 rfl rfl ?_
      refine g_iload (pc' := 223) X6 hx hby (v := bI) at_221 rfl rfl ?_
      refine g_iload (pc' := 225) X6 hx hby (v := dxI) at_223 rfl rfl ?_
      refine g_i2d (pc' := 226) (v := (FP.i2d dxI)) X6 hx hby at_225 rfl rfl rfl ?_
      refine g_iload (pc' := 228) X6 hx hby (v := dyI) at_226 rfl rfl ?_
      refine g_i2d (pc' := 229) (v := (FP.i2d dyI)) X6 hx hby at_228 rfl rfl rfl ?_
      refine g_iload (pc' := 231) X6 hx hby (v := dzI) at_229 rfl rfl ?_
      refine g_i2d (pc' := 232) (v := (FP.i2d dzI)) X6 hx hby at_231 rfl rfl rfl ?_
      refine g_callS (argsL := [(.int aI), (.int bI), (.double (FP.i2d dxI)), (.double (FP.i2d dyI)), (.double (FP.i2d dzI))]) (pc' := 235) X6 hx hby (by rw [hml]; rfl) hZ hown e6 (own_rm1 l Z a0 hw [] aI bI (FP.i2d dxI) (FP.i2d dyI) (FP.i2d dzI)  h6 n0 z6 (hab)) (hw _ (List.mem_of_getElem? (i := 0) rfl)) (hw _ (List.mem_of_getElem? (i := 1) rfl)) (hw _ (List.mem_of_getElem? (i := 2) rfl)) (hw _ (List.mem_of_getElem? (i := 3) rfl)) (by decide) own_pd5 rfl rfl (W := 0) rfl (by decide) (by decide) (by decide) (by decide) at_232 rfl ?_
      intro T11 v11 L11 X11 qq11
      obtain ⟨h11, e11⟩ : ∃ h, T11.heap = h := ⟨_, rfl⟩
      rw [e11] at qq11
      obtain ⟨rc, kc, rfl, n11, k11, p11_0, p11_1⟩ := qq11
      have f12 := f7.keep k11 nin0
      have f13 := p6_1.keep k11 nin0
      have ge14 : n0 ≤ rc := Nat.le_trans z6 p11_0
      have ne15 : ra ≠ rc := Nat.ne_of_lt (Nat.lt_of_lt_of_le f7.lt p11_0)
      have ne16 : rb ≠ rc := Nat.ne_of_lt (Nat.lt_of_lt_of_le p6_1.lt p11_0)
      have kp17 : h0.size ≤ rc := Nat.le_trans K6.1 p11_0
      have z11 := Nat.le_trans z6 k11.1
      have K11 := K6.trans k11 all0
      have N11 := Fr.app N6 n11
      show Gf p e below P T11 m 235 #[.val (.long i0), .second, .val (.int i1), .val (.long i2), .second, .val (.long i3), .second, .val (.int i4), .val (.long i5), .second, .val (.int va), .val (.int vb), .val (.double u1), .second, .val (.double u3), .second, .val (.double u5), .second, .val (.double fx), .second, .val (.double fy), .second, .val (.double fz), .second, .val (.int pm), .val (.int pI), .val (.int qm), .val (.int qI), .val (.int rI), .val (.int kI), .val (.int aI), .val (.int bI), .val (.int dxI), .val (.int dyI), .val (.int dzI), .val (.ref ra), .val (.ref rb), .unset, .unset, .unset, .unset, .unset, .unset, .unset, .unset, .unset, .unset, .unset, .unset, .unset, .unset, .unset, .unset] [(.ref rc)]
      obtain ⟨da_, h_da_⟩ : ∃ z : UInt64, (own_pl aI bI (FP.i2d dxI) (FP.i2d dyI) (FP.i2d dzI) (0 : Int32)) = z := ⟨_, rfl⟩
      obtain ⟨db_, h_db_⟩ : ∃ z : UInt64, (own_pl aI bI (FP.i2d dxI) (FP.i2d dyI) (FP.i2d dzI) (1 : Int32)) = z := ⟨_, rfl⟩
      obtain ⟨dc_, h_dc_⟩ : ∃ z : UInt64, (own_pl aI bI (FP.i2d dxI) (FP.i2d dyI) (FP.i2d dzI) (2 : Int32)) = z := ⟨_, rfl⟩
      rw [h_da_, h_db_, h_dc_] at p11_1
      refine g_astore (pc' := 237) (Ls' := #[.val (.long i0), .second, .val (.int i1), .val (.long i2), .second, .val (.long i3), .second, .val (.int i4), .val (.long i5), .second, .val (.int va), .val (.int vb), .val (.double u1), .second, .val (.double u3), .second, .val (.double u5), .second, .val (.double fx), .second, .val (.double fy), .second, .val (.double fz), .second, .val (.int pm), .val (.int pI), .val (.int qm), .val (.int qI), .val (.int rI), .val (.int kI), .val (.int aI), .val (.int bI), .val (.int dxI), .val (.int dyI), .val (.int dzI), .val (.ref ra), .val (.ref rb), .val (.ref rc), .unset, .unset, .unset, .unset, .unset, .unset, .unset, .unset, .unset, .unset, .unset, .unset, .unset, .unset, .unset]) X11 hx hby at_235 rfl rfl rfl rfl ?_
      refine g_bipush (pc' := 239) (v := (6 : Int32)) X11 hx hby at_237 rfl rfl ?_
      refine g_newA (pc' := 241) X11 hx hby hZ (aty := .double) (cap := 6) (hw _ (List.mem_of_getElem? (i := 4) rfl)) e11 rfl (by decide) (by decide) (by decide) (by decide) (by decide) at_239 rfl 6 ?_
      intro T18 h18 kc18 uv X18 e18 E18 V18 q18
      have ne19 : ra ≠ uv := by rw [q18]; exact Nat.ne_of_lt f12.lt
      have ne20 : rb ≠ uv := by rw [q18]; exact Nat.ne_of_lt f13.lt
      have ne21 : rc ≠ uv := by rw [q18]; exact Nat.ne_of_lt p11_1.lt
      have ge18 : n0 ≤ uv := by rw [q18]; exact z11
      have kp18 : h0.size ≤ uv := by rw [q18]; exact K11.1
      have f22 := f12.ext E18
      have f23 := f13.ext E18
      have f24 := p11_1.ext E18
      have f18 : Arv Z h18 uv kc18 .double (6 : Int32) [(.double (0 : UInt64)), (.double (0 : UInt64)), (.double (0 : UInt64)), (.double (0 : UInt64)), (.double (0 : UInt64)), (.double (0 : UInt64))] (.double (0 : UInt64)) := V18
      have z18 := Nat.le_trans z11 E18.1
      have K18 := K11.ext E18
      refine g_astore (pc' := 243) (Ls' := #[.val (.long i0), .second, .val (.int i1), .val (.long i2), .second, .val (.long i3), .second, .val (.int i4), .val (.long i5), .second, .val (.int va), .val (.int vb), .val (.double u1), .second, .val (.double u3), .second, .val (.double u5), .second, .val (.double fx), .second, .val (.double fy), .second, .val (.double fz), .second, .val (.int pm), .val (.int pI), .val (.int qm), .val (.int qI), .val (.int rI), .val (.int kI), .val (.int aI), .val (.int bI), .val (.int dxI), .val (.int dyI), .val (.int dzI), .val (.ref ra), .val (.ref rb), .val (.ref rc), .val (.ref uv), .unset, .unset, .unset, .unset, .unset, .unset, .unset, .unset, .unset, .unset, .unset, .unset, .unset, .unset]) X18 hx hby at_241 rfl rfl rfl rfl ?_
      refine g_aload (pc' := 245) X18 hx hby (v := (.ref uv)) at_243 rfl rfl rfl ?_
      refine g_iconst (pc' := 246) (v := (0 : Int32)) X18 hx hby at_245 rfl rfl ?_
      refine g_iload (pc' := 248) X18 hx hby (v := va) at_246 rfl rfl ?_
      obtain ⟨u0, h_u0⟩ : ∃ z : UInt64, FP.i2d va = z := ⟨_, rfl⟩
      refine g_i2d (pc' := 249) (v := u0) X18 hx hby at_248 rfl h_u0 rfl ?_
      refine g_stD (pc' := 250) X18 hx hby hZ e18 f18 ⟨by decide, by decide⟩ 0 rfl (Nat.le_of_ble_eq_true rfl) rfl at_249 rfl N11 ge18 ?_
      intro T25 h25 X25 e25 W25 N25 V25
      have f26 := f22.other W25 ne19
      have f27 := f23.other W25 ne20
      have f28 := f24.other W25 ne21
      have z25 := Nat.le_trans z18 (Keep.of_wr W25).1
      have K25 := K18.wr W25 (Or.inr kp18)
      have f25 : Arv Z h25 uv kc18 .double (6 : Int32) [(.double u0), (.double (0 : UInt64)), (.double (0 : UInt64)), (.double (0 : UInt64)), (.double (0 : UInt64)), (.double (0 : UInt64))] (.double (0 : UInt64)) := V25
      refine g_aload (pc' := 252) X25 hx hby (v := (.ref uv)) at_250 rfl rfl rfl ?_
      refine g_iconst (pc' := 253) (v := (1 : Int32)) X25 hx hby at_252 rfl rfl ?_
      refine g_dload (pc' := 255) X25 hx hby (v := u1) at_253 rfl rfl ?_
      refine g_stD (pc' := 256) X25 hx hby hZ e25 f25 ⟨by decide, by decide⟩ 1 rfl (Nat.le_of_ble_eq_true rfl) rfl at_255 rfl N25 ge18 ?_
      intro T29 h29 X29 e29 W29 N29 V29
      have f30 := f26.other W29 ne19
      have f31 := f27.other W29 ne20
      have f32 := f28.other W29 ne21
      have z29 := Nat.le_trans z25 (Keep.of_wr W29).1
      have K29 := K25.wr W29 (Or.inr kp18)
      have f29 : Arv Z h29 uv kc18 .double (6 : Int32) [(.double u0), (.double u1), (.double (0 : UInt64)), (.double (0 : UInt64)), (.double (0 : UInt64)), (.double (0 : UInt64))] (.double (0 : UInt64)) := V29
      refine g_aload (pc' := 258) X29 hx hby (v := (.ref uv)) at_256 rfl rfl rfl ?_
      refine g_iconst (pc' := 259) (v := (2 : Int32)) X29 hx hby at_258 rfl rfl ?_
      refine g_iload (pc' := 261) X29 hx hby (v := vb) at_259 rfl rfl ?_
      obtain ⟨u2, h_u2⟩ : ∃ z : UInt64, FP.i2d vb = z := ⟨_, rfl⟩
      refine g_i2d (pc' := 262) (v := u2) X29 hx hby at_261 rfl h_u2 rfl ?_
      refine g_stD (pc' := 263) X29 hx hby hZ e29 f29 ⟨by decide, by decide⟩ 2 rfl (Nat.le_of_ble_eq_true rfl) rfl at_262 rfl N29 ge18 ?_
      intro T33 h33 X33 e33 W33 N33 V33
      have f34 := f30.other W33 ne19
      have f35 := f31.other W33 ne20
      have f36 := f32.other W33 ne21
      have z33 := Nat.le_trans z29 (Keep.of_wr W33).1
      have K33 := K29.wr W33 (Or.inr kp18)
      have f33 : Arv Z h33 uv kc18 .double (6 : Int32) [(.double u0), (.double u1), (.double u2), (.double (0 : UInt64)), (.double (0 : UInt64)), (.double (0 : UInt64))] (.double (0 : UInt64)) := V33
      refine g_aload (pc' := 265) X33 hx hby (v := (.ref uv)) at_263 rfl rfl rfl ?_
      refine g_iconst (pc' := 266) (v := (3 : Int32)) X33 hx hby at_265 rfl rfl ?_
      refine g_dload (pc' := 268) X33 hx hby (v := u3) at_266 rfl rfl ?_
      refine g_stD (pc' := 269) X33 hx hby hZ e33 f33 ⟨by decide, by decide⟩ 3 rfl (Nat.le_of_ble_eq_true rfl) rfl at_268 rfl N33 ge18 ?_
      intro T37 h37 X37 e37 W37 N37 V37
      have f38 := f34.other W37 ne19
      have f39 := f35.other W37 ne20
      have f40 := f36.other W37 ne21
      have z37 := Nat.le_trans z33 (Keep.of_wr W37).1
      have K37 := K33.wr W37 (Or.inr kp18)
      have f37 : Arv Z h37 uv kc18 .double (6 : Int32) [(.double u0), (.double u1), (.double u2), (.double u3), (.double (0 : UInt64)), (.double (0 : UInt64))] (.double (0 : UInt64)) := V37
      refine g_aload (pc' := 271) X37 hx hby (v := (.ref uv)) at_269 rfl rfl rfl ?_
      refine g_iconst (pc' := 272) (v := (4 : Int32)) X37 hx hby at_271 rfl rfl ?_
      refine g_iloadN (pc' := 273) X37 hx hby (v := i1) at_272 rfl rfl ?_
      obtain ⟨u4, h_u4⟩ : ∃ z : UInt64, FP.i2d i1 = z := ⟨_, rfl⟩
      refine g_i2d (pc' := 274) (v := u4) X37 hx hby at_273 rfl h_u4 rfl ?_
      refine g_stD (pc' := 275) X37 hx hby hZ e37 f37 ⟨by decide, by decide⟩ 4 rfl (Nat.le_of_ble_eq_true rfl) rfl at_274 rfl N37 ge18 ?_
      intro T41 h41 X41 e41 W41 N41 V41
      have f42 := f38.other W41 ne19
      have f43 := f39.other W41 ne20
      have f44 := f40.other W41 ne21
      have z41 := Nat.le_trans z37 (Keep.of_wr W41).1
      have K41 := K37.wr W41 (Or.inr kp18)
      have f41 : Arv Z h41 uv kc18 .double (6 : Int32) [(.double u0), (.double u1), (.double u2), (.double u3), (.double u4), (.double (0 : UInt64))] (.double (0 : UInt64)) := V41
      refine g_aload (pc' := 277) X41 hx hby (v := (.ref uv)) at_275 rfl rfl rfl ?_
      refine g_iconst (pc' := 278) (v := (5 : Int32)) X41 hx hby at_277 rfl rfl ?_
      refine g_dload (pc' := 280) X41 hx hby (v := u5) at_278 rfl rfl ?_
      refine g_stD (pc' := 281) X41 hx hby hZ e41 f41 ⟨by decide, by decide⟩ 5 rfl (Nat.le_of_ble_eq_true rfl) rfl at_280 rfl N41 ge18 ?_
      intro T45 h45 X45 e45 W45 N45 V45
      have f46 := f42.other W45 ne19
      have f47 := f43.other W45 ne20
      have f48 := f44.other W45 ne21
      have z45 := Nat.le_trans z41 (Keep.of_wr W45).1
      have K45 := K41.wr W45 (Or.inr kp18)
      have f45 : Arv Z h45 uv kc18 .double (6 : Int32) [(.double u0), (.double u1), (.double u2), (.double u3), (.double u4), (.double u5)] (.double (0 : UInt64)) := V45
      refine g_new (pc' := 284) X45 hx hby hZ hown (hw _ (List.mem_of_getElem? (i := 5) rfl)) (hw _ (List.mem_of_getElem? (i := 6) rfl)) (hw _ (List.mem_of_getElem? (i := 7) rfl)) e45 at_281 rfl (by decide) (by decide) ?_
      intro T49 h49 fi X49 e49 E49 A49 D49 q49
      have ne50 : ra ≠ fi := by rw [q49]; exact Nat.ne_of_lt f46.lt
      have ne51 : rb ≠ fi := by rw [q49]; exact Nat.ne_of_lt f47.lt
      have ne52 : rc ≠ fi := by rw [q49]; exact Nat.ne_of_lt f48.lt
      have ne53 : uv ≠ fi := by rw [q49]; exact Nat.ne_of_lt f45.lt
      have ge49 : n0 ≤ fi := by rw [q49]; exact z45
      have kp49 : h0.size ≤ fi := by rw [q49]; exact K45.1
      have f54 := f46.ext E49
      have f55 := f47.ext E49
      have f56 := f48.ext E49
      have f57 := f45.ext E49
      have f58 : Fld Z h49 fi "com/example/stochastic_ray_tracer/stochasticraytracer/Vec3" "x" "D" (.double (0 : UInt64)) := D49 (Or.inr (hw _ (List.mem_of_getElem? (i := 15) rfl))) (ty := .double) own_fd0
      have f59 : Fld Z h49 fi "com/example/stochastic_ray_tracer/stochasticraytracer/Vec3" "y" "D" (.double (0 : UInt64)) := D49 (Or.inr (hw _ (List.mem_of_getElem? (i := 17) rfl))) (ty := .double) own_fd0
      have f60 : Fld Z h49 fi "com/example/stochastic_ray_tracer/stochasticraytracer/Vec3" "z" "D" (.double (0 : UInt64)) := D49 (Or.inr (hw _ (List.mem_of_getElem? (i := 19) rfl))) (ty := .double) own_fd0
      have z49 := Nat.le_trans z45 E49.1
      have K49 := K45.ext E49
      refine g_dup (pc' := 285) X49 hx hby at_284 rfl rfl rfl ?_
      refine g_dload (pc' := 287) X49 hx hby (v := fx) at_285 rfl rfl ?_
      refine g_dload (pc' := 289) X49 hx hby (v := fy) at_287 rfl rfl ?_
      refine g_dload (pc' := 291) X49 hx hby (v := fz) at_289 rfl rfl ?_
      refine g_init (argsL := [(.double fx), (.double fy), (.double fz)]) (pc' := 294) X49 hx hby (by rw [hml]; rfl) hZ hown rfl e49 (own_rm2 l Z a0 hw [] fi fx fy fz  h49 n0 z49 A49 f58 f59 f60 ge49) (hw _ (List.mem_of_getElem? (i := 8) rfl)) (hw _ (List.mem_of_getElem? (i := 9) rfl)) (hw _ (List.mem_of_getElem? (i := 7) rfl)) (hw _ (List.mem_of_getElem? (i := 10) rfl)) (by decide) own_pd0 rfl rfl (W := 1) rfl (by decide) (by decide) (by decide) (by decide) at_291 rfl ?_
      intro T61 v61 L61 X61 qq61
      obtain ⟨h61, e61⟩ : ∃ h, T61.heap = h := ⟨_, rfl⟩
      rw [e61] at qq61
      obtain ⟨rfl, n61, k61, p61_0, p61_1, p61_2, p61_3⟩ := qq61
      have f62 := f54.keep k61 (ninS ne50 nin0)
      have f63 := f55.keep k61 (ninS ne51 nin0)
      have f64 := f56.keep k61 (ninS ne52 nin0)
      have f65 := f57.keep k61 (ninS ne53 nin0)
      have f66 := A49.keep k61
      have z61 := Nat.le_trans z49 k61.1
      have K61 := K49.trans k61 (allS (Or.inr kp49) all0)
      have N61 := Fr.app N45 n61
      show Gf p e below P T61 m 294 #[.val (.long i0), .second, .val (.int i1), .val (.long i2), .second, .val (.long i3), .second, .val (.int i4), .val (.long i5), .second, .val (.int va), .val (.int vb), .val (.double u1), .second, .val (.double u3), .second, .val (.double u5), .second, .val (.double fx), .second, .val (.double fy), .second, .val (.double fz), .second, .val (.int pm), .val (.int pI), .val (.int qm), .val (.int qI), .val (.int rI), .val (.int kI), .val (.int aI), .val (.int bI), .val (.int dxI), .val (.int dyI), .val (.int dzI), .val (.ref ra), .val (.ref rb), .val (.ref rc), .val (.ref uv), .unset, .unset, .unset, .unset, .unset, .unset, .unset, .unset, .unset, .unset, .unset, .unset, .unset, .unset] [(.ref fi)]
      refine g_astore (pc' := 296) (Ls' := #[.val (.long i0), .second, .val (.int i1), .val (.long i2), .second, .val (.long i3), .second, .val (.int i4), .val (.long i5), .second, .val (.int va), .val (.int vb), .val (.double u1), .second, .val (.double u3), .second, .val (.double u5), .second, .val (.double fx), .second, .val (.double fy), .second, .val (.double fz), .second, .val (.int pm), .val (.int pI), .val (.int qm), .val (.int qI), .val (.int rI), .val (.int kI), .val (.int aI), .val (.int bI), .val (.int dxI), .val (.int dyI), .val (.int dzI), .val (.ref ra), .val (.ref rb), .val (.ref rc), .val (.ref uv), .val (.ref fi), .unset, .unset, .unset, .unset, .unset, .unset, .unset, .unset, .unset, .unset, .unset, .unset, .unset]) X61 hx hby at_294 rfl rfl rfl rfl ?_
      refine g_new (pc' := 299) X61 hx hby hZ hown (hw _ (List.mem_of_getElem? (i := 5) rfl)) (hw _ (List.mem_of_getElem? (i := 6) rfl)) (hw _ (List.mem_of_getElem? (i := 7) rfl)) e61 at_296 rfl (by decide) (by decide) ?_
      intro T70 h70 ed1 X70 e70 E70 A70 D70 q70
      have ne71 : fi ≠ ed1 := by rw [q70]; exact Nat.ne_of_lt p61_0.lt
      have ne72 : ra ≠ ed1 := by rw [q70]; exact Nat.ne_of_lt f62.lt
      have ne73 : rb ≠ ed1 := by rw [q70]; exact Nat.ne_of_lt f63.lt
      have ne74 : rc ≠ ed1 := by rw [q70]; exact Nat.ne_of_lt f64.lt
      have ne75 : uv ≠ ed1 := by rw [q70]; exact Nat.ne_of_lt f65.lt
      have ge70 : n0 ≤ ed1 := by rw [q70]; exact z61
      have kp70 : h0.size ≤ ed1 := by rw [q70]; exact K61.1
      have f76 := f62.ext E70
      have f77 := f63.ext E70
      have f78 := f64.ext E70
      have f79 := f65.ext E70
      have f80 := p61_0.ext E70
      have f81 := p61_1.ext E70
      have f82 := p61_2.ext E70
      have f83 := p61_3.ext E70
      have f84 : Fld Z h70 ed1 "com/example/stochastic_ray_tracer/stochasticraytracer/Vec3" "x" "D" (.double (0 : UInt64)) := D70 (Or.inr (hw _ (List.mem_of_getElem? (i := 15) rfl))) (ty := .double) own_fd0
      have f85 : Fld Z h70 ed1 "com/example/stochastic_ray_tracer/stochasticraytracer/Vec3" "y" "D" (.double (0 : UInt64)) := D70 (Or.inr (hw _ (List.mem_of_getElem? (i := 17) rfl))) (ty := .double) own_fd0
      have f86 : Fld Z h70 ed1 "com/example/stochastic_ray_tracer/stochasticraytracer/Vec3" "z" "D" (.double (0 : UInt64)) := D70 (Or.inr (hw _ (List.mem_of_getElem? (i := 19) rfl))) (ty := .double) own_fd0
      have z70 := Nat.le_trans z61 E70.1
      have K70 := K61.ext E70
      refine g_dup (pc' := 300) X70 hx hby at_299 rfl rfl rfl ?_
      refine g_aload (pc' := 302) X70 hx hby (v := (.ref ra)) at_300 rfl rfl rfl ?_
      refine g_iconst (pc' := 303) (v := (0 : Int32)) X70 hx hby at_302 rfl rfl ?_
      refine g_ldD (pc' := 304) X70 hx hby hZ (v := xa) e70 f76 ⟨by decide, by decide⟩ rfl rfl at_303 rfl ?_
      refine g_aload (pc' := 306) X70 hx hby (v := (.ref ra)) at_304 rfl rfl rfl ?_
      refine g_iconst (pc' := 307) (v := (1 : Int32)) X70 hx hby at_306 rfl rfl ?_
      refine g_ldD (pc' := 308) X70 hx hby hZ (v := ya) e70 f76 ⟨by decide, by decide⟩ rfl rfl at_307 rfl ?_
      refine g_aload (pc' := 310) X70 hx hby (v := (.ref ra)) at_308 rfl rfl rfl ?_
      refine g_iconst (pc' := 311) (v := (2 : Int32)) X70 hx hby at_310 rfl rfl ?_
      refine g_ldD (pc' := 312) X70 hx hby hZ (v := za) e70 f76 ⟨by decide, by decide⟩ rfl rfl at_311 rfl ?_
      refine g_init (argsL := [(.double xa), (.double ya), (.double za)]) (pc' := 315) X70 hx hby (by rw [hml]; rfl) hZ hown rfl e70 (own_rm2 l Z a0 hw [] ed1 xa ya za  h70 n0 z70 A70 f84 f85 f86 ge70) (hw _ (List.mem_of_getElem? (i := 8) rfl)) (hw _ (List.mem_of_getElem? (i := 9) rfl)) (hw _ (List.mem_of_getElem? (i := 7) rfl)) (hw _ (List.mem_of_getElem? (i := 10) rfl)) (by decide) own_pd0 rfl rfl (W := 1) rfl (by decide) (by decide) (by decide) (by decide) at_312 rfl ?_
      intro T87 v87 L87 X87 qq87
      obtain ⟨h87, e87⟩ : ∃ h, T87.heap = h := ⟨_, rfl⟩
      rw [e87] at qq87
      obtain ⟨rfl, n87, k87, p87_0, p87_1, p87_2, p87_3⟩ := qq87
      have f88 := f76.keep k87 (ninS ne72 nin0)
      have f89 := f77.keep k87 (ninS ne73 nin0)
      have f90 := f78.keep k87 (ninS ne74 nin0)
      have f91 := f79.keep k87 (ninS ne75 nin0)
      have f92 := f80.keep k87
      have f93 := f81.keep k87 (ninS ne71 nin0)
      have f94 := f82.keep k87 (ninS ne71 nin0)
      have f95 := f83.keep k87 (ninS ne71 nin0)
      have f96 := A70.keep k87
      have z87 := Nat.le_trans z70 k87.1
      have K87 := K70.trans k87 (allS (Or.inr kp70) all0)
      have N87 := Fr.app N61 n87
      show Gf p e below P T87 m 315 #[.val (.long i0), .second, .val (.int i1), .val (.long i2), .second, .val (.long i3), .second, .val (.int i4), .val (.long i5), .second, .val (.int va), .val (.int vb), .val (.double u1), .second, .val (.double u3), .second, .val (.double u5), .second, .val (.double fx), .second, .val (.double fy), .second, .val (.double fz), .second, .val (.int pm), .val (.int pI), .val (.int qm), .val (.int qI), .val (.int rI), .val (.int kI), .val (.int aI), .val (.int bI), .val (.int dxI), .val (.int dyI), .val (.int dzI), .val (.ref ra), .val (.ref rb), .val (.ref rc), .val (.ref uv), .val (.ref fi), .unset, .unset, .unset, .unset, .unset, .unset, .unset, .unset, .unset, .unset, .unset, .unset, .unset] [(.ref ed1)]
      refine g_astore (pc' := 317) (Ls' := #[.val (.long i0), .second, .val (.int i1), .val (.long i2), .second, .val (.long i3), .second, .val (.int i4), .val (.long i5), .second, .val (.int va), .val (.int vb), .val (.double u1), .second, .val (.double u3), .second, .val (.double u5), .second, .val (.double fx), .second, .val (.double fy), .second, .val (.double fz), .second, .val (.int pm), .val (.int pI), .val (.int qm), .val (.int qI), .val (.int rI), .val (.int kI), .val (.int aI), .val (.int bI), .val (.int dxI), .val (.int dyI), .val (.int dzI), .val (.ref ra), .val (.ref rb), .val (.ref rc), .val (.ref uv), .val (.ref fi), .val (.ref ed1), .unset, .unset, .unset, .unset, .unset, .unset, .unset, .unset, .unset, .unset, .unset, .unset]) X87 hx hby at_315 rfl rfl rfl rfl ?_
      refine g_new (pc' := 320) X87 hx hby hZ hown (hw _ (List.mem_of_getElem? (i := 5) rfl)) (hw _ (List.mem_of_getElem? (i := 6) rfl)) (hw _ (List.mem_of_getElem? (i := 7) rfl)) e87 at_317 rfl (by decide) (by decide) ?_
      intro T100 h100 ed2 X100 e100 E100 A100 D100 q100
      have ne101 : ed1 ≠ ed2 := by rw [q100]; exact Nat.ne_of_lt p87_0.lt
      have ne102 : fi ≠ ed2 := by rw [q100]; exact Nat.ne_of_lt f92.lt
      have ne103 : ra ≠ ed2 := by rw [q100]; exact Nat.ne_of_lt f88.lt
      have ne104 : rb ≠ ed2 := by rw [q100]; exact Nat.ne_of_lt f89.lt
      have ne105 : rc ≠ ed2 := by rw [q100]; exact Nat.ne_of_lt f90.lt
      have ne106 : uv ≠ ed2 := by rw [q100]; exact Nat.ne_of_lt f91.lt
      have ge100 : n0 ≤ ed2 := by rw [q100]; exact z87
      have kp100 : h0.size ≤ ed2 := by rw [q100]; exact K87.1
      have f107 := f88.ext E100
      have f108 := f89.ext E100
      have f109 := f90.ext E100
      have f110 := f91.ext E100
      have f111 := f92.ext E100
      have f112 := f93.ext E100
      have f113 := f94.ext E100
      have f114 := f95.ext E100
      have f115 := p87_0.ext E100
      have f116 := p87_1.ext E100
      have f117 := p87_2.ext E100
      have f118 := p87_3.ext E100
      have f119 : Fld Z h100 ed2 "com/example/stochastic_ray_tracer/stochasticraytracer/Vec3" "x" "D" (.double (0 : UInt64)) := D100 (Or.inr (hw _ (List.mem_of_getElem? (i := 15) rfl))) (ty := .double) own_fd0
      have f120 : Fld Z h100 ed2 "com/example/stochastic_ray_tracer/stochasticraytracer/Vec3" "y" "D" (.double (0 : UInt64)) := D100 (Or.inr (hw _ (List.mem_of_getElem? (i := 17) rfl))) (ty := .double) own_fd0
      have f121 : Fld Z h100 ed2 "com/example/stochastic_ray_tracer/stochasticraytracer/Vec3" "z" "D" (.double (0 : UInt64)) := D100 (Or.inr (hw _ (List.mem_of_getElem? (i := 19) rfl))) (ty := .double) own_fd0
      have z100 := Nat.le_trans z87 E100.1
      have K100 := K87.ext E100
      refine g_dup (pc' := 321) X100 hx hby at_320 rfl rfl rfl ?_
      refine g_aload (pc' := 323) X100 hx hby (v := (.ref rb)) at_321 rfl rfl rfl ?_
      refine g_iconst (pc' := 324) (v := (0 : Int32)) X100 hx hby at_323 rfl rfl ?_
      refine g_ldD (pc' := 325) X100 hx hby hZ (v := xb) e100 f108 ⟨by decide, by decide⟩ rfl rfl at_324 rfl ?_
      refine g_aload (pc' := 327) X100 hx hby (v := (.ref rb)) at_325 rfl rfl rfl ?_
      refine g_iconst (pc' := 328) (v := (1 : Int32)) X100 hx hby at_327 rfl rfl ?_
      refine g_ldD (pc' := 329) X100 hx hby hZ (v := yb) e100 f108 ⟨by decide, by decide⟩ rfl rfl at_328 rfl ?_
      refine g_aload (pc' := 331) X100 hx hby (v := (.ref rb)) at_329 rfl rfl rfl ?_
      refine g_iconst (pc' := 332) (v := (2 : Int32)) X100 hx hby at_331 rfl rfl ?_
      refine g_ldD (pc' := 333) X100 hx hby hZ (v := zb) e100 f108 ⟨by decide, by decide⟩ rfl rfl at_332 rfl ?_
      refine g_init (argsL := [(.double xb), (.double yb), (.double zb)]) (pc' := 336) X100 hx hby (by rw [hml]; rfl) hZ hown rfl e100 (own_rm2 l Z a0 hw [] ed2 xb yb zb  h100 n0 z100 A100 f119 f120 f121 ge100) (hw _ (List.mem_of_getElem? (i := 8) rfl)) (hw _ (List.mem_of_getElem? (i := 9) rfl)) (hw _ (List.mem_of_getElem? (i := 7) rfl)) (hw _ (List.mem_of_getElem? (i := 10) rfl)) (by decide) own_pd0 rfl rfl (W := 1) rfl (by decide) (by decide) (by decide) (by decide) at_333 rfl ?_
      intro T122 v122 L122 X122 qq122
      obtain ⟨h122, e122⟩ : ∃ h, T122.heap = h := ⟨_, rfl⟩
      rw [e122] at qq122
      obtain ⟨rfl, n122, k122, p122_0, p122_1, p122_2, p122_3⟩ := qq122
      have f123 := f107.keep k122 (ninS ne103 nin0)
      have f124 := f108.keep k122 (ninS ne104 nin0)
      have f125 := f109.keep k122 (ninS ne105 nin0)
      have f126 := f110.keep k122 (ninS ne106 nin0)
      have f127 := f111.keep k122
      have f128 := f112.keep k122 (ninS ne102 nin0)
      have f129 := f113.keep k122 (ninS ne102 nin0)
      have f130 := f114.keep k122 (ninS ne102 nin0)
      have f131 := f115.keep k122
      have f132 := f116.keep k122 (ninS ne101 nin0)
      have f133 := f117.keep k122 (ninS ne101 nin0)
      have f134 := f118.keep k122 (ninS ne101 nin0)
      have f135 := A100.keep k122
      have z122 := Nat.le_trans z100 k122.1
      have K122 := K100.trans k122 (allS (Or.inr kp100) all0)
      have N122 := Fr.app N87 n122
      show Gf p e below P T122 m 336 #[.val (.long i0), .second, .val (.int i1), .val (.long i2), .second, .val (.long i3), .second, .val (.int i4), .val (.long i5), .second, .val (.int va), .val (.int vb), .val (.double u1), .second, .val (.double u3), .second, .val (.double u5), .second, .val (.double fx), .second, .val (.double fy), .second, .val (.double fz), .second, .val (.int pm), .val (.int pI), .val (.int qm), .val (.int qI), .val (.int rI), .val (.int kI), .val (.int aI), .val (.int bI), .val (.int dxI), .val (.int dyI), .val (.int dzI), .val (.ref ra), .val (.ref rb), .val (.ref rc), .val (.ref uv), .val (.ref fi), .val (.ref ed1), .unset, .unset, .unset, .unset, .unset, .unset, .unset, .unset, .unset, .unset, .unset, .unset] [(.ref ed2)]
      refine g_astore (pc' := 338) (Ls' := #[.val (.long i0), .second, .val (.int i1), .val (.long i2), .second, .val (.long i3), .second, .val (.int i4), .val (.long i5), .second, .val (.int va), .val (.int vb), .val (.double u1), .second, .val (.double u3), .second, .val (.double u5), .second, .val (.double fx), .second, .val (.double fy), .second, .val (.double fz), .second, .val (.int pm), .val (.int pI), .val (.int qm), .val (.int qI), .val (.int rI), .val (.int kI), .val (.int aI), .val (.int bI), .val (.int dxI), .val (.int dyI), .val (.int dzI), .val (.ref ra), .val (.ref rb), .val (.ref rc), .val (.ref uv), .val (.ref fi), .val (.ref ed1), .val (.ref ed2), .unset, .unset, .unset, .unset, .unset, .unset, .unset, .unset, .unset, .unset, .unset]) X122 hx hby at_336 rfl rfl rfl rfl ?_
      obtain ⟨n, hpl⟩ := own_place hab
      obtain ⟨av, E_av⟩ : ∃ z : UInt64, (FP.dadd (FP.dadd (FP.dmul xa xa) (FP.dmul ya ya)) (FP.dmul za za)) = z := ⟨_, rfl⟩
      obtain ⟨bv, E_bv⟩ : ∃ z : UInt64, (FP.dadd (FP.dadd (FP.dmul xa xb) (FP.dmul ya yb)) (FP.dmul za zb)) = z := ⟨_, rfl⟩
      obtain ⟨cv, E_cv⟩ : ∃ z : UInt64, (FP.dadd (FP.dadd (FP.dmul xb xb) (FP.dmul yb yb)) (FP.dmul zb zb)) = z := ⟨_, rfl⟩
      obtain ⟨iv, E_iv⟩ : ∃ z : UInt64, (FP.ddiv (4607182418800017408 : UInt64) (FP.dsub (FP.dmul av cv) (FP.dmul bv bv))) = z := ⟨_, rfl⟩
      obtain ⟨ck, E_ck⟩ : ∃ z : UInt64, (FP.dmul cv iv) = z := ⟨_, rfl⟩
      obtain ⟨bk, E_bk⟩ : ∃ z : UInt64, (FP.dmul bv iv) = z := ⟨_, rfl⟩
      obtain ⟨ak, E_ak⟩ : ∃ z : UInt64, (FP.dmul av iv) = z := ⟨_, rfl⟩
      obtain ⟨sx, E_sx⟩ : ∃ z : UInt64, (FP.dsub (FP.dmul xa ck) (FP.dmul xb bk)) = z := ⟨_, rfl⟩
      obtain ⟨sy, E_sy⟩ : ∃ z : UInt64, (FP.dsub (FP.dmul ya ck) (FP.dmul yb bk)) = z := ⟨_, rfl⟩
      obtain ⟨sz, E_sz⟩ : ∃ z : UInt64, (FP.dsub (FP.dmul za ck) (FP.dmul zb bk)) = z := ⟨_, rfl⟩
      obtain ⟨tx, E_tx⟩ : ∃ z : UInt64, (FP.dsub (FP.dmul xb ak) (FP.dmul xa bk)) = z := ⟨_, rfl⟩
      obtain ⟨ty, E_ty⟩ : ∃ z : UInt64, (FP.dsub (FP.dmul yb ak) (FP.dmul ya bk)) = z := ⟨_, rfl⟩
      obtain ⟨tz, E_tz⟩ : ∃ z : UInt64, (FP.dsub (FP.dmul zb ak) (FP.dmul za bk)) = z := ⟨_, rfl⟩
      obtain ⟨du2, E_du2⟩ : ∃ z : UInt64, (FP.dsub u2 u0) = z := ⟨_, rfl⟩
      obtain ⟨du3, E_du3⟩ : ∃ z : UInt64, (FP.dsub u4 u0) = z := ⟨_, rfl⟩
      obtain ⟨dv2, E_dv2⟩ : ∃ z : UInt64, (FP.dsub u3 u1) = z := ⟨_, rfl⟩
      obtain ⟨dv3, E_dv3⟩ : ∃ z : UInt64, (FP.dsub u5 u1) = z := ⟨_, rfl⟩
      obtain ⟨gx, E_gx⟩ : ∃ z : UInt64, (FP.dadd (FP.dmul sx du2) (FP.dmul tx du3)) = z := ⟨_, rfl⟩
      obtain ⟨gy, E_gy⟩ : ∃ z : UInt64, (FP.dadd (FP.dmul sy du2) (FP.dmul ty du3)) = z := ⟨_, rfl⟩
      obtain ⟨gz, E_gz⟩ : ∃ z : UInt64, (FP.dadd (FP.dmul sz du2) (FP.dmul tz du3)) = z := ⟨_, rfl⟩
      obtain ⟨wx, E_wx⟩ : ∃ z : UInt64, (FP.dadd (FP.dmul sx dv2) (FP.dmul tx dv3)) = z := ⟨_, rfl⟩
      obtain ⟨wy, E_wy⟩ : ∃ z : UInt64, (FP.dadd (FP.dmul sy dv2) (FP.dmul ty dv3)) = z := ⟨_, rfl⟩
      obtain ⟨wz, E_wz⟩ : ∃ z : UInt64, (FP.dadd (FP.dmul sz dv2) (FP.dmul tz dv3)) = z := ⟨_, rfl⟩
      have hP := own_pw h_pm h_pI
      have hQ := own_pw h_qm h_qI
      obtain ⟨M, hM, hp8, hq8, hM1, hqM, hpM, hpq⟩ := own_M hP hQ
      have hr8 := own_r h_rI
      have hrM := nb_mul hr8 hM1
      have r_xa : Rb xa (axX n pI.toInt 0 0) 0 8 := by rw [← h_xa, (hpl _ _ _).1]; exact axX_rb n (rb_of (rv_i2d pI) hp8) rb_zero rb_zero
      have r_ya : Rb ya (axY n pI.toInt 0 0) 0 8 := by rw [← h_ya, (hpl _ _ _).2.1]; exact axY_rb n (rb_of (rv_i2d pI) hp8) rb_zero rb_zero
      have r_za : Rb za (axZ n pI.toInt 0 0) 0 8 := by rw [← h_za, (hpl _ _ _).2.2]; exact axZ_rb n (rb_of (rv_i2d pI) hp8) rb_zero rb_zero
      have r_xb : Rb xb (axX n rI.toInt qI.toInt 0) 0 32 := by rw [← h_xb, (hpl _ _ _).1]; exact axX_rb n (rb_of (rv_i2d rI) (nb_le hr8 (by decide))) (rb_of (rv_i2d qI) (nb_le hq8 (by decide))) rb_zero
      have r_yb : Rb yb (axY n rI.toInt qI.toInt 0) 0 32 := by rw [← h_yb, (hpl _ _ _).2.1]; exact axY_rb n (rb_of (rv_i2d rI) (nb_le hr8 (by decide))) (rb_of (rv_i2d qI) (nb_le hq8 (by decide))) rb_zero
      have r_zb : Rb zb (axZ n rI.toInt qI.toInt 0) 0 32 := by rw [← h_zb, (hpl _ _ _).2.2]; exact axZ_rb n (rb_of (rv_i2d rI) (nb_le hr8 (by decide))) (rb_of (rv_i2d qI) (nb_le hq8 (by decide))) rb_zero
      have r_da_ : Rb da_ (axX n dxI.toInt dyI.toInt dzI.toInt) 0 512 := by rw [← h_da_, (hpl _ _ _).1]; exact axX_rb n (rb_of (rv_i2d dxI) (own_off h_dxI)) (rb_of (rv_i2d dyI) (own_off h_dyI)) (rb_of (rv_i2d dzI) (own_off h_dzI))
      have r_db_ : Rb db_ (axY n dxI.toInt dyI.toInt dzI.toInt) 0 512 := by rw [← h_db_, (hpl _ _ _).2.1]; exact axY_rb n (rb_of (rv_i2d dxI) (own_off h_dxI)) (rb_of (rv_i2d dyI) (own_off h_dyI)) (rb_of (rv_i2d dzI) (own_off h_dzI))
      have r_dc_ : Rb dc_ (axZ n dxI.toInt dyI.toInt dzI.toInt) 0 512 := by rw [← h_dc_, (hpl _ _ _).2.2]; exact axZ_rb n (rb_of (rv_i2d dxI) (own_off h_dxI)) (rb_of (rv_i2d dyI) (own_off h_dyI)) (rb_of (rv_i2d dzI) (own_off h_dzI))
      have r_u0 := rb_i2dE h_u0
      have r_u1 := rb_i2dE h_u1
      have r_u2 := rb_i2dE h_u2
      have r_u3 := rb_i2dE h_u3
      have r_u4 := rb_i2dE h_u4
      have r_u5 := rb_i2dE h_u5
      have r_fx := rb_i2dE h_fx
      have r_fy := rb_i2dE h_fy
      have r_fz := rb_i2dE h_fz
      obtain ⟨qnn46_nn8, qnn46_nn17, qnn46_nn18, qnn46_nn27, qnn46_nn28, qnn53_nn8, qnn53_nn17, qnn53_nn18, qnn53_nn27, qnn53_nn28, qnn60_nn8, qnn60_nn17, qnn60_nn18, qnn60_nn27, qnn60_nn28, qnn70, qnn75, qnn76, qnn77, qnn85, qnn86_nn9, qnn86_nn15, qnn86_nn21, qnn94, qnn95_nn9, qnn95_nn15, qnn95_nn21, qnn98_nn12, qnn98_nn21, qnn98_nn30, qnn108, qnn109_nn9, qnn109_nn15, qnn109_nn21, qnn117, qnn118_nn9, qnn118_nn15, qnn118_nn21, qnn121_nn12, qnn121_nn21, qnn121_nn30, qnn136, qnn137_nn9, qnn137_nn15, qnn137_nn21, qnn150, qnn151_nn9, qnn151_nn15, qnn151_nn21, qnn154_nn12, qnn154_nn21, qnn154_nn30, qnn169, qnn170_nn9, qnn170_nn15, qnn170_nn21, qnn183, qnn184_nn9, qnn184_nn15, qnn184_nn21, qnn187_nn12, qnn187_nn21, qnn187_nn30, r_gx, r_gy, r_gz, r_wx, r_wy, r_wz⟩ := own_tex n hM hp8 hq8 (nb_le hr8 (by decide)) hM1 hqM (nb_le hrM (by decide)) hpM r_xa r_ya r_za r_xb r_yb r_zb r_u0 r_u1 r_u2 r_u3 r_u4 r_u5 E_av E_bv E_cv E_iv E_ck E_bk E_ak E_sx E_sy E_sz E_tx E_ty E_tz E_du2 E_du3 E_dv2 E_dv3 E_gx E_gy E_gz E_wx E_wy E_wz
      have r_dx := rb_add r_fx r_da_ (by decide) (by decide)
      have r_dy := rb_add r_fy r_db_ (by decide) (by decide)
      have r_dz := rb_add r_fz r_dc_ (by decide) (by decide)
      refine g_new (pc' := 341) X122 hx hby hZ hown (hw _ (List.mem_of_getElem? (i := 20) rfl)) (hw _ (List.mem_of_getElem? (i := 21) rfl)) (hw _ (List.mem_of_getElem? (i := 22) rfl)) e122 at_338 rfl (by decide) (by decide) ?_
      intro T139 h139 tc X139 e139 E139 A139 D139 q139
      have ne140 : ed1 ≠ tc := by rw [q139]; exact Nat.ne_of_lt f131.lt
      have ne141 : ed2 ≠ tc := by rw [q139]; exact Nat.ne_of_lt p122_0.lt
      have ne142 : fi ≠ tc := by rw [q139]; exact Nat.ne_of_lt f127.lt
      have ne143 : rc ≠ tc := by rw [q139]; exact Nat.ne_of_lt f125.lt
      have ne144 : uv ≠ tc := by rw [q139]; exact Nat.ne_of_lt f126.lt
      have ge139 : n0 ≤ tc := by rw [q139]; exact z122
      have kp139 : h0.size ≤ tc := by rw [q139]; exact K122.1
      have f145 := f125.ext E139
      have f146 := f126.ext E139
      have f147 := f127.ext E139
      have f148 := f128.ext E139
      have f149 := f129.ext E139
      have f150 := f130.ext E139
      have f151 := f131.ext E139
      have f152 := f132.ext E139
      have f153 := f133.ext E139
      have f154 := f134.ext E139
      have f155 := p122_0.ext E139
      have f156 := p122_1.ext E139
      have f157 := p122_2.ext E139
      have f158 := p122_3.ext E139
      have f159 : Fld Z h139 tc "com/example/stochastic_ray_tracer/stochasticraytracer/TextureCoordinates" "cornerX" "D" (.double (0 : UInt64)) := D139 (Or.inr (hw _ (List.mem_of_getElem? (i := 33) rfl))) (ty := .double) own_fd0
      have f160 : Fld Z h139 tc "com/example/stochastic_ray_tracer/stochasticraytracer/TextureCoordinates" "cornerY" "D" (.double (0 : UInt64)) := D139 (Or.inr (hw _ (List.mem_of_getElem? (i := 40) rfl))) (ty := .double) own_fd0
      have f161 : Fld Z h139 tc "com/example/stochastic_ray_tracer/stochasticraytracer/TextureCoordinates" "cornerZ" "D" (.double (0 : UInt64)) := D139 (Or.inr (hw _ (List.mem_of_getElem? (i := 47) rfl))) (ty := .double) own_fd0
      have f162 : Fld Z h139 tc "com/example/stochastic_ray_tracer/stochasticraytracer/TextureCoordinates" "cornerU" "D" (.double (0 : UInt64)) := D139 (Or.inr (hw _ (List.mem_of_getElem? (i := 49) rfl))) (ty := .double) own_fd0
      have f163 : Fld Z h139 tc "com/example/stochastic_ray_tracer/stochasticraytracer/TextureCoordinates" "cornerV" "D" (.double (0 : UInt64)) := D139 (Or.inr (hw _ (List.mem_of_getElem? (i := 51) rfl))) (ty := .double) own_fd0
      have f164 : Fld Z h139 tc "com/example/stochastic_ray_tracer/stochasticraytracer/TextureCoordinates" "uGradientX" "D" (.double (0 : UInt64)) := D139 (Or.inr (hw _ (List.mem_of_getElem? (i := 75) rfl))) (ty := .double) own_fd0
      have f165 : Fld Z h139 tc "com/example/stochastic_ray_tracer/stochasticraytracer/TextureCoordinates" "uGradientY" "D" (.double (0 : UInt64)) := D139 (Or.inr (hw _ (List.mem_of_getElem? (i := 77) rfl))) (ty := .double) own_fd0
      have f166 : Fld Z h139 tc "com/example/stochastic_ray_tracer/stochasticraytracer/TextureCoordinates" "uGradientZ" "D" (.double (0 : UInt64)) := D139 (Or.inr (hw _ (List.mem_of_getElem? (i := 79) rfl))) (ty := .double) own_fd0
      have f167 : Fld Z h139 tc "com/example/stochastic_ray_tracer/stochasticraytracer/TextureCoordinates" "vGradientX" "D" (.double (0 : UInt64)) := D139 (Or.inr (hw _ (List.mem_of_getElem? (i := 81) rfl))) (ty := .double) own_fd0
      have f168 : Fld Z h139 tc "com/example/stochastic_ray_tracer/stochasticraytracer/TextureCoordinates" "vGradientY" "D" (.double (0 : UInt64)) := D139 (Or.inr (hw _ (List.mem_of_getElem? (i := 83) rfl))) (ty := .double) own_fd0
      have f169 : Fld Z h139 tc "com/example/stochastic_ray_tracer/stochasticraytracer/TextureCoordinates" "vGradientZ" "D" (.double (0 : UInt64)) := D139 (Or.inr (hw _ (List.mem_of_getElem? (i := 85) rfl))) (ty := .double) own_fd0
      have z139 := Nat.le_trans z122 E139.1
      have K139 := K122.ext E139
      refine g_dup (pc' := 342) X139 hx hby at_341 rfl rfl rfl ?_
      refine g_aload (pc' := 344) X139 hx hby (v := (.ref fi)) at_342 rfl rfl rfl ?_
      refine g_aload (pc' := 346) X139 hx hby (v := (.ref ed1)) at_344 rfl rfl rfl ?_
      refine g_aload (pc' := 348) X139 hx hby (v := (.ref ed2)) at_346 rfl rfl rfl ?_
      refine g_aload (pc' := 350) X139 hx hby (v := (.ref uv)) at_348 rfl rfl rfl ?_
      refine g_init (argsL := [(.ref fi), (.ref ed1), (.ref ed2), (.ref uv)]) (pc' := 353) X139 hx hby (by rw [hml]; rfl) hZ hown rfl e139 (own_rm4 l Z a0 hw [] tc fi ed1 ed2 uv fx fy fz xa ya za xb yb zb u0 u1 u2 u3 u4 u5 kc18 av bv cv iv ck bk ak sx sy sz tx ty tz du2 du3 dv2 dv3 gx gy gz wx wy wz h139 n0 z139 A139 f159 f160 f161 f162 f163 f164 f165 f166 f167 f168 f169 ge139 f147 f151 f155 f148 f149 f150 f152 f153 f154 f156 f157 f158 f146 ne142 ne140 ne141 ne144 (E_av) (E_bv) (E_cv) (E_iv) (E_ck) (E_bk) (E_ak) (E_sx) (E_sy) (E_sz) (E_tx) (E_ty) (E_tz) (E_du2) (E_du3) (E_dv2) (E_dv3) (E_gx) (E_gy) (E_gz) (E_wx) (E_wy) (E_wz) (qnn46_nn8) (qnn46_nn17) (qnn46_nn18) (qnn46_nn27) (qnn46_nn28) (qnn53_nn8) (qnn53_nn17) (qnn53_nn18) (qnn53_nn27) (qnn53_nn28) (qnn60_nn8) (qnn60_nn17) (qnn60_nn18) (qnn60_nn27) (qnn60_nn28) (qnn70) (qnn75) (qnn76) (qnn77) (qnn85) (qnn86_nn9) (qnn86_nn15) (qnn86_nn21) (qnn94) (qnn95_nn9) (qnn95_nn15) (qnn95_nn21) (qnn98_nn12) (qnn98_nn21) (qnn98_nn30) (qnn108) (qnn109_nn9) (qnn109_nn15) (qnn109_nn21) (qnn117) (qnn118_nn9) (qnn118_nn15) (qnn118_nn21) (qnn121_nn12) (qnn121_nn21) (qnn121_nn30) (qnn136) (qnn137_nn9) (qnn137_nn15) (qnn137_nn21) (qnn150) (qnn151_nn9) (qnn151_nn15) (qnn151_nn21) (qnn154_nn12) (qnn154_nn21) (qnn154_nn30) (qnn169) (qnn170_nn9) (qnn170_nn15) (qnn170_nn21) (qnn183) (qnn184_nn9) (qnn184_nn15) (qnn184_nn21) (qnn187_nn12) (qnn187_nn21) (qnn187_nn30)) (hw _ (List.mem_of_getElem? (i := 23) rfl)) (hw _ (List.mem_of_getElem? (i := 24) rfl)) (hw _ (List.mem_of_getElem? (i := 22) rfl)) (hw _ (List.mem_of_getElem? (i := 25) rfl)) (by decide) own_pd6 rfl rfl (W := 1) rfl (by decide) (by decide) (by decide) (by decide) at_350 rfl ?_
      intro T170 v170 L170 X170 qq170
      obtain ⟨h170, e170⟩ : ∃ h, T170.heap = h := ⟨_, rfl⟩
      rw [e170] at qq170
      obtain ⟨rfl, n170, k170, p170_0, p170_1, p170_2, p170_3, p170_4, p170_5, p170_6, p170_7, p170_8, p170_9, p170_10, p170_11⟩ := qq170
      have f171 := f145.keep k170 (ninS ne143 nin0)
      have f172 := f146.keep k170 (ninS ne144 nin0)
      have f173 := f147.keep k170
      have f174 := f148.keep k170 (ninS ne142 nin0)
      have f175 := f149.keep k170 (ninS ne142 nin0)
      have f176 := f150.keep k170 (ninS ne142 nin0)
      have f177 := f151.keep k170
      have f178 := f152.keep k170 (ninS ne140 nin0)
      have f179 := f153.keep k170 (ninS ne140 nin0)
      have f180 := f154.keep k170 (ninS ne140 nin0)
      have f181 := f155.keep k170
      have f182 := f156.keep k170 (ninS ne141 nin0)
      have f183 := f157.keep k170 (ninS ne141 nin0)
      have f184 := f158.keep k170 (ninS ne141 nin0)
      have f185 := A139.keep k170
      have z170 := Nat.le_trans z139 k170.1
      have K170 := K139.trans k170 (allS (Or.inr kp139) all0)
      have N170 := Fr.app N122 n170
      show Gf p e below P T170 m 353 #[.val (.long i0), .second, .val (.int i1), .val (.long i2), .second, .val (.long i3), .second, .val (.int i4), .val (.long i5), .second, .val (.int va), .val (.int vb), .val (.double u1), .second, .val (.double u3), .second, .val (.double u5), .second, .val (.double fx), .second, .val (.double fy), .second, .val (.double fz), .second, .val (.int pm), .val (.int pI), .val (.int qm), .val (.int qI), .val (.int rI), .val (.int kI), .val (.int aI), .val (.int bI), .val (.int dxI), .val (.int dyI), .val (.int dzI), .val (.ref ra), .val (.ref rb), .val (.ref rc), .val (.ref uv), .val (.ref fi), .val (.ref ed1), .val (.ref ed2), .unset, .unset, .unset, .unset, .unset, .unset, .unset, .unset, .unset, .unset, .unset] [(.ref tc)]
      refine g_astore (pc' := 355) (Ls' := #[.val (.long i0), .second, .val (.int i1), .val (.long i2), .second, .val (.long i3), .second, .val (.int i4), .val (.long i5), .second, .val (.int va), .val (.int vb), .val (.double u1), .second, .val (.double u3), .second, .val (.double u5), .second, .val (.double fx), .second, .val (.double fy), .second, .val (.double fz), .second, .val (.int pm), .val (.int pI), .val (.int qm), .val (.int qI), .val (.int rI), .val (.int kI), .val (.int aI), .val (.int bI), .val (.int dxI), .val (.int dyI), .val (.int dzI), .val (.ref ra), .val (.ref rb), .val (.ref rc), .val (.ref uv), .val (.ref fi), .val (.ref ed1), .val (.ref ed2), .val (.ref tc), .unset, .unset, .unset, .unset, .unset, .unset, .unset, .unset, .unset, .unset]) X170 hx hby at_353 rfl rfl rfl rfl ?_
      refine g_aload (pc' := 357) X170 hx hby (v := (.ref tc)) at_355 rfl rfl rfl ?_
      refine g_dload (pc' := 359) X170 hx hby (v := fx) at_357 rfl rfl ?_
      refine g_aload (pc' := 361) X170 hx hby (v := (.ref rc)) at_359 rfl rfl rfl ?_
      refine g_iconst (pc' := 362) (v := (0 : Int32)) X170 hx hby at_361 rfl rfl ?_
      refine g_ldD (pc' := 363) X170 hx hby hZ (v := da_) e170 f171 ⟨by decide, by decide⟩ rfl rfl at_362 rfl ?_
      obtain ⟨qx, h_qx⟩ : ∃ z : UInt64, FP.dadd fx da_ = z := ⟨_, rfl⟩
      refine g_dadd (pc' := 364) (v := qx) X170 hx hby at_363 rfl (rb_nn r_dx) h_qx rfl ?_
      refine g_dload (pc' := 366) X170 hx hby (v := fy) at_364 rfl rfl ?_
      refine g_aload (pc' := 368) X170 hx hby (v := (.ref rc)) at_366 rfl rfl rfl ?_
      refine g_iconst (pc' := 369) (v := (1 : Int32)) X170 hx hby at_368 rfl rfl ?_
      refine g_ldD (pc' := 370) X170 hx hby hZ (v := db_) e170 f171 ⟨by decide, by decide⟩ rfl rfl at_369 rfl ?_
      obtain ⟨qy, h_qy⟩ : ∃ z : UInt64, FP.dadd fy db_ = z := ⟨_, rfl⟩
      refine g_dadd (pc' := 371) (v := qy) X170 hx hby at_370 rfl (rb_nn r_dy) h_qy rfl ?_
      refine g_dload (pc' := 373) X170 hx hby (v := fz) at_371 rfl rfl ?_
      refine g_aload (pc' := 375) X170 hx hby (v := (.ref rc)) at_373 rfl rfl rfl ?_
      refine g_iconst (pc' := 376) (v := (2 : Int32)) X170 hx hby at_375 rfl rfl ?_
      refine g_ldD (pc' := 377) X170 hx hby hZ (v := dc_) e170 f171 ⟨by decide, by decide⟩ rfl rfl at_376 rfl ?_
      obtain ⟨qz, h_qz⟩ : ∃ z : UInt64, FP.dadd fz dc_ = z := ⟨_, rfl⟩
      refine g_dadd (pc' := 378) (v := qz) X170 hx hby at_377 rfl (rb_nn r_dz) h_qz rfl ?_
      have r_px := rb_le (rb_to h_qx r_dx) (show _ ≤ 4294967296 by decide)
      have r_py := rb_le (rb_to h_qy r_dy) (show _ ≤ 4294967296 by decide)
      have r_pz := rb_le (rb_to h_qz r_dz) (show _ ≤ 4294967296 by decide)
      obtain ⟨mnn9, mnn14, mnn15, mnn21, mnn26, mnn27, mnn34, mnn39, mnn40, r_got⟩ := own_read r_u0 r_px r_fx r_da_.2 r_gx r_py r_fy r_db_.2 r_gy r_pz r_fz r_dc_.2 r_gz
      rw [own_dsum] at r_got
      refine g_virt (argsL := [(.double qx), (.double qy), (.double qz)]) (pc' := 381) X170 hx hby (by rw [hml]; rfl) hZ hown e170 (own_rm12 l Z a0 hw [] tc qx qy qz u0 fx gx fy gy fz gz h170 n0 z170 p170_4 p170_1 p170_6 p170_2 p170_7 p170_3 p170_8 (mnn9) (mnn14) (mnn15) (mnn21) (mnn26) (mnn27) (mnn34) (mnn39) (mnn40)) (hw _ (List.mem_of_getElem? (i := 86) rfl)) (hw _ (List.mem_of_getElem? (i := 87) rfl)) (hw _ (List.mem_of_getElem? (i := 89) rfl)) (hw _ (List.mem_of_getElem? (i := 88) rfl)) (hw _ (List.mem_of_getElem? (i := 22) rfl)) (hw _ (List.mem_of_getElem? (i := 90) rfl)) (by decide) p170_0 own_pd7 rfl rfl (W := 0) rfl (by decide) (by decide) (by decide) (by decide) at_378 rfl ?_
      intro T197 v197 L197 X197 qq197
      obtain ⟨rfl, n197, e197⟩ := qq197
      have N197 := Fr.app N170 n197
      obtain ⟨got, h_got⟩ : ∃ z : UInt64, (FP.dadd (FP.dadd (FP.dadd u0 (FP.dmul (FP.dsub qx fx) gx)) (FP.dmul (FP.dsub qy fy) gy)) (FP.dmul (FP.dsub qz fz) gz)) = z := ⟨_, rfl⟩
      rw [h_got]
      show Gf p e below P T197 m 381 #[.val (.long i0), .second, .val (.int i1), .val (.long i2), .second, .val (.long i3), .second, .val (.int i4), .val (.long i5), .second, .val (.int va), .val (.int vb), .val (.double u1), .second, .val (.double u3), .second, .val (.double u5), .second, .val (.double fx), .second, .val (.double fy), .second, .val (.double fz), .second, .val (.int pm), .val (.int pI), .val (.int qm), .val (.int qI), .val (.int rI), .val (.int kI), .val (.int aI), .val (.int bI), .val (.int dxI), .val (.int dyI), .val (.int dzI), .val (.ref ra), .val (.ref rb), .val (.ref rc), .val (.ref uv), .val (.ref fi), .val (.ref ed1), .val (.ref ed2), .val (.ref tc), .unset, .unset, .unset, .unset, .unset, .unset, .unset, .unset, .unset, .unset] [(.double got)]
      refine g_dstore (pc' := 383) (Ls' := #[.val (.long i0), .second, .val (.int i1), .val (.long i2), .second, .val (.long i3), .second, .val (.int i4), .val (.long i5), .second, .val (.int va), .val (.int vb), .val (.double u1), .second, .val (.double u3), .second, .val (.double u5), .second, .val (.double fx), .second, .val (.double fy), .second, .val (.double fz), .second, .val (.int pm), .val (.int pI), .val (.int qm), .val (.int qI), .val (.int rI), .val (.int kI), .val (.int aI), .val (.int bI), .val (.int dxI), .val (.int dyI), .val (.int dzI), .val (.ref ra), .val (.ref rb), .val (.ref rc), .val (.ref uv), .val (.ref fi), .val (.ref ed1), .val (.ref ed2), .val (.ref tc), .val (.double got), .second, .unset, .unset, .unset, .unset, .unset, .unset, .unset, .unset]) X197 hx hby at_381 rfl rfl rfl ?_
      refine g_iload (pc' := 385) X197 hx hby (v := vb) at_383 rfl rfl ?_
      refine g_i2l (pc' := 386) (v := (vb.toInt64)) X197 hx hby at_385 rfl rfl rfl ?_
      refine g_iload (pc' := 388) X197 hx hby (v := va) at_386 rfl rfl ?_
      refine g_i2l (pc' := 389) (v := (va.toInt64)) X197 hx hby at_388 rfl rfl rfl ?_
      obtain ⟨lu2, h_lu2⟩ : ∃ z : Int64, (vb.toInt64) - (va.toInt64) = z := ⟨_, rfl⟩
      refine g_lsub (pc' := 390) (v := lu2) X197 hx hby at_389 rfl h_lu2 rfl ?_
      refine g_lstore (pc' := 392) (Ls' := #[.val (.long i0), .second, .val (.int i1), .val (.long i2), .second, .val (.long i3), .second, .val (.int i4), .val (.long i5), .second, .val (.int va), .val (.int vb), .val (.double u1), .second, .val (.double u3), .second, .val (.double u5), .second, .val (.double fx), .second, .val (.double fy), .second, .val (.double fz), .second, .val (.int pm), .val (.int pI), .val (.int qm), .val (.int qI), .val (.int rI), .val (.int kI), .val (.int aI), .val (.int bI), .val (.int dxI), .val (.int dyI), .val (.int dzI), .val (.ref ra), .val (.ref rb), .val (.ref rc), .val (.ref uv), .val (.ref fi), .val (.ref ed1), .val (.ref ed2), .val (.ref tc), .val (.double got), .second, .val (.long lu2), .second, .unset, .unset, .unset, .unset, .unset, .unset]) X197 hx hby at_390 rfl rfl rfl ?_
      refine g_iloadN (pc' := 393) X197 hx hby (v := i1) at_392 rfl rfl ?_
      refine g_i2l (pc' := 394) (v := (i1.toInt64)) X197 hx hby at_393 rfl rfl rfl ?_
      refine g_iload (pc' := 396) X197 hx hby (v := va) at_394 rfl rfl ?_
      refine g_i2l (pc' := 397) (v := (va.toInt64)) X197 hx hby at_396 rfl rfl rfl ?_
      obtain ⟨lu3, h_lu3⟩ : ∃ z : Int64, (i1.toInt64) - (va.toInt64) = z := ⟨_, rfl⟩
      refine g_lsub (pc' := 398) (v := lu3) X197 hx hby at_397 rfl h_lu3 rfl ?_
      refine g_lstore (pc' := 400) (Ls' := #[.val (.long i0), .second, .val (.int i1), .val (.long i2), .second, .val (.long i3), .second, .val (.int i4), .val (.long i5), .second, .val (.int va), .val (.int vb), .val (.double u1), .second, .val (.double u3), .second, .val (.double u5), .second, .val (.double fx), .second, .val (.double fy), .second, .val (.double fz), .second, .val (.int pm), .val (.int pI), .val (.int qm), .val (.int qI), .val (.int rI), .val (.int kI), .val (.int aI), .val (.int bI), .val (.int dxI), .val (.int dyI), .val (.int dzI), .val (.ref ra), .val (.ref rb), .val (.ref rc), .val (.ref uv), .val (.ref fi), .val (.ref ed1), .val (.ref ed2), .val (.ref tc), .val (.double got), .second, .val (.long lu2), .second, .val (.long lu3), .second, .unset, .unset, .unset, .unset]) X197 hx hby at_398 rfl rfl rfl ?_
      refine g_iload (pc' := 402) X197 hx hby (v := pI) at_400 rfl rfl ?_
      refine g_i2l (pc' := 403) (v := (pI.toInt64)) X197 hx hby at_402 rfl rfl rfl ?_
      refine g_iload (pc' := 405) X197 hx hby (v := qI) at_403 rfl rfl ?_
      refine g_i2l (pc' := 406) (v := (qI.toInt64)) X197 hx hby at_405 rfl rfl rfl ?_
      obtain ⟨lpq, h_lpq⟩ : ∃ z : Int64, (pI.toInt64) * (qI.toInt64) = z := ⟨_, rfl⟩
      refine g_lmul (pc' := 407) (v := lpq) X197 hx hby at_406 rfl h_lpq rfl ?_
      refine g_lstore (pc' := 409) (Ls' := #[.val (.long i0), .second, .val (.int i1), .val (.long i2), .second, .val (.long i3), .second, .val (.int i4), .val (.long i5), .second, .val (.int va), .val (.int vb), .val (.double u1), .second, .val (.double u3), .second, .val (.double u5), .second, .val (.double fx), .second, .val (.double fy), .second, .val (.double fz), .second, .val (.int pm), .val (.int pI), .val (.int qm), .val (.int qI), .val (.int rI), .val (.int kI), .val (.int aI), .val (.int bI), .val (.int dxI), .val (.int dyI), .val (.int dzI), .val (.ref ra), .val (.ref rb), .val (.ref rc), .val (.ref uv), .val (.ref fi), .val (.ref ed1), .val (.ref ed2), .val (.ref tc), .val (.double got), .second, .val (.long lu2), .second, .val (.long lu3), .second, .val (.long lpq), .second, .unset, .unset]) X197 hx hby at_407 rfl rfl rfl ?_
      refine g_iload (pc' := 411) X197 hx hby (v := va) at_409 rfl rfl ?_
      refine g_i2l (pc' := 412) (v := (va.toInt64)) X197 hx hby at_411 rfl rfl rfl ?_
      refine g_lload (pc' := 414) X197 hx hby (v := lpq) at_412 rfl rfl ?_
      refine g_lmul (pc' := 415) (v := ((va.toInt64) * lpq)) X197 hx hby at_414 rfl rfl rfl ?_
      refine g_lload (pc' := 417) X197 hx hby (v := lu2) at_415 rfl rfl ?_
      refine g_iload (pc' := 419) X197 hx hby (v := qI) at_417 rfl rfl ?_
      refine g_i2l (pc' := 420) (v := (qI.toInt64)) X197 hx hby at_419 rfl rfl rfl ?_
      refine g_iload (pc' := 422) X197 hx hby (v := dxI) at_420 rfl rfl ?_
      refine g_i2l (pc' := 423) (v := (dxI.toInt64)) X197 hx hby at_422 rfl rfl rfl ?_
      refine g_lmul (pc' := 424) (v := ((qI.toInt64) * (dxI.toInt64))) X197 hx hby at_423 rfl rfl rfl ?_
      refine g_iload (pc' := 426) X197 hx hby (v := rI) at_424 rfl rfl ?_
      refine g_i2l (pc' := 427) (v := (rI.toInt64)) X197 hx hby at_426 rfl rfl rfl ?_
      refine g_iload (pc' := 429) X197 hx hby (v := dyI) at_427 rfl rfl ?_
      refine g_i2l (pc' := 430) (v := (dyI.toInt64)) X197 hx hby at_429 rfl rfl rfl ?_
      refine g_lmul (pc' := 431) (v := ((rI.toInt64) * (dyI.toInt64))) X197 hx hby at_430 rfl rfl rfl ?_
      refine g_lsub (pc' := 432) (v := (((qI.toInt64) * (dxI.toInt64)) - ((rI.toInt64) * (dyI.toInt64)))) X197 hx hby at_431 rfl rfl rfl ?_
      refine g_lmul (pc' := 433) (v := (lu2 * (((qI.toInt64) * (dxI.toInt64)) - ((rI.toInt64) * (dyI.toInt64))))) X197 hx hby at_432 rfl rfl rfl ?_
      refine g_ladd (pc' := 434) (v := (((va.toInt64) * lpq) + (lu2 * (((qI.toInt64) * (dxI.toInt64)) - ((rI.toInt64) * (dyI.toInt64)))))) X197 hx hby at_433 rfl rfl rfl ?_
      refine g_lload (pc' := 436) X197 hx hby (v := lu3) at_434 rfl rfl ?_
      refine g_iload (pc' := 438) X197 hx hby (v := pI) at_436 rfl rfl ?_
      refine g_i2l (pc' := 439) (v := (pI.toInt64)) X197 hx hby at_438 rfl rfl rfl ?_
      refine g_iload (pc' := 441) X197 hx hby (v := dyI) at_439 rfl rfl ?_
      refine g_i2l (pc' := 442) (v := (dyI.toInt64)) X197 hx hby at_441 rfl rfl rfl ?_
      refine g_lmul (pc' := 443) (v := ((pI.toInt64) * (dyI.toInt64))) X197 hx hby at_442 rfl rfl rfl ?_
      refine g_lmul (pc' := 444) (v := (lu3 * ((pI.toInt64) * (dyI.toInt64)))) X197 hx hby at_443 rfl rfl rfl ?_
      obtain ⟨lw, h_lw⟩ : ∃ z : Int64, (((va.toInt64) * lpq) + (lu2 * (((qI.toInt64) * (dxI.toInt64)) - ((rI.toInt64) * (dyI.toInt64))))) + (lu3 * ((pI.toInt64) * (dyI.toInt64))) = z := ⟨_, rfl⟩
      refine g_ladd (pc' := 445) (v := lw) X197 hx hby at_444 rfl h_lw rfl ?_
      refine g_lstore (pc' := 447) (Ls' := #[.val (.long i0), .second, .val (.int i1), .val (.long i2), .second, .val (.long i3), .second, .val (.int i4), .val (.long i5), .second, .val (.int va), .val (.int vb), .val (.double u1), .second, .val (.double u3), .second, .val (.double u5), .second, .val (.double fx), .second, .val (.double fy), .second, .val (.double fz), .second, .val (.int pm), .val (.int pI), .val (.int qm), .val (.int qI), .val (.int rI), .val (.int kI), .val (.int aI), .val (.int bI), .val (.int dxI), .val (.int dyI), .val (.int dzI), .val (.ref ra), .val (.ref rb), .val (.ref rc), .val (.ref uv), .val (.ref fi), .val (.ref ed1), .val (.ref ed2), .val (.ref tc), .val (.double got), .second, .val (.long lu2), .second, .val (.long lu3), .second, .val (.long lpq), .second, .val (.long lw), .second]) X197 hx hby at_445 rfl rfl rfl ?_
      rw [h_got] at r_got
      obtain ⟨w1, w2, w3⟩ := own_want hpq hp8 hq8 hr8 (own_off h_dxI) (own_off h_dyI) h_lu2 h_lu3 h_lpq h_lw
      obtain ⟨o1, o2⟩ := own_last r_got w1 w2 hpq w3 (own_id hM)
      refine g_dload (pc' := 449) X197 hx hby (v := got) at_447 rfl rfl ?_
      refine g_lload (pc' := 451) X197 hx hby (v := lpq) at_449 rfl rfl ?_
      refine g_l2d (pc' := 452) (v := (FP.l2d lpq)) X197 hx hby at_451 rfl rfl rfl ?_
      refine g_dmul (pc' := 453) (v := (FP.dmul got (FP.l2d lpq))) X197 hx hby at_452 rfl (o1) rfl rfl ?_
      refine g_lload (pc' := 455) X197 hx hby (v := lw) at_453 rfl rfl ?_
      refine g_l2d (pc' := 456) (v := (FP.l2d lw)) X197 hx hby at_455 rfl rfl rfl ?_
      refine g_dcmp (pc' := 457) (v := (cmpValue (FP.dcmp (FP.dmul got (FP.l2d lpq)) (FP.l2d lw)) .l)) X197 hx hby at_456 rfl rfl rfl ?_
      refine g_ifN (pc' := 460) X197 hx hby at_457 rfl (teq (o2 _ : (cmpValue (FP.dcmp (FP.dmul got (FP.l2d lpq)) (FP.l2d lw)) .l) = (0 : Int32))).2 rfl ?_
      refine g_iconst (pc' := 461) (v := (1 : Int32)) X197 hx hby at_460 rfl rfl ?_
      refine g_goto (pc' := 465) X197 hx hby at_461 (by decide) (by decide) ?_
      exact g_retZ X197 hx hby hf hlk hret at_465 rfl (by simp) rfl (by decide) (by decide) e197 ⟨rfl, N197, K170⟩
    · intro J98
      by_cases hc98 : (i4 &&& (32 : Int32)) = (0 : Int32)
      · refine g_ifY (pc' := 107) X1 hx hby at_98 rfl (teq hc98).1 (by decide) (by decide) ?_
        refine g_iload (pc' := 109) X1 hx hby (v := qm) at_107 rfl rfl ?_
        rw [h_qI] at J98
        simp only [if_pos hc98] at J98
        exact J98 _ X1 e1
      · refine g_ifN (pc' := 101) X1 hx hby at_98 rfl (feq hc98).1 rfl ?_
        refine g_iload (pc' := 103) X1 hx hby (v := qm) at_101 rfl rfl ?_
        refine g_ineg (pc' := 104) (v := (-qm)) X1 hx hby at_103 rfl rfl rfl ?_
        refine g_goto (pc' := 109) X1 hx hby at_104 (by decide) (by decide) ?_
        rw [h_qI] at J98
        simp only [if_neg hc98] at J98
        exact J98 _ X1 e1
  · intro J70
    by_cases hc70 : (i4 &&& (4 : Int32)) = (0 : Int32)
    · refine g_ifY (pc' := 79) X0 hx hby at_70 rfl (teq hc70).1 (by decide) (by decide) ?_
      refine g_iload (pc' := 81) X0 hx hby (v := pm) at_79 rfl rfl ?_
      rw [h_pI] at J70
      simp only [if_pos hc70] at J70
      exact J70 _ X0 e0
    · refine g_ifN (pc' := 73) X0 hx hby at_70 rfl (feq hc70).1 rfl ?_
      refine g_iload (pc' := 75) X0 hx hby (v := pm) at_73 rfl rfl ?_
      refine g_ineg (pc' := 76) (v := (-pm)) X0 hx hby at_75 rfl rfl rfl ?_
      refine g_goto (pc' := 81) X0 hx hby at_76 (by decide) (by decide) ?_
      rw [h_pI] at J70
      simp only [if_neg hc70] at J70
      exact J70 _ X0 e0
theorem comes_1 {Post : Tables → Env → Array Value → State → Outcome → State → Prop} (hpost : ∀ tb e args s v u, (limb_1_1.after args s (.returned v) u = true ∧ limb_1_2.after args s (.returned v) u = true ∧ True) → FrameEnd s (.returned v) u (Jvm.fieldLocs frame_1_writes args s ++ Jvm.arrayLocs frame_1_arrays args s ++ Jvm.staticLocs frame_1_statics s) 48 256 → Post tb e args s (.returned v) u) :
    ArmFor flags0 classFile x code maxLocals ret World_1 tables_1 room_1 Calls_1 rest_1 Pre_1 Post := by
  intro l hfl _ _ p e ha hc hk s m args below hf hA hF happ hP
  obtain ⟨hcalls, hrest, hpre⟩ := hP
  obtain ⟨-, -, -, hnamed, -, -, -, hat⟩ := (Spec.applies_iff hf).mp happ
  obtain ⟨hg, hn⟩ := and_e (Cond.before_iff.mp (show (Jvm.Cond.and given_1 narrow_1).before args s = true from hpre))
  obtain ⟨h1, g0⟩ := and_e hg
  obtain ⟨w0, w1, w2, w3, w4, w5, rfl⟩ : ∃ w0 w1 w2 w3 w4 w5 : Value, args = #[w0, w1, w2, w3, w4, w5] := by
    have hs : args.size = 6 := by simpa [Cond.value, given_1] using h1
    obtain ⟨L⟩ := args
    match L, hs with
    | [w0, w1, w2, w3, w4, w5], _ => exact ⟨w0, w1, w2, w3, w4, w5, rfl⟩
  have hw := fun d (hd : d ∈ tables_1) => atoms_spec (ws := Jvm.Cond.code x code maxLocals ret :: tables_1) hat d (List.mem_cons_of_mem _ hd)
  have hfit : Fit s := fun {y c} hc i hi => by
    obtain ⟨ha, rfl⟩ := Array.getElem?_eq_some_iff.mp hc
    have q := List.all_eq_true.mp ((Array.all_eq_true_iff_forall_mem.mp hF) _ (Array.getElem_mem ha)) i (List.mem_range.mpr hi)
    simpa [Array.getElem?_eq_getElem hi] using q
  obtain ⟨t0, g1⟩ := and_e g0
  obtain ⟨i0, e0⟩ := isL_v t0
  obtain rfl : w0 = (.long i0) := Option.some.inj e0
  obtain ⟨t1, g2⟩ := and_e g1
  obtain ⟨i1, e1⟩ := is_v t1
  obtain rfl : w1 = (.int i1) := Option.some.inj e1
  obtain ⟨t2, g3⟩ := and_e g2
  obtain ⟨i2, e2⟩ := isL_v t2
  obtain rfl : w2 = (.long i2) := Option.some.inj e2
  obtain ⟨t3, g4⟩ := and_e g3
  obtain ⟨i3, e3⟩ := isL_v t3
  obtain rfl : w3 = (.long i3) := Option.some.inj e3
  obtain ⟨t4, g5⟩ := and_e g4
  obtain ⟨i4, e4⟩ := is_v t4
  obtain rfl : w4 = (.int i4) := Option.some.inj e4
  have t5 := g5
  obtain ⟨i5, e5⟩ := isL_v t5
  obtain rfl : w5 = (.long i5) := Option.some.inj e5
  obtain ⟨n, o, h1, h2, h3, _, L, rfl, ⟨rfl, N, _⟩, hq⟩ := own_rm0 l s _ hw tables_1 i0 i1 i2 i3 i4 i5 s.heap s.heap.size (Nat.le_refl _)  p e ha hc hk s m _ below hf ((Spec.applies_iff_loose hf).mp happ).1 ⟨rfl, State.Warmed39.refl s, rfl⟩ trivial
  refine ⟨n, _, h1, h2, h3, hpost _ _ _ _ _ _ ⟨Cond.after_iff.mpr rfl, Cond.after_iff.mpr (eq_i res_at (Term.int_eval (1)) rfl), trivial⟩ ⟨hq.1, hq.2.1, (hq.2.2.sift fun y hy => Or.inr (N y hy)).mono (by decide) (by decide)⟩⟩
theorem main_1_1 : Claimed_1_1 := comes_1 fun _ _ _ _ _ _ h hF => ⟨h.1, hF⟩
theorem main_1_2 : Claimed_1_2 := comes_1 fun _ _ _ _ _ _ h hF => ⟨h.2.1, hF⟩
end Jvm.Pilot.@@N@@
namespace Jvm.Pilot.@@N@@
open Jvm Jvm.ClassFile Sem Op Lib Jvm.Free Jvm.Stand Jvm.Pilot.@@N@@.Jvm.D
/-! MADE BY PROGRAM (witnessworld.py) out of the Statement's table words and the real class files: 12 classes; the members and pool entries that the words name. The judged class is class 1, her method 1. -/
namespace start1
open Jvm.ClassFile
def u (s : String) : CpInfo := .utf8 (stringToUtf16 s)
/-- a pool by its gaps: so many unusable entries, then the entry; so many at the end -/
def gap : Nat → List CpInfo → List CpInfo
  | 0, r => r
  | n + 1, r => .unusable :: gap n r
def poolList (es : List (Nat × CpInfo)) (last : Nat) : List CpInfo := es.foldr (fun e r => gap e.1 (e.2 :: r)) (gap last [])
def pool (es : List (Nat × CpInfo)) (last : Nat) : Array CpInfo := ⟨poolList es last⟩
def fileOf (pool : Array CpInfo) (this : Nat) (attrs : Array Attribute := #[]) (ms : Array MethodInfo := #[]) (fl : Nat := 33) (sup : Nat := 0) (ifs : Array Nat := #[]) (fds : Array FieldInfo := #[]) : ClassFile where
  minorVersion := 0
  majorVersion := 65
  constantPool := pool
  accessFlags := fl
  thisClass := this
  superClass := sup
  interfaces := ifs
  fields := fds
  methods := ms
  attributes := attrs
def plain (name : String) (sup : Option ClassId) : Class where
  name := name
  kind := .ordinary
  loader := none
  accessFlags := 33
  super := sup
  interfaces := #[]
  cf := none
  fields := #[]
  methods := #[]
  instanceTypes := #[]
  staticTypes := #[]
  resolved := #[]
  callSites := []
  init := .initialized
  statics := none
  mirror := none

def pool0 : Array CpInfo := pool [(5, u "<init>"), (0, u "()V"), (1, .class_ 10), (1, u "java/lang/Object")] 113

def k0c0 : Code := { maxStack := 0, maxLocals := 1, code := object_method_1_code, exceptionTable := #[], attributes := #[] }
def k0m0 : Method := { name := "<init>", desc := "()V", sig := { parameters := [], returnType := none }, accessFlags := 1, code := some k0c0 }
/-- java/lang/Object -/
def k0 : Class := { plain "java/lang/Object" none with
  accessFlags := 33
  interfaces := #[]
  cf := some (fileOf pool0 8 #[] #[{ accessFlags := 1, nameIndex := 5, descriptorIndex := 6, attributes := #[] }] 33 0 #[] #[])
  fields := #[]
  methods := #[k0m0]
  instanceTypes := #[]
  staticTypes := #[]
  resolved := Array.replicate 124 none
  statics := none }

def pool1 : Array CpInfo := pool [(2, .class_ 4), (1, u "java/lang/Object"), (0, u "<init>"), (0, u "()V"), (0, .methodref 8 9), (0, .class_ 10), (0, .nameAndType 11 12), (0, u "com/example/stochastic_ray_tracer/stochasticraytracer/TextureCoordinatesUPinLaw"), (0, u "place"), (0, u "(IIDDD)[D"), (0, .class_ 14), (0, u "com/example/stochastic_ray_tracer/stochasticraytracer/Vec3"), (0, .methodref 13 16), (0, .nameAndType 5 17), (0, u "(DDD)V"), (0, .class_ 19), (0, u "com/example/stochastic_ray_tracer/stochasticraytracer/TextureCoordinates"), (0, .methodref 18 21), (0, .nameAndType 5 22), (0, u "(Lcom/example/stochastic_ray_tracer/stochasticraytracer/Vec3;Lcom/example/stochastic_ray_tracer/stochasticraytracer/Vec3;Lcom/example/stochastic_ray_tracer/stochasticraytracer/Vec3;[D)V"), (0, .methodref 18 24), (0, .nameAndType 25 26), (0, u "u"), (0, u "(DDD)D"), (2, u "law"), (0, u "(JIJJIJ)Z")] 5

def k1m0 : Method := { name := "<init>", desc := "()V", sig := { parameters := [], returnType := none }, accessFlags := 1, code := none }
def k1c1 : Code := { maxStack := 10, maxLocals := 53, code := code, exceptionTable := #[], attributes := #[] }
def k1m1 : Method := { name := "law", desc := "(JIJJIJ)Z", sig := { parameters := [.long, .int, .long, .long, .int, .long], returnType := some .boolean }, accessFlags := 9, code := some k1c1 }
def k1c2 : Code := { maxStack := 4, maxLocals := 9, code := method_3_code, exceptionTable := #[], attributes := #[] }
def k1m2 : Method := { name := "place", desc := "(IIDDD)[D", sig := { parameters := [.int, .int, .double, .double, .double], returnType := some (.array .double) }, accessFlags := 10, code := some k1c2 }
/-- com/example/stochastic_ray_tracer/stochasticraytracer/TextureCoordinatesUPinLaw -/
def k1 : Class := { plain "com/example/stochastic_ray_tracer/stochasticraytracer/TextureCoordinatesUPinLaw" (some 0) with
  accessFlags := 49
  interfaces := #[]
  cf := some (fileOf pool1 8 #[] #[{ accessFlags := 1, nameIndex := 5, descriptorIndex := 6, attributes := #[] }, { accessFlags := 9, nameIndex := 29, descriptorIndex := 30, attributes := #[] }, { accessFlags := 10, nameIndex := 11, descriptorIndex := 12, attributes := #[] }] 49 2 #[] #[])
  fields := #[]
  methods := #[k1m0, k1m1, k1m2]
  instanceTypes := #[]
  staticTypes := #[]
  resolved := Array.replicate 36 none
  statics := none }

def pool2 : Array CpInfo := pool [(1, .methodref 2 3), (0, .class_ 4), (0, .nameAndType 5 6), (0, u "java/lang/Object"), (0, u "<init>"), (0, u "()V"), (0, .fieldref 8 9), (0, .class_ 10), (0, .nameAndType 11 12), (0, u "com/example/stochastic_ray_tracer/stochasticraytracer/Vec3"), (0, u "x"), (0, u "D"), (0, .fieldref 8 14), (0, .nameAndType 15 12), (0, u "y"), (0, .fieldref 8 17), (0, .nameAndType 18 12), (0, u "z"), (15, .methodref 8 35), (0, .nameAndType 5 36), (0, u "(DDD)V"), (5, u "dot"), (0, u "(Lcom/example/stochastic_ray_tracer/stochasticraytracer/Vec3;)D"), (7, u "()D"), (2, u "times"), (0, u "(D)Lcom/example/stochastic_ray_tracer/stochasticraytracer/Vec3;"), (8, u "(Lcom/example/stochastic_ray_tracer/stochasticraytracer/Vec3;)Lcom/example/stochastic_ray_tracer/stochasticraytracer/Vec3;"), (0, u "plus"), (0, u "minus")] 24

def k2c0 : Code := { maxStack := 3, maxLocals := 7, code := prog_72_method_1_code, exceptionTable := #[], attributes := #[] }
def k2m0 : Method := { name := "<init>", desc := "(DDD)V", sig := { parameters := [.double, .double, .double], returnType := none }, accessFlags := 0, code := some k2c0 }
def k2c1 : Code := { maxStack := 2, maxLocals := 1, code := prog_72_method_2_code, exceptionTable := #[], attributes := #[] }
def k2m1 : Method := { name := "x", desc := "()D", sig := { parameters := [], returnType := some .double }, accessFlags := 0, code := some k2c1 }
def k2c2 : Code := { maxStack := 2, maxLocals := 1, code := prog_72_method_3_code, exceptionTable := #[], attributes := #[] }
def k2m2 : Method := { name := "y", desc := "()D", sig := { parameters := [], returnType := some .double }, accessFlags := 0, code := some k2c2 }
def k2c3 : Code := { maxStack := 2, maxLocals := 1, code := prog_72_method_4_code, exceptionTable := #[], attributes := #[] }
def k2m3 : Method := { name := "z", desc := "()D", sig := { parameters := [], returnType := some .double }, accessFlags := 0, code := some k2c3 }
def k2c4 : Code := { maxStack := 10, maxLocals := 2, code := prog_72_method_8_code, exceptionTable := #[], attributes := #[] }
def k2m4 : Method := { name := "plus", desc := "(Lcom/example/stochastic_ray_tracer/stochasticraytracer/Vec3;)Lcom/example/stochastic_ray_tracer/stochasticraytracer/Vec3;", sig := { parameters := [(.object "com/example/stochastic_ray_tracer/stochasticraytracer/Vec3")], returnType := some (.object "com/example/stochastic_ray_tracer/stochasticraytracer/Vec3") }, accessFlags := 0, code := some k2c4 }
def k2c5 : Code := { maxStack := 10, maxLocals := 2, code := prog_72_method_9_code, exceptionTable := #[], attributes := #[] }
def k2m5 : Method := { name := "minus", desc := "(Lcom/example/stochastic_ray_tracer/stochasticraytracer/Vec3;)Lcom/example/stochastic_ray_tracer/stochasticraytracer/Vec3;", sig := { parameters := [(.object "com/example/stochastic_ray_tracer/stochasticraytracer/Vec3")], returnType := some (.object "com/example/stochastic_ray_tracer/stochasticraytracer/Vec3") }, accessFlags := 0, code := some k2c5 }
def k2c6 : Code := { maxStack := 10, maxLocals := 3, code := prog_72_method_10_code, exceptionTable := #[], attributes := #[] }
def k2m6 : Method := { name := "times", desc := "(D)Lcom/example/stochastic_ray_tracer/stochasticraytracer/Vec3;", sig := { parameters := [.double], returnType := some (.object "com/example/stochastic_ray_tracer/stochasticraytracer/Vec3") }, accessFlags := 0, code := some k2c6 }
def k2c7 : Code := { maxStack := 6, maxLocals := 2, code := prog_72_method_11_code, exceptionTable := #[], attributes := #[] }
def k2m7 : Method := { name := "dot", desc := "(Lcom/example/stochastic_ray_tracer/stochasticraytracer/Vec3;)D", sig := { parameters := [(.object "com/example/stochastic_ray_tracer/stochasticraytracer/Vec3")], returnType := some .double }, accessFlags := 0, code := some k2c7 }
/-- com/example/stochastic_ray_tracer/stochasticraytracer/Vec3 -/
def k2 : Class := { plain "com/example/stochastic_ray_tracer/stochasticraytracer/Vec3" (some 0) with
  accessFlags := 32
  interfaces := #[]
  cf := some (fileOf pool2 8 #[] #[{ accessFlags := 0, nameIndex := 5, descriptorIndex := 36, attributes := #[] }, { accessFlags := 0, nameIndex := 11, descriptorIndex := 51, attributes := #[] }, { accessFlags := 0, nameIndex := 15, descriptorIndex := 51, attributes := #[] }, { accessFlags := 0, nameIndex := 18, descriptorIndex := 51, attributes := #[] }, { accessFlags := 0, nameIndex := 65, descriptorIndex := 64, attributes := #[] }, { accessFlags := 0, nameIndex := 66, descriptorIndex := 64, attributes := #[] }, { accessFlags := 0, nameIndex := 54, descriptorIndex := 55, attributes := #[] }, { accessFlags := 0, nameIndex := 42, descriptorIndex := 43, attributes := #[] }] 32 2 #[] #[{ accessFlags := 18, nameIndex := 11, descriptorIndex := 12, attributes := #[] }, { accessFlags := 18, nameIndex := 15, descriptorIndex := 12, attributes := #[] }, { accessFlags := 18, nameIndex := 18, descriptorIndex := 12, attributes := #[] }])
  fields := #[{ name := "x", type := .double, accessFlags := 18, slot := 0, constantValue := 0 }, { name := "y", type := .double, accessFlags := 18, slot := 1, constantValue := 0 }, { name := "z", type := .double, accessFlags := 18, slot := 2, constantValue := 0 }]
  methods := #[k2m0, k2m1, k2m2, k2m3, k2m4, k2m5, k2m6, k2m7]
  instanceTypes := #[.double, .double, .double]
  staticTypes := #[]
  resolved := Array.replicate 91 none
  statics := none }

def pool3 : Array CpInfo := pool [(1, .methodref 2 3), (0, .class_ 4), (0, .nameAndType 5 6), (0, u "java/lang/Object"), (0, u "<init>"), (0, u "()V"), (0, .methodref 8 9), (0, .class_ 10), (0, .nameAndType 11 12), (0, u "com/example/stochastic_ray_tracer/stochasticraytracer/Vec3"), (0, u "x"), (0, u "()D"), (0, .fieldref 14 15), (0, .class_ 16), (0, .nameAndType 17 18), (0, u "com/example/stochastic_ray_tracer/stochasticraytracer/TextureCoordinates"), (0, u "cornerX"), (0, u "D"), (0, .methodref 8 20), (0, .nameAndType 21 12), (0, u "y"), (0, .fieldref 14 23), (0, .nameAndType 24 18), (0, u "cornerY"), (0, .methodref 8 26), (0, .nameAndType 27 12), (0, u "z"), (0, .fieldref 14 29), (0, .nameAndType 30 18), (0, u "cornerZ"), (0, .fieldref 14 32), (0, .nameAndType 33 18), (0, u "cornerU"), (0, .fieldref 14 35), (0, .nameAndType 36 18), (0, u "cornerV"), (0, .methodref 8 38), (0, .nameAndType 39 40), (0, u "dot"), (0, u "(Lcom/example/stochastic_ray_tracer/stochasticraytracer/Vec3;)D"), (0, .methodref 8 42), (0, .nameAndType 43 44), (0, u "times"), (0, u "(D)Lcom/example/stochastic_ray_tracer/stochasticraytracer/Vec3;"), (0, .methodref 8 46), (0, .nameAndType 47 48), (0, u "minus"), (0, u "(Lcom/example/stochastic_ray_tracer/stochasticraytracer/Vec3;)Lcom/example/stochastic_ray_tracer/stochasticraytracer/Vec3;"), (0, .methodref 8 50), (0, .nameAndType 51 48), (0, u "plus"), (0, .fieldref 14 53), (0, .nameAndType 54 18), (0, u "uGradientX"), (0, .fieldref 14 56), (0, .nameAndType 57 18), (0, u "uGradientY"), (0, .fieldref 14 59), (0, .nameAndType 60 18), (0, u "uGradientZ"), (0, .fieldref 14 62), (0, .nameAndType 63 18), (0, u "vGradientX"), (0, .fieldref 14 65), (0, .nameAndType 66 18), (0, u "vGradientY"), (0, .fieldref 14 68), (0, .nameAndType 69 18), (0, u "vGradientZ"), (0, u "(Lcom/example/stochastic_ray_tracer/stochasticraytracer/Vec3;Lcom/example/stochastic_ray_tracer/stochasticraytracer/Vec3;Lcom/example/stochastic_ray_tracer/stochasticraytracer/Vec3;[D)V"), (2, u "u"), (0, u "(DDD)D")] 3

def k3c0 : Code := { maxStack := 8, maxLocals := 17, code := prog_68_method_1_code, exceptionTable := #[], attributes := #[] }
def k3m0 : Method := { name := "<init>", desc := "(Lcom/example/stochastic_ray_tracer/stochasticraytracer/Vec3;Lcom/example/stochastic_ray_tracer/stochasticraytracer/Vec3;Lcom/example/stochastic_ray_tracer/stochasticraytracer/Vec3;[D)V", sig := { parameters := [(.object "com/example/stochastic_ray_tracer/stochasticraytracer/Vec3"), (.object "com/example/stochastic_ray_tracer/stochasticraytracer/Vec3"), (.object "com/example/stochastic_ray_tracer/stochasticraytracer/Vec3"), (.array .double)], returnType := none }, accessFlags := 0, code := some k3c0 }
def k3c1 : Code := { maxStack := 6, maxLocals := 7, code := prog_68_method_2_code, exceptionTable := #[], attributes := #[] }
def k3m1 : Method := { name := "u", desc := "(DDD)D", sig := { parameters := [.double, .double, .double], returnType := some .double }, accessFlags := 0, code := some k3c1 }
/-- com/example/stochastic_ray_tracer/stochasticraytracer/TextureCoordinates -/
def k3 : Class := { plain "com/example/stochastic_ray_tracer/stochasticraytracer/TextureCoordinates" (some 0) with
  accessFlags := 32
  interfaces := #[]
  cf := some (fileOf pool3 14 #[] #[{ accessFlags := 0, nameIndex := 5, descriptorIndex := 70, attributes := #[] }, { accessFlags := 0, nameIndex := 73, descriptorIndex := 74, attributes := #[] }] 32 2 #[] #[{ accessFlags := 18, nameIndex := 17, descriptorIndex := 18, attributes := #[] }, { accessFlags := 18, nameIndex := 24, descriptorIndex := 18, attributes := #[] }, { accessFlags := 18, nameIndex := 30, descriptorIndex := 18, attributes := #[] }, { accessFlags := 18, nameIndex := 33, descriptorIndex := 18, attributes := #[] }, { accessFlags := 18, nameIndex := 36, descriptorIndex := 18, attributes := #[] }, { accessFlags := 18, nameIndex := 54, descriptorIndex := 18, attributes := #[] }, { accessFlags := 18, nameIndex := 57, descriptorIndex := 18, attributes := #[] }, { accessFlags := 18, nameIndex := 60, descriptorIndex := 18, attributes := #[] }, { accessFlags := 18, nameIndex := 63, descriptorIndex := 18, attributes := #[] }, { accessFlags := 18, nameIndex := 66, descriptorIndex := 18, attributes := #[] }, { accessFlags := 18, nameIndex := 69, descriptorIndex := 18, attributes := #[] }])
  fields := #[{ name := "cornerX", type := .double, accessFlags := 18, slot := 0, constantValue := 0 }, { name := "cornerY", type := .double, accessFlags := 18, slot := 1, constantValue := 0 }, { name := "cornerZ", type := .double, accessFlags := 18, slot := 2, constantValue := 0 }, { name := "cornerU", type := .double, accessFlags := 18, slot := 3, constantValue := 0 }, { name := "cornerV", type := .double, accessFlags := 18, slot := 4, constantValue := 0 }, { name := "uGradientX", type := .double, accessFlags := 18, slot := 5, constantValue := 0 }, { name := "uGradientY", type := .double, accessFlags := 18, slot := 6, constantValue := 0 }, { name := "uGradientZ", type := .double, accessFlags := 18, slot := 7, constantValue := 0 }, { name := "vGradientX", type := .double, accessFlags := 18, slot := 8, constantValue := 0 }, { name := "vGradientY", type := .double, accessFlags := 18, slot := 9, constantValue := 0 }, { name := "vGradientZ", type := .double, accessFlags := 18, slot := 10, constantValue := 0 }]
  methods := #[k3m0, k3m1]
  instanceTypes := #[.double, .double, .double, .double, .double, .double, .double, .double, .double, .double, .double]
  staticTypes := #[]
  resolved := Array.replicate 78 none
  statics := none }

def pool4 : Array CpInfo := pool [(1, u "java/lang/Cloneable"), (0, .class_ 1), (0, u "java/lang/Object"), (0, .class_ 3)] 3

/-- java/lang/Cloneable -/
def k4 : Class := { plain "java/lang/Cloneable" (some 0) with
  accessFlags := 1537
  interfaces := #[]
  cf := some (fileOf pool4 2 #[] #[] 1537 4 #[] #[])
  fields := #[]
  methods := #[]
  instanceTypes := #[]
  staticTypes := #[]
  resolved := Array.replicate 8 none
  statics := none }

def pool5 : Array CpInfo := pool [(1, u "java/io/Serializable"), (0, .class_ 1), (0, u "java/lang/Object"), (0, .class_ 3)] 3

/-- java/io/Serializable -/
def k5 : Class := { plain "java/io/Serializable" (some 0) with
  accessFlags := 1537
  interfaces := #[]
  cf := some (fileOf pool5 2 #[] #[] 1537 4 #[] #[])
  fields := #[]
  methods := #[]
  instanceTypes := #[]
  staticTypes := #[]
  resolved := Array.replicate 8 none
  statics := none }

/-- the primitive byte -/
def k6 : Class := { plain "byte" none with kind := .primitive 'B', accessFlags := 0x411 }
/-- [B -/
def k7 : Class := { plain "[B" (some 0) with kind := .array 6 .byte, interfaces := #[4, 5], accessFlags := 1041 }

/-- the primitive double -/
def k8 : Class := { plain "double" none with kind := .primitive 'D', accessFlags := 0x411 }
/-- [D -/
def k9 : Class := { plain "[D" (some 0) with kind := .array 8 .double, interfaces := #[4, 5], accessFlags := 1041 }

/-- the primitive int -/
def k10 : Class := { plain "int" none with kind := .primitive 'I', accessFlags := 0x411 }
/-- [I -/
def k11 : Class := { plain "[I" (some 0) with kind := .array 10 .int, interfaces := #[4, 5], accessFlags := 1041 }

def heap : Heap := #[]
def classes : Array Class := #[k0, k1, k2, k3, k4, k5, k6, k7, k8, k9, k10, k11]
def interned : List (Array UInt16 × Addr) := []
def slotsUsed : Nat := 0
def theMethod : MethodId := ⟨1, 1⟩
def args0 : Array Value := #[.long 5, .int 5, .long 5, .long 5, .int 5, .long 5]
def aboutOver (below : List Frame) : State where
  vm := { classes := classes, interned := interned.toArray }
  heap := heap
  slotsUsed := slotsUsed
  threads := #[{ frames := .invoking theMethod args0 :: below }]
def below0 : List Frame := [.native { method := ⟨0, 0⟩, args := #[] }]
def about1 : State := aboutOver below0
def p0 : Program := .bare "" "" ""
def e0 : Env := launch0.env 0 0 0
theorem w_frames : about1.frames = Frame.invoking theMethod args0 :: below0 := rfl
set_option maxRecDepth 65536 in
theorem w_args : argsFit about1.vm theMethod args0 = true := by decide +kernel
set_option maxRecDepth 65536 in
theorem w_heap : heapFits about1 = true := by decide +kernel
set_option maxRecDepth 65536 in
theorem w_runnable : about1.curStatus? = some .runnable := by decide +kernel
set_option maxRecDepth 65536 in
theorem w_alone : about1.alone = true := by decide +kernel
set_option maxRecDepth 65536 in
theorem w_named : about1.methodNamed? x = some theMethod := by decide +kernel
set_option maxRecDepth 65536 in
theorem w_hears : about1.hears theMethod below0 = true := by decide +kernel
set_option maxRecDepth 65536 in
theorem w_ripe : about1.ripe theMethod args0 below0 = true := by decide +kernel
theorem w_running : about1.status = .running := rfl
set_option maxRecDepth 65536 in
theorem w_room : about1.hasRoom e0.platform room_1 = true :=
  launch0.hasRoom_least _ room_1 (by decide +kernel) (by decide +kernel) (by decide +kernel) (by decide +kernel) (by decide +kernel) (by decide +kernel)
theorem allAtoms_all (ts : List Jvm.Cond) (a : Array Jvm.Value) (st : Jvm.State) : (allAtoms ts).before a st = ts.all (fun c => c.before a st) := by
  induction ts with
  | nil => rfl
  | cons c t ih =>
    show (Jvm.Cond.and c (allAtoms t)).before a st = _
    rw [Jvm.Cond.before_and, ih, List.all_cons]
def words1 : List Jvm.Cond := Jvm.Cond.code x code maxLocals ret :: tables_1
/-- a 'code' word, met by the world's own term for the bytes: nothing is compared byte by byte -/
theorem code_word {y : MethodName} {bytes : ByteArray} {mx : Nat} {rt : Option FieldType} {a : Array Value} {s : State} {m : MethodId} {meth : Method} {c : Code} (h1 : s.methodNamed? y = some m) (h2 : s.vm.method? m = some meth) (h3 : meth.code = some c) (h4 : c.code = bytes)
    (h5 : (c.maxLocals == mx && c.exceptionTable.isEmpty && decide (c.maxStack ≤ mostOperands) && decide (meth.sig.returnType = rt) && !meth.locks && decide (parseMethodDescriptor y.desc = some meth.sig)) = true) : (Jvm.Cond.code y bytes mx rt).before a s = true := by
  simp only [Bool.and_eq_true, beq_iff_eq, Bool.not_eq_true', decide_eq_true_eq] at h5
  obtain ⟨⟨⟨⟨⟨g1, g2⟩, g3⟩, g4⟩, g5⟩, g6⟩ := h5
  simp [Cond.before, Cond.holds, Cond.value, h1, h2, h3, h4, g1, g2, g3, g4, g5, g6]
def isCode : Jvm.Cond → Bool
  | .code _ _ _ _ => true
  | _ => false
theorem all_split {L : List Jvm.Cond} {P : Jvm.Cond → Bool} (h1 : L.all (fun c => isCode c || P c) = true) (h2 : ∀ c ∈ L.filter isCode, P c = true) : L.all P = true := by
  refine List.all_eq_true.mpr fun c hc => ?_
  have h := List.all_eq_true.mp h1 c hc
  rcases Bool.eq_false_or_eq_true (isCode c) with hi | hi
  · exact h2 c (List.mem_filter.mpr ⟨hc, hi⟩)
  · simpa [hi] using h
set_option maxRecDepth 65536 in
theorem w_c0 : (Jvm.Cond.code x code maxLocals ret).before args0 about1 = true := code_word (m := ⟨1, 1⟩) (meth := k1m1) (c := k1c1) (by decide +kernel) rfl rfl rfl (by decide +kernel)
set_option maxRecDepth 65536 in
theorem w_c1 : (Jvm.Cond.code ({ cls := "com/example/stochastic_ray_tracer/stochasticraytracer/TextureCoordinatesUPinLaw", name := "place", desc := "(IIDDD)[D" } : Jvm.MethodName) method_3_code (9 : Nat) (Option.some (Jvm.ClassFile.FieldType.array Jvm.ClassFile.FieldType.double))).before args0 about1 = true := code_word (m := ⟨1, 2⟩) (meth := k1m2) (c := k1c2) (by decide +kernel) rfl rfl rfl (by decide +kernel)
set_option maxRecDepth 65536 in
theorem w_c2 : (Jvm.Cond.code ({ cls := "com/example/stochastic_ray_tracer/stochasticraytracer/Vec3", name := "<init>", desc := "(DDD)V" } : Jvm.MethodName) prog_72_method_1_code (7 : Nat) (Option.none : Option Jvm.ClassFile.FieldType)).before args0 about1 = true := code_word (m := ⟨2, 0⟩) (meth := k2m0) (c := k2c0) (by decide +kernel) rfl rfl rfl (by decide +kernel)
set_option maxRecDepth 65536 in
theorem w_c3 : (Jvm.Cond.code ({ cls := "java/lang/Object", name := "<init>", desc := "()V" } : Jvm.MethodName) object_method_1_code (1 : Nat) (Option.none : Option Jvm.ClassFile.FieldType)).before args0 about1 = true := code_word (m := ⟨0, 0⟩) (meth := k0m0) (c := k0c0) (by decide +kernel) rfl rfl rfl (by decide +kernel)
set_option maxRecDepth 65536 in
theorem w_c4 : (Jvm.Cond.code ({ cls := "com/example/stochastic_ray_tracer/stochasticraytracer/TextureCoordinates", name := "<init>", desc := "(Lcom/example/stochastic_ray_tracer/stochasticraytracer/Vec3;Lcom/example/stochastic_ray_tracer/stochasticraytracer/Vec3;Lcom/example/stochastic_ray_tracer/stochasticraytracer/Vec3;[D)V" } : Jvm.MethodName) prog_68_method_1_code (17 : Nat) (Option.none : Option Jvm.ClassFile.FieldType)).before args0 about1 = true := code_word (m := ⟨3, 0⟩) (meth := k3m0) (c := k3c0) (by decide +kernel) rfl rfl rfl (by decide +kernel)
set_option maxRecDepth 65536 in
theorem w_c5 : (Jvm.Cond.code ({ cls := "com/example/stochastic_ray_tracer/stochasticraytracer/Vec3", name := "x", desc := "()D" } : Jvm.MethodName) prog_72_method_2_code (1 : Nat) (Option.some Jvm.ClassFile.FieldType.double)).before args0 about1 = true := code_word (m := ⟨2, 1⟩) (meth := k2m1) (c := k2c1) (by decide +kernel) rfl rfl rfl (by decide +kernel)
set_option maxRecDepth 65536 in
theorem w_c6 : (Jvm.Cond.code ({ cls := "com/example/stochastic_ray_tracer/stochasticraytracer/Vec3", name := "y", desc := "()D" } : Jvm.MethodName) prog_72_method_3_code (1 : Nat) (Option.some Jvm.ClassFile.FieldType.double)).before args0 about1 = true := code_word (m := ⟨2, 2⟩) (meth := k2m2) (c := k2c2) (by decide +kernel) rfl rfl rfl (by decide +kernel)
set_option maxRecDepth 65536 in
theorem w_c7 : (Jvm.Cond.code ({ cls := "com/example/stochastic_ray_tracer/stochasticraytracer/Vec3", name := "z", desc := "()D" } : Jvm.MethodName) prog_72_method_4_code (1 : Nat) (Option.some Jvm.ClassFile.FieldType.double)).before args0 about1 = true := code_word (m := ⟨2, 3⟩) (meth := k2m3) (c := k2c3) (by decide +kernel) rfl rfl rfl (by decide +kernel)
set_option maxRecDepth 65536 in
theorem w_c8 : (Jvm.Cond.code ({ cls := "com/example/stochastic_ray_tracer/stochasticraytracer/Vec3", name := "dot", desc := "(Lcom/example/stochastic_ray_tracer/stochasticraytracer/Vec3;)D" } : Jvm.MethodName) prog_72_method_11_code (2 : Nat) (Option.some Jvm.ClassFile.FieldType.double)).before args0 about1 = true := code_word (m := ⟨2, 7⟩) (meth := k2m7) (c := k2c7) (by decide +kernel) rfl rfl rfl (by decide +kernel)
set_option maxRecDepth 65536 in
theorem w_c9 : (Jvm.Cond.code ({ cls := "com/example/stochastic_ray_tracer/stochasticraytracer/Vec3", name := "times", desc := "(D)Lcom/example/stochastic_ray_tracer/stochasticraytracer/Vec3;" } : Jvm.MethodName) prog_72_method_10_code (3 : Nat) (Option.some (Jvm.ClassFile.FieldType.object "com/example/stochastic_ray_tracer/stochasticraytracer/Vec3"))).before args0 about1 = true := code_word (m := ⟨2, 6⟩) (meth := k2m6) (c := k2c6) (by decide +kernel) rfl rfl rfl (by decide +kernel)
set_option maxRecDepth 65536 in
theorem w_c10 : (Jvm.Cond.code ({ cls := "com/example/stochastic_ray_tracer/stochasticraytracer/Vec3", name := "minus", desc := "(Lcom/example/stochastic_ray_tracer/stochasticraytracer/Vec3;)Lcom/example/stochastic_ray_tracer/stochasticraytracer/Vec3;" } : Jvm.MethodName) prog_72_method_9_code (2 : Nat) (Option.some (Jvm.ClassFile.FieldType.object "com/example/stochastic_ray_tracer/stochasticraytracer/Vec3"))).before args0 about1 = true := code_word (m := ⟨2, 5⟩) (meth := k2m5) (c := k2c5) (by decide +kernel) rfl rfl rfl (by decide +kernel)
set_option maxRecDepth 65536 in
theorem w_c11 : (Jvm.Cond.code ({ cls := "com/example/stochastic_ray_tracer/stochasticraytracer/Vec3", name := "plus", desc := "(Lcom/example/stochastic_ray_tracer/stochasticraytracer/Vec3;)Lcom/example/stochastic_ray_tracer/stochasticraytracer/Vec3;" } : Jvm.MethodName) prog_72_method_8_code (2 : Nat) (Option.some (Jvm.ClassFile.FieldType.object "com/example/stochastic_ray_tracer/stochasticraytracer/Vec3"))).before args0 about1 = true := code_word (m := ⟨2, 4⟩) (meth := k2m4) (c := k2c4) (by decide +kernel) rfl rfl rfl (by decide +kernel)
set_option maxRecDepth 65536 in
theorem w_c12 : (Jvm.Cond.code ({ cls := "com/example/stochastic_ray_tracer/stochasticraytracer/TextureCoordinates", name := "u", desc := "(DDD)D" } : Jvm.MethodName) prog_68_method_2_code (7 : Nat) (Option.some Jvm.ClassFile.FieldType.double)).before args0 about1 = true := code_word (m := ⟨3, 1⟩) (meth := k3m1) (c := k3c1) (by decide +kernel) rfl rfl rfl (by decide +kernel)
def codes1 : List Jvm.Cond := [Jvm.Cond.code x code maxLocals ret, Jvm.Cond.code ({ cls := "com/example/stochastic_ray_tracer/stochasticraytracer/TextureCoordinatesUPinLaw", name := "place", desc := "(IIDDD)[D" } : Jvm.MethodName) method_3_code (9 : Nat) (Option.some (Jvm.ClassFile.FieldType.array Jvm.ClassFile.FieldType.double)), Jvm.Cond.code ({ cls := "com/example/stochastic_ray_tracer/stochasticraytracer/Vec3", name := "<init>", desc := "(DDD)V" } : Jvm.MethodName) prog_72_method_1_code (7 : Nat) (Option.none : Option Jvm.ClassFile.FieldType), Jvm.Cond.code ({ cls := "java/lang/Object", name := "<init>", desc := "()V" } : Jvm.MethodName) object_method_1_code (1 : Nat) (Option.none : Option Jvm.ClassFile.FieldType), Jvm.Cond.code ({ cls := "com/example/stochastic_ray_tracer/stochasticraytracer/TextureCoordinates", name := "<init>", desc := "(Lcom/example/stochastic_ray_tracer/stochasticraytracer/Vec3;Lcom/example/stochastic_ray_tracer/stochasticraytracer/Vec3;Lcom/example/stochastic_ray_tracer/stochasticraytracer/Vec3;[D)V" } : Jvm.MethodName) prog_68_method_1_code (17 : Nat) (Option.none : Option Jvm.ClassFile.FieldType), Jvm.Cond.code ({ cls := "com/example/stochastic_ray_tracer/stochasticraytracer/Vec3", name := "x", desc := "()D" } : Jvm.MethodName) prog_72_method_2_code (1 : Nat) (Option.some Jvm.ClassFile.FieldType.double), Jvm.Cond.code ({ cls := "com/example/stochastic_ray_tracer/stochasticraytracer/Vec3", name := "y", desc := "()D" } : Jvm.MethodName) prog_72_method_3_code (1 : Nat) (Option.some Jvm.ClassFile.FieldType.double), Jvm.Cond.code ({ cls := "com/example/stochastic_ray_tracer/stochasticraytracer/Vec3", name := "z", desc := "()D" } : Jvm.MethodName) prog_72_method_4_code (1 : Nat) (Option.some Jvm.ClassFile.FieldType.double), Jvm.Cond.code ({ cls := "com/example/stochastic_ray_tracer/stochasticraytracer/Vec3", name := "dot", desc := "(Lcom/example/stochastic_ray_tracer/stochasticraytracer/Vec3;)D" } : Jvm.MethodName) prog_72_method_11_code (2 : Nat) (Option.some Jvm.ClassFile.FieldType.double), Jvm.Cond.code ({ cls := "com/example/stochastic_ray_tracer/stochasticraytracer/Vec3", name := "times", desc := "(D)Lcom/example/stochastic_ray_tracer/stochasticraytracer/Vec3;" } : Jvm.MethodName) prog_72_method_10_code (3 : Nat) (Option.some (Jvm.ClassFile.FieldType.object "com/example/stochastic_ray_tracer/stochasticraytracer/Vec3")), Jvm.Cond.code ({ cls := "com/example/stochastic_ray_tracer/stochasticraytracer/Vec3", name := "minus", desc := "(Lcom/example/stochastic_ray_tracer/stochasticraytracer/Vec3;)Lcom/example/stochastic_ray_tracer/stochasticraytracer/Vec3;" } : Jvm.MethodName) prog_72_method_9_code (2 : Nat) (Option.some (Jvm.ClassFile.FieldType.object "com/example/stochastic_ray_tracer/stochasticraytracer/Vec3")), Jvm.Cond.code ({ cls := "com/example/stochastic_ray_tracer/stochasticraytracer/Vec3", name := "plus", desc := "(Lcom/example/stochastic_ray_tracer/stochasticraytracer/Vec3;)Lcom/example/stochastic_ray_tracer/stochasticraytracer/Vec3;" } : Jvm.MethodName) prog_72_method_8_code (2 : Nat) (Option.some (Jvm.ClassFile.FieldType.object "com/example/stochastic_ray_tracer/stochasticraytracer/Vec3")), Jvm.Cond.code ({ cls := "com/example/stochastic_ray_tracer/stochasticraytracer/TextureCoordinates", name := "u", desc := "(DDD)D" } : Jvm.MethodName) prog_68_method_2_code (7 : Nat) (Option.some Jvm.ClassFile.FieldType.double)]
set_option maxRecDepth 65536 in
theorem codes_eq : words1.filter isCode = codes1 := rfl
theorem w_codes : ∀ c ∈ words1.filter isCode, c.before args0 about1 = true := by
  rw [codes_eq]
  intro c hc
  simp only [codes1, List.mem_cons, List.not_mem_nil, or_false] at hc
  rcases hc with rfl | rfl | rfl | rfl | rfl | rfl | rfl | rfl | rfl | rfl | rfl | rfl | rfl
  · exact w_c0
  · exact w_c1
  · exact w_c2
  · exact w_c3
  · exact w_c4
  · exact w_c5
  · exact w_c6
  · exact w_c7
  · exact w_c8
  · exact w_c9
  · exact w_c10
  · exact w_c11
  · exact w_c12
set_option maxRecDepth 65536 in
theorem w_t1 : (words1.take 24).all (fun c => isCode c || c.before args0 about1) = true := by decide +kernel
set_option maxRecDepth 65536 in
theorem w_t2 : ((words1.drop 24).take 24).all (fun c => isCode c || c.before args0 about1) = true := by decide +kernel
set_option maxRecDepth 65536 in
theorem w_t3 : (((words1.drop 24).drop 24).take 24).all (fun c => isCode c || c.before args0 about1) = true := by decide +kernel
set_option maxRecDepth 65536 in
theorem w_t4 : (((words1.drop 24).drop 24).drop 24).all (fun c => isCode c || c.before args0 about1) = true := by decide +kernel
theorem w_tables : (allAtoms (Jvm.Cond.code x code maxLocals ret :: tables_1)).before args0 about1 = true := by
  rw [allAtoms_all]
  show words1.all (fun c => c.before args0 about1) = true
  refine all_split ?_ w_codes
  rw [← List.take_append_drop 24 words1, List.all_append, w_t1, ← List.take_append_drop 24 (words1.drop 24), List.all_append, w_t2, ← List.take_append_drop 24 ((words1.drop 24).drop 24), List.all_append, w_t3, w_t4]
  rfl
set_option maxRecDepth 65536 in
theorem w_case : (Jvm.Cond.and given_1 narrow_1).before args0 about1 = true := by decide +kernel
theorem w_applies : (headSpec (Jvm.Cond.code x code maxLocals ret :: tables_1) room_1).applies x e0.platform about1 = true :=
  (Spec.applies_iff w_frames).mpr ⟨w_running, w_runnable, w_alone, w_named, w_hears, w_ripe, w_room, w_tables⟩
theorem atStart : AtStart classFile x code maxLocals ret World_1 tables_1 room_1 Calls_1 rest_1 Pre_1 launch0 p0 e0 about1 theMethod args0 below0 :=
  ⟨lists_1, trivial, launch0.admits_env _ _ _, launch0.least_env, fairChoices_fair.cas, fairChoices_fair.clock, w_frames, w_args, w_heap, w_applies, trivial, trivial, w_case⟩
end start1
theorem witness_1 : WitnessClaimed_1 := ⟨start1.p0, start1.e0, start1.about1, start1.theMethod, start1.args0, start1.below0, start1.atStart⟩
end Jvm.Pilot.@@N@@
