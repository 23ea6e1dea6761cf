import JvmDerived
import JvmDerived.Pilot.@@N@@Statement
import JvmDerived.Pilot.@@N@@Code
set_option linter.unusedVariables false
set_option linter.unusedSimpArgs false
@@BLOCK:NumsL.lean.txt@@
namespace Jvm.Own
open Jvm Jvm.ClassFile Sem Op Lib Jvm.Free Jvm.Stand Jvm.LawKit Jvm.RoadKit
/-- from A the run comes to the invocation's end, where P holds -/
def Go (p : Program) (e : Env) (below : List Frame) (P : Outcome → State → Prop) (A : State) : Prop := ∃ s₂ o, Steps p.tables e below A s₂ ∧ s₂.status = .running ∧ Ended s₂ below o ∧ P o s₂
def Gf (p : Program) (e : Env) (below : List Frame) (P : Outcome → State → Prop) (T : State) (m : MethodId) (pc : Nat) (Ls : Array Slot) (st : List Value) : Prop := Go p e below P (T.setTop (mkF m pc Ls st))
theorem Go.step {p : Program} {e : Env} {below : List Frame} {P : Outcome → State → Prop} {A B : State} (h : ∀ t, Steps p.tables e below B t → Steps p.tables e below A t) (g : Go p e below P B) : Go p e below P A := by
  obtain ⟨s2, o, h1, h2⟩ := g
  exact ⟨s2, o, h _ h1, h2⟩
section Steps1
variable {p : Program} {l : Launch} {e : Env} {R : Room} {s : State} {m : MethodId} {args : Array Value} {below : List Frame} {meth : Method} {c : Code} {T : State} {locs : List Loc} {cells slots : Nat} {P : Outcome → State → Prop} {code : ByteArray} {pc pc' : Nat} {Ls Ls' : Array Slot} {st st' : List Value}
theorem g_iloadN (X : Stand p l e R s m args below meth c T locs cells slots) (hx : p.tables.exec = Jvm.exec) (hby : c.code = code) {k : Fin 4} {v : Int32} (hd : decode code pc = .ok (.iload_n k, 1)) (hl : Ls[k.val]? = some (.val (.int v))) (hp : pc + 1 = pc') (g : Gf p e below P T m pc' Ls (.int v :: st)) : Gf p e below P T m pc Ls st := by
  subst hp
  exact Go.step (fun t k => XS.iloadN X.here hx rfl (hb hby hd) hl k) g
theorem g_iload (X : Stand p l e R s m args below meth c T locs cells slots) (hx : p.tables.exec = Jvm.exec) (hby : c.code = code) {k : Nat} {v : Int32} (hd : decode code pc = .ok (.iload k, 2)) (hl : Ls[k]? = some (.val (.int v))) (hp : pc + 2 = pc') (g : Gf p e below P T m pc' Ls (.int v :: st)) : Gf p e below P T m pc Ls st := by
  subst hp
  exact Go.step (fun t k => XS.iload X.here hx rfl (hb hby hd) hl k) g
theorem g_istoreN (X : Stand p l e R s m args below meth c T locs cells slots) (hx : p.tables.exec = Jvm.exec) (hby : c.code = code) {k : Fin 4} {v : Int32} (hd : decode code pc = .ok (.istore_n k, 1)) (hst : st = .int v :: st') (hl : storeLocals Ls k.val (.int v) = some Ls') (hp : pc + 1 = pc') (g : Gf p e below P T m pc' Ls' st') : Gf p e below P T m pc Ls st := by
  subst hp hst
  exact Go.step (fun t k => XS.istoreN X.here hx rfl (hb hby hd) rfl hl k) g
theorem g_istore (X : Stand p l e R s m args below meth c T locs cells slots) (hx : p.tables.exec = Jvm.exec) (hby : c.code = code) {k : Nat} {v : Int32} (hd : decode code pc = .ok (.istore k, 2)) (hst : st = .int v :: st') (hl : storeLocals Ls k (.int v) = some Ls') (hp : pc + 2 = pc') (g : Gf p e below P T m pc' Ls' st') : Gf p e below P T m pc Ls st := by
  subst hp hst
  exact Go.step (fun t k => XS.istore X.here hx rfl (hb hby hd) rfl hl k) g
theorem g_lloadN (X : Stand p l e R s m args below meth c T locs cells slots) (hx : p.tables.exec = Jvm.exec) (hby : c.code = code) {k : Fin 4} {v : Int64} (hd : decode code pc = .ok (.lload_n k, 1)) (hl : Ls[k.val]? = some (.val (.long v))) (hp : pc + 1 = pc') (g : Gf p e below P T m pc' Ls (.long v :: st)) : Gf p e below P T m pc Ls st := by
  subst hp
  exact Go.step (fun t k => XS.lloadN X.here hx rfl (hb hby hd) hl k) g
theorem g_lload (X : Stand p l e R s m args below meth c T locs cells slots) (hx : p.tables.exec = Jvm.exec) (hby : c.code = code) {k : Nat} {v : Int64} (hd : decode code pc = .ok (.lload k, 2)) (hl : Ls[k]? = some (.val (.long v))) (hp : pc + 2 = pc') (g : Gf p e below P T m pc' Ls (.long v :: st)) : Gf p e below P T m pc Ls st := by
  subst hp
  exact Go.step (fun t k => XS.lload X.here hx rfl (hb hby hd) hl k) g
theorem g_lstoreN (X : Stand p l e R s m args below meth c T locs cells slots) (hx : p.tables.exec = Jvm.exec) (hby : c.code = code) {k : Fin 4} {v : Int64} (hd : decode code pc = .ok (.lstore_n k, 1)) (hst : st = .long v :: st') (hl : storeLocals Ls k.val (.long v) = some Ls') (hp : pc + 1 = pc') (g : Gf p e below P T m pc' Ls' st') : Gf p e below P T m pc Ls st := by
  subst hp hst
  exact Go.step (fun t k => XS.lstoreN X.here hx rfl (hb hby hd) rfl hl k) g
theorem g_lstore (X : Stand p l e R s m args below meth c T locs cells slots) (hx : p.tables.exec = Jvm.exec) (hby : c.code = code) {k : Nat} {v : Int64} (hd : decode code pc = .ok (.lstore k, 2)) (hst : st = .long v :: st') (hl : storeLocals Ls k (.long v) = some Ls') (hp : pc + 2 = pc') (g : Gf p e below P T m pc' Ls' st') : Gf p e below P T m pc Ls st := by
  subst hp hst
  exact Go.step (fun t k => XS.lstore X.here hx rfl (hb hby hd) rfl hl k) g
theorem g_dloadN (X : Stand p l e R s m args below meth c T locs cells slots) (hx : p.tables.exec = Jvm.exec) (hby : c.code = code) {k : Fin 4} {v : UInt64} (hd : decode code pc = .ok (.dload_n k, 1)) (hl : Ls[k.val]? = some (.val (.double v))) (hp : pc + 1 = pc') (g : Gf p e below P T m pc' Ls (.double v :: st)) : Gf p e below P T m pc Ls st := by
  subst hp
  exact Go.step (fun t k => XS.dloadN X.here hx rfl (hb hby hd) hl k) g
theorem g_dload (X : Stand p l e R s m args below meth c T locs cells slots) (hx : p.tables.exec = Jvm.exec) (hby : c.code = code) {k : Nat} {v : UInt64} (hd : decode code pc = .ok (.dload k, 2)) (hl : Ls[k]? = some (.val (.double v))) (hp : pc + 2 = pc') (g : Gf p e below P T m pc' Ls (.double v :: st)) : Gf p e below P T m pc Ls st := by
  subst hp
  exact Go.step (fun t k => XS.dload X.here hx rfl (hb hby hd) hl k) g
theorem g_dstoreN (X : Stand p l e R s m args below meth c T locs cells slots) (hx : p.tables.exec = Jvm.exec) (hby : c.code = code) {k : Fin 4} {v : UInt64} (hd : decode code pc = .ok (.dstore_n k, 1)) (hst : st = .double v :: st') (hl : storeLocals Ls k.val (.double v) = some Ls') (hp : pc + 1 = pc') (g : Gf p e below P T m pc' Ls' st') : Gf p e below P T m pc Ls st := by
  subst hp hst
  exact Go.step (fun t k => XS.dstoreN X.here hx rfl (hb hby hd) rfl hl k) g
theorem g_dstore (X : Stand p l e R s m args below meth c T locs cells slots) (hx : p.tables.exec = Jvm.exec) (hby : c.code = code) {k : Nat} {v : UInt64} (hd : decode code pc = .ok (.dstore k, 2)) (hst : st = .double v :: st') (hl : storeLocals Ls k (.double v) = some Ls') (hp : pc + 2 = pc') (g : Gf p e below P T m pc' Ls' st') : Gf p e below P T m pc Ls st := by
  subst hp hst
  exact Go.step (fun t k => XS.dstore X.here hx rfl (hb hby hd) rfl hl k) g
theorem g_aloadN (X : Stand p l e R s m args below meth c T locs cells slots) (hx : p.tables.exec = Jvm.exec) (hby : c.code = code) {k : Fin 4} {v : Value} (hd : decode code pc = .ok (.aload_n k, 1)) (hl : Ls[k.val]? = some (.val v)) (hv : v.isRef = true) (hp : pc + 1 = pc') (g : Gf p e below P T m pc' Ls (v :: st)) : Gf p e below P T m pc Ls st := by
  subst hp
  exact Go.step (fun t k => XS.aloadN X.here hx rfl (hb hby hd) hl hv k) g
theorem g_aload (X : Stand p l e R s m args below meth c T locs cells slots) (hx : p.tables.exec = Jvm.exec) (hby : c.code = code) {k : Nat} {v : Value} (hd : decode code pc = .ok (.aload k, 2)) (hl : Ls[k]? = some (.val v)) (hv : v.isRef = true) (hp : pc + 2 = pc') (g : Gf p e below P T m pc' Ls (v :: st)) : Gf p e below P T m pc Ls st := by
  subst hp
  exact Go.step (fun t k => XS.aload X.here hx rfl (hb hby hd) hl hv k) g
theorem g_astoreN (X : Stand p l e R s m args below meth c T locs cells slots) (hx : p.tables.exec = Jvm.exec) (hby : c.code = code) {k : Fin 4} {v : Value} (hd : decode code pc = .ok (.astore_n k, 1)) (hst : st = v :: st') (hv : v.isRef = true) (hl : storeLocals Ls k.val v = some Ls') (hp : pc + 1 = pc') (g : Gf p e below P T m pc' Ls' st') : Gf p e below P T m pc Ls st := by
  subst hp hst
  exact Go.step (fun t k => XS.astoreN X.here hx rfl (hb hby hd) rfl hv hl k) g
theorem g_astore (X : Stand p l e R s m args below meth c T locs cells slots) (hx : p.tables.exec = Jvm.exec) (hby : c.code = code) {k : Nat} {v : Value} (hd : decode code pc = .ok (.astore k, 2)) (hst : st = v :: st') (hv : v.isRef = true) (hl : storeLocals Ls k v = some Ls') (hp : pc + 2 = pc') (g : Gf p e below P T m pc' Ls' st') : Gf p e below P T m pc Ls st := by
  subst hp hst
  exact Go.step (fun t k => XS.astore X.here hx rfl (hb hby hd) rfl hv hl k) g
theorem g_iconst (X : Stand p l e R s m args below meth c T locs cells slots) (hx : p.tables.exec = Jvm.exec) (hby : c.code = code) {i : Int} {v : Int32} (hd : decode code pc = .ok (.iconst i, 1)) (hv : Int32.ofInt i = v) (hp : pc + 1 = pc') (g : Gf p e below P T m pc' Ls (.int v :: st)) : Gf p e below P T m pc Ls st := by
  subst hp
  exact Go.step (fun t k => XS.iconst X.here hx rfl (hb hby hd) (by subst hv; exact k)) g
theorem g_bipush (X : Stand p l e R s m args below meth c T locs cells slots) (hx : p.tables.exec = Jvm.exec) (hby : c.code = code) {i : Int} {v : Int32} (hd : decode code pc = .ok (.bipush i, 2)) (hv : (Int8.ofInt i).toInt32 = v) (hp : pc + 2 = pc') (g : Gf p e below P T m pc' Ls (.int v :: st)) : Gf p e below P T m pc Ls st := by
  subst hp
  exact Go.step (fun t k => XS.bipush X.here hx rfl (hb hby hd) (by subst hv; exact k)) g
theorem g_sipush (X : Stand p l e R s m args below meth c T locs cells slots) (hx : p.tables.exec = Jvm.exec) (hby : c.code = code) {i : Int} {v : Int32} (hd : decode code pc = .ok (.sipush i, 3)) (hv : (Int16.ofInt i).toInt32 = v) (hp : pc + 3 = pc') (g : Gf p e below P T m pc' Ls (.int v :: st)) : Gf p e below P T m pc Ls st := by
  subst hp
  exact Go.step (fun t k => XS.sipush X.here hx rfl (hb hby hd) (by subst hv; exact k)) g
theorem g_lconst (X : Stand p l e R s m args below meth c T locs cells slots) (hx : p.tables.exec = Jvm.exec) (hby : c.code = code) {i : Fin 2} {v : Int64} (hd : decode code pc = .ok (.lconst i, 1)) (hv : Int64.ofInt i.val = v) (hp : pc + 1 = pc') (g : Gf p e below P T m pc' Ls (.long v :: st)) : Gf p e below P T m pc Ls st := by
  subst hp
  exact Go.step (fun t k => XS.lconst X.here hx rfl (hb hby hd) (by subst hv; exact k)) g
theorem g_dconst0 (X : Stand p l e R s m args below meth c T locs cells slots) (hx : p.tables.exec = Jvm.exec) (hby : c.code = code) {v : UInt64} (hd : decode code pc = .ok (.dconst 0, 1)) (hv : FP.dconst0 = v) (hp : pc + 1 = pc') (g : Gf p e below P T m pc' Ls (.double v :: st)) : Gf p e below P T m pc Ls st := by
  subst hp
  exact Go.step (fun t k => XS.dconst0 X.here hx rfl (hb hby hd) hv k) g
theorem g_dconst1 (X : Stand p l e R s m args below meth c T locs cells slots) (hx : p.tables.exec = Jvm.exec) (hby : c.code = code) {v : UInt64} (hd : decode code pc = .ok (.dconst 1, 1)) (hv : FP.dconst1 = v) (hp : pc + 1 = pc') (g : Gf p e below P T m pc' Ls (.double v :: st)) : Gf p e below P T m pc Ls st := by
  subst hp
  exact Go.step (fun t k => XS.dconst1 X.here hx rfl (hb hby hd) hv k) g
theorem g_aconst_null (X : Stand p l e R s m args below meth c T locs cells slots) (hx : p.tables.exec = Jvm.exec) (hby : c.code = code)  (hd : decode code pc = .ok (.aconst_null, 1)) (hp : pc + 1 = pc') (g : Gf p e below P T m pc' Ls (.null :: st)) : Gf p e below P T m pc Ls st := by
  subst hp
  exact Go.step (fun t k => XS.aconstNull X.here hx rfl (hb hby hd) k) g
theorem g_ldcI (X : Stand p l e R s m args below meth c T locs cells slots) (hx : p.tables.exec = Jvm.exec) (hby : c.code = code) {own : String} {a0 : Array Value} {Z : State} (hZ : Z.Warmed39 s.vm) (hown : s.vm.findClass own = some m.cls) {i : Nat} {v : Int32} (w : (Cond.constant own i v).before a0 Z = true) (hd : decode code pc = .ok (.ldc i, 2)) (hp : pc + 2 = pc') (g : Gf p e below P T m pc' Ls (.int v :: st)) : Gf p e below P T m pc Ls st := by
  subst hp
  exact Go.step (fun t k => X.ldcInt hx hown (mvT hZ w) (g := mkF m pc Ls st) rfl (hb hby hd) t k) g
theorem g_ldcJ (X : Stand p l e R s m args below meth c T locs cells slots) (hx : p.tables.exec = Jvm.exec) (hby : c.code = code) {own : String} {a0 : Array Value} {Z : State} (hZ : Z.Warmed39 s.vm) (hown : s.vm.findClass own = some m.cls) {i : Nat} {v : Int64} (w : (Cond.constantLong own i v).before a0 Z = true) (hd : decode code pc = .ok (.ldc2_w i, 3)) (hp : pc + 3 = pc') (g : Gf p e below P T m pc' Ls (.long v :: st)) : Gf p e below P T m pc Ls st := by
  subst hp
  exact Go.step (fun t k => X.ldc2Long hx hown (mvT hZ w) (g := mkF m pc Ls st) rfl (hb hby hd) t k) g
theorem g_ldcD (X : Stand p l e R s m args below meth c T locs cells slots) (hx : p.tables.exec = Jvm.exec) (hby : c.code = code) {own : String} {a0 : Array Value} {Z : State} (hZ : Z.Warmed39 s.vm) (hown : s.vm.findClass own = some m.cls) {i : Nat} {v : UInt64} (w : (Cond.constantDouble own i v).before a0 Z = true) (hd : decode code pc = .ok (.ldc2_w i, 3)) (hp : pc + 3 = pc') (g : Gf p e below P T m pc' Ls (.double v :: st)) : Gf p e below P T m pc Ls st := by
  subst hp
  exact Go.step (fun t k => X.ldc2DoubleC hx hown (mvT hZ w) (g := mkF m pc Ls st) rfl (hb hby hd) t k) g
theorem g_iadd (X : Stand p l e R s m args below meth c T locs cells slots) (hx : p.tables.exec = Jvm.exec) (hby : c.code = code) {x y v : Int32} (hd : decode code pc = .ok (.iadd, 1)) (hst : st = .int y :: .int x :: st') (hv : x + y = v) (hp : pc + 1 = pc') (g : Gf p e below P T m pc' Ls (.int v :: st')) : Gf p e below P T m pc Ls st := by
  subst hp hst
  exact Go.step (fun t k => XS.iadd X.here hx rfl (hb hby hd) rfl (by subst hv; exact k)) g
theorem g_isub (X : Stand p l e R s m args below meth c T locs cells slots) (hx : p.tables.exec = Jvm.exec) (hby : c.code = code) {x y v : Int32} (hd : decode code pc = .ok (.isub, 1)) (hst : st = .int y :: .int x :: st') (hv : x - y = v) (hp : pc + 1 = pc') (g : Gf p e below P T m pc' Ls (.int v :: st')) : Gf p e below P T m pc Ls st := by
  subst hp hst
  exact Go.step (fun t k => XS.isub X.here hx rfl (hb hby hd) rfl (by subst hv; exact k)) g
theorem g_imul (X : Stand p l e R s m args below meth c T locs cells slots) (hx : p.tables.exec = Jvm.exec) (hby : c.code = code) {x y v : Int32} (hd : decode code pc = .ok (.imul, 1)) (hst : st = .int y :: .int x :: st') (hv : x * y = v) (hp : pc + 1 = pc') (g : Gf p e below P T m pc' Ls (.int v :: st')) : Gf p e below P T m pc Ls st := by
  subst hp hst
  exact Go.step (fun t k => XS.imul X.here hx rfl (hb hby hd) rfl (by subst hv; exact k)) g
theorem g_iand (X : Stand p l e R s m args below meth c T locs cells slots) (hx : p.tables.exec = Jvm.exec) (hby : c.code = code) {x y v : Int32} (hd : decode code pc = .ok (.iand, 1)) (hst : st = .int y :: .int x :: st') (hv : x &&& y = v) (hp : pc + 1 = pc') (g : Gf p e below P T m pc' Ls (.int v :: st')) : Gf p e below P T m pc Ls st := by
  subst hp hst
  exact Go.step (fun t k => XS.iand X.here hx rfl (hb hby hd) rfl (by subst hv; exact k)) g
theorem g_ior (X : Stand p l e R s m args below meth c T locs cells slots) (hx : p.tables.exec = Jvm.exec) (hby : c.code = code) {x y v : Int32} (hd : decode code pc = .ok (.ior, 1)) (hst : st = .int y :: .int x :: st') (hv : x ||| y = v) (hp : pc + 1 = pc') (g : Gf p e below P T m pc' Ls (.int v :: st')) : Gf p e below P T m pc Ls st := by
  subst hp hst
  exact Go.step (fun t k => XS.ior X.here hx rfl (hb hby hd) rfl (by subst hv; exact k)) g
theorem g_ixor (X : Stand p l e R s m args below meth c T locs cells slots) (hx : p.tables.exec = Jvm.exec) (hby : c.code = code) {x y v : Int32} (hd : decode code pc = .ok (.ixor, 1)) (hst : st = .int y :: .int x :: st') (hv : x ^^^ y = v) (hp : pc + 1 = pc') (g : Gf p e below P T m pc' Ls (.int v :: st')) : Gf p e below P T m pc Ls st := by
  subst hp hst
  exact Go.step (fun t k => XS.ixor X.here hx rfl (hb hby hd) rfl (by subst hv; exact k)) g
theorem g_ishl (X : Stand p l e R s m args below meth c T locs cells slots) (hx : p.tables.exec = Jvm.exec) (hby : c.code = code) {x y v : Int32} (hd : decode code pc = .ok (.ishl, 1)) (hst : st = .int y :: .int x :: st') (hv : x <<< (y &&& 31) = v) (hp : pc + 1 = pc') (g : Gf p e below P T m pc' Ls (.int v :: st')) : Gf p e below P T m pc Ls st := by
  subst hp hst
  exact Go.step (fun t k => XS.ishl X.here hx rfl (hb hby hd) rfl (by subst hv; exact k)) g
theorem g_ishr (X : Stand p l e R s m args below meth c T locs cells slots) (hx : p.tables.exec = Jvm.exec) (hby : c.code = code) {x y v : Int32} (hd : decode code pc = .ok (.ishr, 1)) (hst : st = .int y :: .int x :: st') (hv : x >>> (y &&& 31) = v) (hp : pc + 1 = pc') (g : Gf p e below P T m pc' Ls (.int v :: st')) : Gf p e below P T m pc Ls st := by
  subst hp hst
  exact Go.step (fun t k => XS.ishr X.here hx rfl (hb hby hd) rfl (by subst hv; exact k)) g
theorem g_iushr (X : Stand p l e R s m args below meth c T locs cells slots) (hx : p.tables.exec = Jvm.exec) (hby : c.code = code) {x y v : Int32} (hd : decode code pc = .ok (.iushr, 1)) (hst : st = .int y :: .int x :: st') (hv : (x.toUInt32 >>> (y &&& 31).toUInt32).toInt32 = v) (hp : pc + 1 = pc') (g : Gf p e below P T m pc' Ls (.int v :: st')) : Gf p e below P T m pc Ls st := by
  subst hp hst
  exact Go.step (fun t k => XS.iushr X.here hx rfl (hb hby hd) rfl (by subst hv; exact k)) g
theorem g_ladd (X : Stand p l e R s m args below meth c T locs cells slots) (hx : p.tables.exec = Jvm.exec) (hby : c.code = code) {x y v : Int64} (hd : decode code pc = .ok (.ladd, 1)) (hst : st = .long y :: .long x :: st') (hv : x + y = v) (hp : pc + 1 = pc') (g : Gf p e below P T m pc' Ls (.long v :: st')) : Gf p e below P T m pc Ls st := by
  subst hp hst
  exact Go.step (fun t k => XS.ladd X.here hx rfl (hb hby hd) rfl (by subst hv; exact k)) g
theorem g_lsub (X : Stand p l e R s m args below meth c T locs cells slots) (hx : p.tables.exec = Jvm.exec) (hby : c.code = code) {x y v : Int64} (hd : decode code pc = .ok (.lsub, 1)) (hst : st = .long y :: .long x :: st') (hv : x - y = v) (hp : pc + 1 = pc') (g : Gf p e below P T m pc' Ls (.long v :: st')) : Gf p e below P T m pc Ls st := by
  subst hp hst
  exact Go.step (fun t k => XS.lsub X.here hx rfl (hb hby hd) rfl (by subst hv; exact k)) g
theorem g_lmul (X : Stand p l e R s m args below meth c T locs cells slots) (hx : p.tables.exec = Jvm.exec) (hby : c.code = code) {x y v : Int64} (hd : decode code pc = .ok (.lmul, 1)) (hst : st = .long y :: .long x :: st') (hv : x * y = v) (hp : pc + 1 = pc') (g : Gf p e below P T m pc' Ls (.long v :: st')) : Gf p e below P T m pc Ls st := by
  subst hp hst
  exact Go.step (fun t k => XS.lmul X.here hx rfl (hb hby hd) rfl (by subst hv; exact k)) g
theorem g_land (X : Stand p l e R s m args below meth c T locs cells slots) (hx : p.tables.exec = Jvm.exec) (hby : c.code = code) {x y v : Int64} (hd : decode code pc = .ok (.land, 1)) (hst : st = .long y :: .long x :: st') (hv : x &&& y = v) (hp : pc + 1 = pc') (g : Gf p e below P T m pc' Ls (.long v :: st')) : Gf p e below P T m pc Ls st := by
  subst hp hst
  exact Go.step (fun t k => XS.land X.here hx rfl (hb hby hd) rfl (by subst hv; exact k)) g
theorem g_lor (X : Stand p l e R s m args below meth c T locs cells slots) (hx : p.tables.exec = Jvm.exec) (hby : c.code = code) {x y v : Int64} (hd : decode code pc = .ok (.lor, 1)) (hst : st = .long y :: .long x :: st') (hv : x ||| y = v) (hp : pc + 1 = pc') (g : Gf p e below P T m pc' Ls (.long v :: st')) : Gf p e below P T m pc Ls st := by
  subst hp hst
  exact Go.step (fun t k => XS.lor X.here hx rfl (hb hby hd) rfl (by subst hv; exact k)) g
theorem g_lxor (X : Stand p l e R s m args below meth c T locs cells slots) (hx : p.tables.exec = Jvm.exec) (hby : c.code = code) {x y v : Int64} (hd : decode code pc = .ok (.lxor, 1)) (hst : st = .long y :: .long x :: st') (hv : x ^^^ y = v) (hp : pc + 1 = pc') (g : Gf p e below P T m pc' Ls (.long v :: st')) : Gf p e below P T m pc Ls st := by
  subst hp hst
  exact Go.step (fun t k => XS.lxor X.here hx rfl (hb hby hd) rfl (by subst hv; exact k)) g
theorem g_lshl (X : Stand p l e R s m args below meth c T locs cells slots) (hx : p.tables.exec = Jvm.exec) (hby : c.code = code) {x v : Int64} {y : Int32} (hd : decode code pc = .ok (.lshl, 1)) (hst : st = .int y :: .long x :: st') (hv : x <<< (y &&& 0x3f).toInt64 = v) (hp : pc + 1 = pc') (g : Gf p e below P T m pc' Ls (.long v :: st')) : Gf p e below P T m pc Ls st := by
  subst hp hst
  exact Go.step (fun t k => XS.lshl X.here hx rfl (hb hby hd) rfl (by subst hv; exact k)) g
theorem g_lshr (X : Stand p l e R s m args below meth c T locs cells slots) (hx : p.tables.exec = Jvm.exec) (hby : c.code = code) {x v : Int64} {y : Int32} (hd : decode code pc = .ok (.lshr, 1)) (hst : st = .int y :: .long x :: st') (hv : x >>> (y &&& 0x3f).toInt64 = v) (hp : pc + 1 = pc') (g : Gf p e below P T m pc' Ls (.long v :: st')) : Gf p e below P T m pc Ls st := by
  subst hp hst
  exact Go.step (fun t k => XS.lshr X.here hx rfl (hb hby hd) rfl (by subst hv; exact k)) g
theorem g_lushr (X : Stand p l e R s m args below meth c T locs cells slots) (hx : p.tables.exec = Jvm.exec) (hby : c.code = code) {x v : Int64} {y : Int32} (hd : decode code pc = .ok (.lushr, 1)) (hst : st = .int y :: .long x :: st') (hv : (x.toUInt64 >>> (y &&& 0x3f).toInt64.toUInt64).toInt64 = v) (hp : pc + 1 = pc') (g : Gf p e below P T m pc' Ls (.long v :: st')) : Gf p e below P T m pc Ls st := by
  subst hp hst
  exact Go.step (fun t k => XS.lushr X.here hx rfl (hb hby hd) rfl (by subst hv; exact k)) g
theorem g_irem (X : Stand p l e R s m args below meth c T locs cells slots) (hx : p.tables.exec = Jvm.exec) (hby : c.code = code) {x y v : Int32} (hd : decode code pc = .ok (.irem, 1)) (hst : st = .int y :: .int x :: st') (hy : y ≠ 0) (hv : x % y = v) (hp : pc + 1 = pc') (g : Gf p e below P T m pc' Ls (.int v :: st')) : Gf p e below P T m pc Ls st := by
  subst hp hst
  exact Go.step (fun t k => iremM X hx (g := mkF m pc Ls _) rfl (hb hby hd) rfl hy (by subst hv; exact k)) g
theorem g_idiv (X : Stand p l e R s m args below meth c T locs cells slots) (hx : p.tables.exec = Jvm.exec) (hby : c.code = code) {x y v : Int32} (hd : decode code pc = .ok (.idiv, 1)) (hst : st = .int y :: .int x :: st') (hy : y ≠ 0) (hv : x / y = v) (hp : pc + 1 = pc') (g : Gf p e below P T m pc' Ls (.int v :: st')) : Gf p e below P T m pc Ls st := by
  subst hp hst
  exact Go.step (fun t k => XS.idiv X.here hx rfl (hb hby hd) rfl hy (by subst hv; exact k)) g
theorem g_ineg (X : Stand p l e R s m args below meth c T locs cells slots) (hx : p.tables.exec = Jvm.exec) (hby : c.code = code) {x : Int32} {v : Int32} (hd : decode code pc = .ok (.ineg, 1)) (hst : st = .int x :: st') (hv : -x = v) (hp : pc + 1 = pc') (g : Gf p e below P T m pc' Ls (.int v :: st')) : Gf p e below P T m pc Ls st := by
  subst hp hst
  exact Go.step (fun t k => XS.ineg X.here hx rfl (hb hby hd) rfl (by subst hv; exact k)) g
theorem g_lneg (X : Stand p l e R s m args below meth c T locs cells slots) (hx : p.tables.exec = Jvm.exec) (hby : c.code = code) {x : Int64} {v : Int64} (hd : decode code pc = .ok (.lneg, 1)) (hst : st = .long x :: st') (hv : -x = v) (hp : pc + 1 = pc') (g : Gf p e below P T m pc' Ls (.long v :: st')) : Gf p e below P T m pc Ls st := by
  subst hp hst
  exact Go.step (fun t k => XS.lneg X.here hx rfl (hb hby hd) rfl (by subst hv; exact k)) g
theorem g_i2l (X : Stand p l e R s m args below meth c T locs cells slots) (hx : p.tables.exec = Jvm.exec) (hby : c.code = code) {x : Int32} {v : Int64} (hd : decode code pc = .ok (.i2l, 1)) (hst : st = .int x :: st') (hv : x.toInt64 = v) (hp : pc + 1 = pc') (g : Gf p e below P T m pc' Ls (.long v :: st')) : Gf p e below P T m pc Ls st := by
  subst hp hst
  exact Go.step (fun t k => XS.i2l X.here hx rfl (hb hby hd) rfl (by subst hv; exact k)) g
theorem g_l2i (X : Stand p l e R s m args below meth c T locs cells slots) (hx : p.tables.exec = Jvm.exec) (hby : c.code = code) {x : Int64} {v : Int32} (hd : decode code pc = .ok (.l2i, 1)) (hst : st = .long x :: st') (hv : x.toInt32 = v) (hp : pc + 1 = pc') (g : Gf p e below P T m pc' Ls (.int v :: st')) : Gf p e below P T m pc Ls st := by
  subst hp hst
  exact Go.step (fun t k => XS.l2i X.here hx rfl (hb hby hd) rfl (by subst hv; exact k)) g
theorem g_i2b (X : Stand p l e R s m args below meth c T locs cells slots) (hx : p.tables.exec = Jvm.exec) (hby : c.code = code) {x : Int32} {v : Int32} (hd : decode code pc = .ok (.i2b, 1)) (hst : st = .int x :: st') (hv : x.toInt8.toInt32 = v) (hp : pc + 1 = pc') (g : Gf p e below P T m pc' Ls (.int v :: st')) : Gf p e below P T m pc Ls st := by
  subst hp hst
  exact Go.step (fun t k => XS.i2b X.here hx rfl (hb hby hd) rfl (by subst hv; exact k)) g
theorem g_i2s (X : Stand p l e R s m args below meth c T locs cells slots) (hx : p.tables.exec = Jvm.exec) (hby : c.code = code) {x : Int32} {v : Int32} (hd : decode code pc = .ok (.i2s, 1)) (hst : st = .int x :: st') (hv : x.toInt16.toInt32 = v) (hp : pc + 1 = pc') (g : Gf p e below P T m pc' Ls (.int v :: st')) : Gf p e below P T m pc Ls st := by
  subst hp hst
  exact Go.step (fun t k => XS.i2s X.here hx rfl (hb hby hd) rfl (by subst hv; exact k)) g
theorem g_i2c (X : Stand p l e R s m args below meth c T locs cells slots) (hx : p.tables.exec = Jvm.exec) (hby : c.code = code) {x : Int32} {v : Int32} (hd : decode code pc = .ok (.i2c, 1)) (hst : st = .int x :: st') (hv : x.toUInt32.toUInt16.toUInt32.toInt32 = v) (hp : pc + 1 = pc') (g : Gf p e below P T m pc' Ls (.int v :: st')) : Gf p e below P T m pc Ls st := by
  subst hp hst
  exact Go.step (fun t k => XS.i2c X.here hx rfl (hb hby hd) rfl (by subst hv; exact k)) g
theorem g_lcmp (X : Stand p l e R s m args below meth c T locs cells slots) (hx : p.tables.exec = Jvm.exec) (hby : c.code = code) {x y : Int64} {v : Int32} (hd : decode code pc = .ok (.lcmp, 1)) (hst : st = .long y :: .long x :: st') (hv : lcmpW x y = v) (hp : pc + 1 = pc') (g : Gf p e below P T m pc' Ls (.int v :: st')) : Gf p e below P T m pc Ls st := by
  subst hp hst
  exact Go.step (fun t k => XS.lcmp X.here hx rfl (hb hby hd) rfl (by subst hv; exact k)) g
theorem g_i2d (X : Stand p l e R s m args below meth c T locs cells slots) (hx : p.tables.exec = Jvm.exec) (hby : c.code = code) {x : Int32} {v : UInt64} (hd : decode code pc = .ok (.i2d, 1)) (hst : st = .int x :: st') (hv : FP.i2d x = v) (hp : pc + 1 = pc') (g : Gf p e below P T m pc' Ls (.double v :: st')) : Gf p e below P T m pc Ls st := by
  subst hp hst
  exact Go.step (fun t k => XS.i2dS X.here hx rfl (hb hby hd) rfl hv k) g
theorem g_l2d (X : Stand p l e R s m args below meth c T locs cells slots) (hx : p.tables.exec = Jvm.exec) (hby : c.code = code) {x : Int64} {v : UInt64} (hd : decode code pc = .ok (.l2d, 1)) (hst : st = .long x :: st') (hv : FP.l2d x = v) (hp : pc + 1 = pc') (g : Gf p e below P T m pc' Ls (.double v :: st')) : Gf p e below P T m pc Ls st := by
  subst hp hst
  exact Go.step (fun t k => XS.l2dS X.here hx rfl (hb hby hd) rfl hv k) g
theorem g_d2i (X : Stand p l e R s m args below meth c T locs cells slots) (hx : p.tables.exec = Jvm.exec) (hby : c.code = code) {x : UInt64} {v : Int32} (hd : decode code pc = .ok (.d2i, 1)) (hst : st = .double x :: st') (hv : FP.d2i x = v) (hp : pc + 1 = pc') (g : Gf p e below P T m pc' Ls (.int v :: st')) : Gf p e below P T m pc Ls st := by
  subst hp hst
  exact Go.step (fun t k => XS.d2iS X.here hx rfl (hb hby hd) rfl hv k) g
theorem g_d2l (X : Stand p l e R s m args below meth c T locs cells slots) (hx : p.tables.exec = Jvm.exec) (hby : c.code = code) {x : UInt64} {v : Int64} (hd : decode code pc = .ok (.d2l, 1)) (hst : st = .double x :: st') (hv : FP.d2l x = v) (hp : pc + 1 = pc') (g : Gf p e below P T m pc' Ls (.long v :: st')) : Gf p e below P T m pc Ls st := by
  subst hp hst
  exact Go.step (fun t k => XS.d2lS X.here hx rfl (hb hby hd) rfl hv k) g
theorem g_dneg (X : Stand p l e R s m args below meth c T locs cells slots) (hx : p.tables.exec = Jvm.exec) (hby : c.code = code) {x : UInt64} {v : UInt64} (hd : decode code pc = .ok (.dneg, 1)) (hst : st = .double x :: st') (hv : FP.dneg x = v) (hp : pc + 1 = pc') (g : Gf p e below P T m pc' Ls (.double v :: st')) : Gf p e below P T m pc Ls st := by
  subst hp hst
  exact Go.step (fun t k => XS.dnegS X.here hx rfl (hb hby hd) rfl hv k) g
theorem g_dadd (X : Stand p l e R s m args below meth c T locs cells slots) (hx : p.tables.exec = Jvm.exec) (hby : c.code = code) {x y v : UInt64} (hd : decode code pc = .ok (.dadd, 1)) (hst : st = .double y :: .double x :: st') (hn : Jvm.Free.Fl.NoNaN64 (FP.dadd x y)) (hv : FP.dadd x y = v) (hp : pc + 1 = pc') (g : Gf p e below P T m pc' Ls (.double v :: st')) : Gf p e below P T m pc Ls st := by
  subst hp hst
  exact Go.step (fun t k => XS.daddS X.here hx rfl (hb hby hd) rfl hn hv k) g
theorem g_dsub (X : Stand p l e R s m args below meth c T locs cells slots) (hx : p.tables.exec = Jvm.exec) (hby : c.code = code) {x y v : UInt64} (hd : decode code pc = .ok (.dsub, 1)) (hst : st = .double y :: .double x :: st') (hn : Jvm.Free.Fl.NoNaN64 (FP.dsub x y)) (hv : FP.dsub x y = v) (hp : pc + 1 = pc') (g : Gf p e below P T m pc' Ls (.double v :: st')) : Gf p e below P T m pc Ls st := by
  subst hp hst
  exact Go.step (fun t k => XS.dsubS X.here hx rfl (hb hby hd) rfl hn hv k) g
theorem g_dmul (X : Stand p l e R s m args below meth c T locs cells slots) (hx : p.tables.exec = Jvm.exec) (hby : c.code = code) {x y v : UInt64} (hd : decode code pc = .ok (.dmul, 1)) (hst : st = .double y :: .double x :: st') (hn : Jvm.Free.Fl.NoNaN64 (FP.dmul x y)) (hv : FP.dmul x y = v) (hp : pc + 1 = pc') (g : Gf p e below P T m pc' Ls (.double v :: st')) : Gf p e below P T m pc Ls st := by
  subst hp hst
  exact Go.step (fun t k => XS.dmulS X.here hx rfl (hb hby hd) rfl hn hv k) g
theorem g_ddiv (X : Stand p l e R s m args below meth c T locs cells slots) (hx : p.tables.exec = Jvm.exec) (hby : c.code = code) {x y v : UInt64} (hd : decode code pc = .ok (.ddiv, 1)) (hst : st = .double y :: .double x :: st') (hn : Jvm.Free.Fl.NoNaN64 (FP.ddiv x y)) (hv : FP.ddiv x y = v) (hp : pc + 1 = pc') (g : Gf p e below P T m pc' Ls (.double v :: st')) : Gf p e below P T m pc Ls st := by
  subst hp hst
  exact Go.step (fun t k => XS.ddivS X.here hx rfl (hb hby hd) rfl hn hv k) g
theorem g_dcmp (X : Stand p l e R s m args below meth c T locs cells slots) (hx : p.tables.exec = Jvm.exec) (hby : c.code = code) {o : CmpOp} {x y : UInt64} {v : Int32} (hd : decode code pc = .ok (.dcmp o, 1)) (hst : st = .double y :: .double x :: st') (hv : cmpValue (FP.dcmp x y) o = v) (hp : pc + 1 = pc') (g : Gf p e below P T m pc' Ls (.int v :: st')) : Gf p e below P T m pc Ls st := by
  subst hp hst
  exact Go.step (fun t k => XS.dcmpS X.here hx rfl (hb hby hd) rfl hv k) g
theorem g_dup (X : Stand p l e R s m args below meth c T locs cells slots) (hx : p.tables.exec = Jvm.exec) (hby : c.code = code) {x : Value} (hd : decode code pc = .ok (.dup, 1)) (hst : st = x :: st') (hc : x.category = 1) (hp : pc + 1 = pc') (g : Gf p e below P T m pc' Ls (x :: x :: st')) : Gf p e below P T m pc Ls st := by
  subst hp hst
  exact Go.step (fun t k => XS.dup X.here hx rfl (hb hby hd) rfl hc k) g
theorem g_pop (X : Stand p l e R s m args below meth c T locs cells slots) (hx : p.tables.exec = Jvm.exec) (hby : c.code = code) {x : Value} (hd : decode code pc = .ok (.pop, 1)) (hst : st = x :: st') (hc : x.category = 1) (hp : pc + 1 = pc') (g : Gf p e below P T m pc' Ls st') : Gf p e below P T m pc Ls st := by
  subst hp hst
  exact Go.step (fun t k => XS.pop X.here hx rfl (hb hby hd) rfl hc k) g
theorem g_iinc (X : Stand p l e R s m args below meth c T locs cells slots) (hx : p.tables.exec = Jvm.exec) (hby : c.code = code) {n : Nat} {i : Int} {x : Int32} (hd : decode code pc = .ok (.iinc n i, 3)) (hl : Ls[n]? = some (.val (.int x))) (hl' : storeLocals Ls n (.int (x + Int32.ofInt i)) = some Ls') (hp : pc + 3 = pc') (g : Gf p e below P T m pc' Ls' st) : Gf p e below P T m pc Ls st := by
  subst hp
  exact Go.step (fun t k => XS.iinc X.here hx rfl (hb hby hd) hl hl' k) g
theorem g_goto (X : Stand p l e R s m args below meth c T locs cells slots) (hx : p.tables.exec = Jvm.exec) (hby : c.code = code) {o : Int} (hd : decode code pc = .ok (.goto o, 3)) (ho : 0 ≤ (pc : Int) + o) (hp : ((pc : Int) + o).toNat = pc') (g : Gf p e below P T m pc' Ls st) : Gf p e below P T m pc Ls st := Go.step (fun t k => XS.goto X.here hx rfl (pc0 := pc) (pc' := pc') rfl (hb hby hd) ho hp k) g
theorem g_ifY (X : Stand p l e R s m args below meth c T locs cells slots) (hx : p.tables.exec = Jvm.exec) (hby : c.code = code) {cd : ClassFile.Cond} {o : Int} {x : Int32} (hd : decode code pc = .ok (.ifCond cd o, 3)) (hst : st = .int x :: st') (hc : if_icmp.holds cd x 0 = true) (ho : 0 ≤ (pc : Int) + o) (hp : ((pc : Int) + o).toNat = pc') (g : Gf p e below P T m pc' Ls st') : Gf p e below P T m pc Ls st := by
  subst hst
  exact Go.step (fun t k => XS.ifYes X.here hx rfl (pc0 := pc) (pc' := pc') rfl (hb hby hd) rfl ((if0 _ _).trans hc) ho hp k) g
theorem g_ifN (X : Stand p l e R s m args below meth c T locs cells slots) (hx : p.tables.exec = Jvm.exec) (hby : c.code = code) {cd : ClassFile.Cond} {o : Int} {x : Int32} (hd : decode code pc = .ok (.ifCond cd o, 3)) (hst : st = .int x :: st') (hc : if_icmp.holds cd x 0 = false) (hp : pc + 3 = pc') (g : Gf p e below P T m pc' Ls st') : Gf p e below P T m pc Ls st := by
  subst hst hp
  exact Go.step (fun t k => XS.ifNo X.here hx rfl (hb hby hd) rfl ((if0 _ _).trans hc) k) g
theorem g_icY (X : Stand p l e R s m args below meth c T locs cells slots) (hx : p.tables.exec = Jvm.exec) (hby : c.code = code) {cd : ClassFile.Cond} {o : Int} {x y : Int32} (hd : decode code pc = .ok (.if_icmp cd o, 3)) (hst : st = .int y :: .int x :: st') (hc : if_icmp.holds cd x y = true) (ho : 0 ≤ (pc : Int) + o) (hp : ((pc : Int) + o).toNat = pc') (g : Gf p e below P T m pc' Ls st') : Gf p e below P T m pc Ls st := by
  subst hst
  exact Go.step (fun t k => XS.icmpYes X.here hx rfl (pc0 := pc) (pc' := pc') rfl (hb hby hd) rfl hc ho hp k) g
theorem g_icN (X : Stand p l e R s m args below meth c T locs cells slots) (hx : p.tables.exec = Jvm.exec) (hby : c.code = code) {cd : ClassFile.Cond} {o : Int} {x y : Int32} (hd : decode code pc = .ok (.if_icmp cd o, 3)) (hst : st = .int y :: .int x :: st') (hc : if_icmp.holds cd x y = false) (hp : pc + 3 = pc') (g : Gf p e below P T m pc' Ls st') : Gf p e below P T m pc Ls st := by
  subst hst hp
  exact Go.step (fun t k => XS.icmpNo X.here hx rfl (hb hby hd) rfl hc k) g
theorem g_nullY (X : Stand p l e R s m args below meth c T locs cells slots) (hx : p.tables.exec = Jvm.exec) (hby : c.code = code) {o : Int} (hd : decode code pc = .ok (.ifnull o, 3)) (hst : st = .null :: st') (ho : 0 ≤ (pc : Int) + o) (hp : ((pc : Int) + o).toNat = pc') (g : Gf p e below P T m pc' Ls st') : Gf p e below P T m pc Ls st := by
  subst hst
  exact Go.step (fun t k => XS.ifnullYes X.here hx rfl (pc0 := pc) (pc' := pc') rfl (hb hby hd) rfl ho hp k) g
theorem g_nullN (X : Stand p l e R s m args below meth c T locs cells slots) (hx : p.tables.exec = Jvm.exec) (hby : c.code = code) {o : Int} {b : Addr} (hd : decode code pc = .ok (.ifnull o, 3)) (hst : st = .ref b :: st') (hp : pc + 3 = pc') (g : Gf p e below P T m pc' Ls st') : Gf p e below P T m pc Ls st := by
  subst hst hp
  exact Go.step (fun t k => XS.ifnullNo X.here hx rfl (hb hby hd) rfl k) g
theorem g_nnY (X : Stand p l e R s m args below meth c T locs cells slots) (hx : p.tables.exec = Jvm.exec) (hby : c.code = code) {o : Int} {b : Addr} (hd : decode code pc = .ok (.ifnonnull o, 3)) (hst : st = .ref b :: st') (ho : 0 ≤ (pc : Int) + o) (hp : ((pc : Int) + o).toNat = pc') (g : Gf p e below P T m pc' Ls st') : Gf p e below P T m pc Ls st := by
  subst hst
  exact Go.step (fun t k => XS.ifnonnullYes X.here hx rfl (pc0 := pc) (pc' := pc') rfl (hb hby hd) rfl ho hp k) g
theorem g_nnN (X : Stand p l e R s m args below meth c T locs cells slots) (hx : p.tables.exec = Jvm.exec) (hby : c.code = code) {o : Int} (hd : decode code pc = .ok (.ifnonnull o, 3)) (hst : st = .null :: st') (hp : pc + 3 = pc') (g : Gf p e below P T m pc' Ls st') : Gf p e below P T m pc Ls st := by
  subst hst hp
  exact Go.step (fun t k => XS.ifnonnullNo X.here hx rfl (hb hby hd) rfl k) g
theorem g_acmp (X : Stand p l e R s m args below meth c T locs cells slots) (hx : p.tables.exec = Jvm.exec) (hby : c.code = code) {cd : ACond} {o : Int} {x y : Value} {same : Bool} (hd : decode code pc = .ok (.if_acmp cd o, 3)) (hst : st = y :: x :: st') (h1 : x.isRef = true) (h2 : y.isRef = true) (hq : decide (x = y) = same) (ho : 0 ≤ (pc : Int) + o) (hp : pc' = if acV cd same = true then ((pc : Int) + o).toNat else pc + 3) (g : Gf p e below P T m pc' Ls st') : Gf p e below P T m pc Ls st := by
  subst hst
  exact Go.step (fun t k => Jvm.RoadKit.acmp (g := mkF m pc Ls _) X hx rfl h1 h2 (pc0 := pc) (pc' := pc') rfl (hb hby hd) rfl hq ho hp k) g
/-! the returns -/
variable {Q : Option Value → Heap → List Loc → Prop} {rm : Room} {h : Heap}
def FinR (l : Launch) (s : State) (rm : Room) (Q : Option Value → Heap → List Loc → Prop) (P : Outcome → State → Prop) : Prop := ∀ o U, (∃ v L, o = .returned v ∧ Q v U.heap L ∧ FrameEnd s o U L rm.cells rm.slots) → P o U
theorem g_retV (X : Stand p l e R s m args below meth c T locs cells slots) (hx : p.tables.exec = Jvm.exec) (hby : c.code = code) (hf : FinR l s rm Q P) (hlk : meth.locks = false) {t : FieldType} {i : Instr} {w : Value} (hret : meth.sig.returnType = some t) (hd : decode code pc = .ok (i, 1)) (hst : st = w :: st') (hn : narrow t w = w)
    (hi : (i = .ireturn ∧ (t = .int ∨ t = .boolean ∨ t = .byte ∨ t = .char ∨ t = .short) ∧ ∃ z, w = .int z) ∨ (i = .lreturn ∧ t = .long ∧ ∃ z, w = .long z) ∨ (i = .dreturn ∧ t = .double ∧ ∃ z, w = .double z) ∨ (i = .freturn ∧ t = .float ∧ ∃ z, w = .float z) ∨ (i = .areturn ∧ t.isReference = true ∧ w.isRef = true))
    (hc : cells ≤ rm.cells) (hs : slots ≤ rm.slots) (eT : T.heap = h) (q : Q (some w) h locs) : Gf p e below P T m pc Ls st := by
  subst hst
  obtain ⟨fs, hr, hrun, hended, hW, hsame⟩ := X.leave (v := some w) (fun q => by rw [hret] at q; cases q) hlk
  exact ⟨_, _, retOut X hx hret hn hi (hb hby hd) hr, hrun, hended, hf _ _ ⟨_, _, rfl, by show Q (some w) T.heap locs; rw [eT]; exact q, ⟨_, rfl⟩, hW, hsame.mono hc hs⟩⟩
theorem g_retZ (X : Stand p l e R s m args below meth c T locs cells slots) (hx : p.tables.exec = Jvm.exec) (hby : c.code = code) (hf : FinR l s rm Q P) (hlk : meth.locks = false) {t : FieldType} {z w : Int32} (hret : meth.sig.returnType = some t) (hd : decode code pc = .ok (.ireturn, 1)) (hst : st = .int z :: st') (ht : t = .boolean ∨ t = .byte ∨ t = .char ∨ t = .short)
    (hw : nar t z = w) (hc : cells ≤ rm.cells) (hs : slots ≤ rm.slots) (eT : T.heap = h) (q : Q (some (.int w)) h locs) : Gf p e below P T m pc Ls st := by
  subst hst hw
  obtain ⟨fs, hr, hrun, hended, hW, hsame⟩ := X.leave (v := some (.int (nar t z))) (fun q => by rw [hret] at q; cases q) hlk
  exact ⟨_, _, retN X hx hret ht (hb hby hd) hr, hrun, hended, hf _ _ ⟨_, _, rfl, by show Q (some (.int (nar t z))) T.heap locs; rw [eT]; exact q, ⟨_, rfl⟩, hW, hsame.mono hc hs⟩⟩
theorem g_ret (X : Stand p l e R s m args below meth c T locs cells slots) (hx : p.tables.exec = Jvm.exec) (hby : c.code = code) (hf : FinR l s rm Q P) (hlk : meth.locks = false) (hret : meth.sig.returnType = none) (hd : decode code pc = .ok (.return_, 1)) (hst : st = [])
    (hc : cells ≤ rm.cells) (hs : slots ≤ rm.slots) (eT : T.heap = h) (q : Q none h locs) : Gf p e below P T m pc Ls st := by
  subst hst
  obtain ⟨fs, hr, hrun, hended, hW, hsame⟩ := X.leave (v := none) (fun _ => rfl) hlk
  exact ⟨_, _, X.returnOut hx hret (hb hby hd) hr, hrun, hended, hf _ _ ⟨_, _, rfl, by show Q none T.heap locs; rw [eT]; exact q, ⟨_, rfl⟩, hW, hsame.mono hc hs⟩⟩
/-! the heap -/
variable {Z : State} {a0 : Array Value} {own : String} {a : Addr}
theorem g_new (X : Stand p l e R s m args below meth c T locs cells slots) (hx : p.tables.exec = Jvm.exec) (hby : c.code = code) (hZ : Z.Warmed39 s.vm) (hown : s.vm.findClass own = some m.cls) {C : String} {i n : Nat} (w : (Cond.classLink own i C).before a0 Z = true) (wi : (Cond.instantiable C n).before a0 Z = true) (wz : (Cond.initialized C).before a0 Z = true) (eT : T.heap = h)
    (hd : decode code pc = .ok (.new i, 3)) (hp : pc + 3 = pc') (hc : cells + 1 ≤ R.cells) (hl : slots + n ≤ R.slots)
    (g : ∀ (T' : State) (h' : Heap) (a : Addr), Stand p l e R s m args below meth c T' locs (cells + 1) (slots + n) → T'.heap = h' → Ext h h' → Exa Z h' a C → (∀ {O nm d : String} {ty : FieldType}, Laid Z a0 C O nm d → parseFieldDescriptor d = some ty → Fld Z h' a O nm d (defaultValue ty)) → a = h.size → Gf p e below P T' m pc' Ls (.ref a :: st)) : Gf p e below P T m pc Ls st := by
  subst hp
  obtain ⟨T', h', X', e', E', A', D', -, st'⟩ := newO X hx hZ hown w wi wz eT (g := mkF m pc Ls st) rfl (hb hby hd) hc hl
  exact Go.step st' (g T' h' h.size X' e' E' A' D' rfl)
theorem g_initO (X : Stand p l e R s m args below meth c T locs cells slots) (hx : p.tables.exec = Jvm.exec) (hby : c.code = code) (hZ : Z.Warmed39 s.vm) (hown : s.vm.findClass own = some m.cls) {i : Nat} (w1 : (Cond.methodLink own i Lib.objectInit).before a0 Z = true) (w2 : (Cond.instanceMethod Lib.objectInit).before a0 Z = true) (w3 : (Cond.code Lib.objectInit ⟨#[0xb1]⟩ 1 none).before a0 Z = true) (eT : T.heap = h)
    (hsize : Ls.size = c.maxLocals) (hst : st = .ref a :: st') (hd : decode code pc = .ok (.invokespecial i, 3)) (hp : pc + 3 = pc') (hf : 1 ≤ R.frames) {W : Nat} (hW : 2 * 0 + (st'.map fun v => v.category).sum = W) (hl : W + 12 ≤ R.locals)
    (g : ∀ (T' : State), Stand p l e R s m args below meth c T' locs cells slots → T'.heap = h → Gf p e below P T' m pc' Ls st') : Gf p e below P T m pc Ls st := by
  subst hp hst
  obtain ⟨T', X', e', k⟩ := initO X hx hZ hown w1 w2 w3 eT (g := mkF m pc Ls _) rfl hsize rfl (hb hby hd) hf (W := W) (Nat.le_of_eq hW) hl
  exact Go.step k (g T' X' e')
theorem g_getF (X : Stand p l e R s m args below meth c T locs cells slots) (hx : p.tables.exec = Jvm.exec) (hby : c.code = code) (hZ : Z.Warmed39 s.vm) (hown : s.vm.findClass own = some m.cls) {R0 O n d host : String} {i : Nat} {v : Value} (w : (Cond.fieldLink own i R0 n d).before a0 Z = true ∨ (Cond.fieldLinkNest own i R0 n d host).before a0 Z = true) (via : Via Z R0 O n d) (eT : T.heap = h) (F : Fld Z h a O n d v)
    (hst : st = .ref a :: st') (hd : decode code pc = .ok (.getfield i, 3)) (hp : pc + 3 = pc') (g : ∀ (T' : State), Stand p l e R s m args below meth c T' locs cells slots → T'.heap = h → Gf p e below P T' m pc' Ls (v :: st')) : Gf p e below P T m pc Ls st := by
  subst hp hst
  obtain ⟨T', X', e', k⟩ := getF X hx hZ hown w via eT F (g := mkF m pc Ls _) rfl rfl (hb hby hd)
  exact Go.step k (g T' X' e')
theorem g_getS (X : Stand p l e R s m args below meth c T locs cells slots) (hx : p.tables.exec = Jvm.exec) (hby : c.code = code) (hZ : Z.Warmed39 s.vm) (hown : s.vm.findClass own = some m.cls) {R0 O n d host : String} {i : Nat} {v : Value} (w : (Cond.fieldLink own i R0 n d).before a0 Z = true ∨ (Cond.fieldLinkNest own i R0 n d host).before a0 Z = true) (via : Via Z R0 O n d) (eT : T.heap = h) (F : Sta Z h O n d v)
    (hd : decode code pc = .ok (.getstatic i, 3)) (hp : pc + 3 = pc') (g : ∀ (T' : State), Stand p l e R s m args below meth c T' locs cells slots → T'.heap = h → Gf p e below P T' m pc' Ls (v :: st)) : Gf p e below P T m pc Ls st := by
  subst hp
  obtain ⟨T', X', e', k⟩ := getS2 X hx hZ hown w via eT F (g := mkF m pc Ls st) rfl (hb hby hd)
  exact Go.step k (g T' X' e')
theorem g_putF (X : Stand p l e R s m args below meth c T locs cells slots) (hx : p.tables.exec = Jvm.exec) (hby : c.code = code) (hZ : Z.Warmed39 s.vm) (hown : s.vm.findClass own = some m.cls) {R0 O n d host C : String} {i kk : Nat} {ty : FieldType} {v old : Value} (w : (Cond.fieldLink own i R0 n d).before a0 Z = true ∨ (Cond.fieldLinkNest own i R0 n d host).before a0 Z = true) (via : Via Z R0 O n d) (eT : T.heap = h) (F : Fld Z h a O n d old) (E : Exa Z h a C)
    (L : (Cond.lays C O n d).before a0 Z = true ∨ ((Cond.laysFinal C O n d).before a0 Z = true ∧ own = O ∧ meth.name = "<init>")) (wi : (Cond.instantiable C kk).before a0 Z = true) (hty : parseFieldDescriptor d = some ty) (hn : narrow ty v = v) (hf : fits ty v = true)
    (hst : st = v :: .ref a :: st') (hd : decode code pc = .ok (.putfield i, 3)) (hp : pc + 3 = pc') {k0 : Nat} (N : Fr k0 locs) (q : k0 ≤ a)
    (g : ∀ (T' : State) (h' : Heap), Stand p l e R s m args below meth c T' (locs ++ [⟨a, Jvm.RoadKit.slotOf Z O n d⟩]) cells slots → T'.heap = h' → Wr h h' a (Jvm.RoadKit.slotOf Z O n d) v → Fr k0 (locs ++ [⟨a, Jvm.RoadKit.slotOf Z O n d⟩]) → Gf p e below P T' m pc' Ls st') : Gf p e below P T m pc Ls st := by
  subst hp hst
  obtain ⟨T', h', X', e', W', k⟩ := putF X hx hZ hown w via eT F E L wi hty hn hf (g := mkF m pc Ls _) rfl rfl (hb hby hd)
  exact Go.step k (g T' h' X' e' W' (Fr.snoc X' N q))
/-! the calls, by a callee's contract -/
def Con (l : Launch) (Z : State) (y : MethodName) (bytes : ByteArray) (maxL : Nat) (ret : Option FieldType) (ws : List Cond) (rm : Room) (as : Array Value) (h : Heap) (Q : Option Value → Heap → List Loc → Prop) : Prop :=
  MetFree l y (head1 (Cond.code y bytes maxL ret :: ws) rm) (fun a U => a = as ∧ Z.Warmed39 U.vm ∧ U.heap = h) (fun _ _ _ _ _ => True) (fun _ U o U' => ∃ v L, o = .returned v ∧ Q v U'.heap L ∧ FrameEnd U o U' L rm.cells rm.slots)
theorem Con.start {y : MethodName} {bytes : ByteArray} {maxL : Nat} {ret : Option FieldType} {ws : List Cond} {as : Array Value} (Ls : Array Slot) (hn : plainFor y = true) (hef : ∀ m, entryFrame m as maxL = mkF m 0 Ls [])
    (k : ∀ (p : Program) (e : Env) (s : State) (m : MethodId) (below : List Frame) (meth : Method) (c : Code) (s₁ : State) (P : Outcome → State → Prop), Stand p l e rm s m as below meth c s₁ [] 0 0 → p.tables.exec = Jvm.exec → c.code = bytes → c.maxLocals = maxL → meth.sig.returnType = ret → meth.locks = false → s.vm.findClass y.cls = some m.cls → meth.name = y.name → Z.Warmed39 s.vm → s₁.heap = h → FinR l s rm Q P → Gf p e below P s₁ m 0 Ls []) :
    Con l Z y bytes maxL ret ws rm as h Q := by
  refine MetFree.of_bodySF hn hisR ?_
  intro p e s m args below meth c s₁ Bd hml0 hP hK
  obtain ⟨rfl, hZ, hh⟩ := hP
  have e0 : s₁.heap = h := by rw [← hh, Bd.state]; rfl
  obtain ⟨s2, o, h1, h2⟩ := k p e s m below meth c s₁ _ (Stand.of_body Bd) Bd.exec Bd.bytes hml0 Bd.returns (BodyLoose.notSynchronized Bd) (findClass_of_methodNamed Bd.named) (name_of_methodNamed Bd.named Bd.method).1 hZ e0 (fun o U q => q)
  exact ⟨s2, o, castTop (hef m) h1, h2⟩
theorem g_callS (X : Stand p l e R s m args below meth c T locs cells slots) (hx : p.tables.exec = Jvm.exec) (hby : c.code = code) (hml : Ls.size = c.maxLocals) (hZ : Z.Warmed39 s.vm) (hown : s.vm.findClass own = some m.cls) {i : Nat} {y : MethodName} {bytes : ByteArray} {maxL W : Nat} {ret : Option FieldType} {ps : List FieldType} {argsL : List Value} (eT : T.heap = h)
    (hM : Con l Z y bytes maxL ret [] rm argsL.toArray h Q) (w1 : (Cond.methodLink own i y).before a0 Z = true) (w2 : (Cond.static y).before a0 Z = true) (w3 : (Cond.initialized y.cls).before a0 Z = true) (w4 : (Cond.code y bytes maxL ret).before a0 Z = true) (hy : y.cls ≠ "java/lang/invoke/MethodHandle" ∧ y.cls ≠ "java/lang/invoke/VarHandle")
    (hpd : parseMethodDescriptor y.desc = some ⟨ps, ret⟩) (hlen : argsL.length = ps.length) (hst : st = argsL.reverse ++ st') (hW : 2 * 0 + (st'.map fun v => v.category).sum = W) (hf : rm.frames + 1 ≤ R.frames) (hl : W + (maxL + 11) + rm.locals ≤ R.locals) (hc : cells + rm.cells ≤ R.cells) (hs : slots + rm.slots ≤ R.slots)
    (hd : decode code pc = .ok (.invokestatic i, 3)) (hp : pc + 3 = pc')
    (g : ∀ (T' : State) (v : Option Value) (L : List Loc), Stand p l e R s m args below meth c T' (locs ++ L) (cells + rm.cells) (slots + rm.slots) → Q v T'.heap L → Gf p e below P T' m pc' Ls (v.toList ++ st')) : Gf p e below P T m pc Ls st := by
  subst hp hst
  obtain ⟨v, _, ⟨T', L', k', n'⟩, -, X', ⟨Lc, hQ, hl', hy', hz'⟩, k⟩ := Jvm.LawKit.callS X hx (y := y) hown (mvT hZ w1) (mvT hZ w2) (mvT hZ w3) (mvT hZ w4) hy (backOf (W := W) hM hZ w4 w3 hf hl) (g := mkF m pc Ls _) rfl hml (argsL := argsL) (rest := st') (lenOf hpd hlen) rfl (Nat.le_of_eq hW) (hb hby hd) (fun _ _ => ⟨rfl, eT, hc, hs⟩)
  dsimp only [Pt.U, Pt.locs, Pt.cells, Pt.slots] at X' hl' hy' hz' k hQ
  subst hl' hy' hz'
  exact Go.step k (g T' v Lc X' hQ)
theorem g_init (X : Stand p l e R s m args below meth c T locs cells slots) (hx : p.tables.exec = Jvm.exec) (hby : c.code = code) (hml : Ls.size = c.maxLocals) (hZ : Z.Warmed39 s.vm) (hown : s.vm.findClass own = some m.cls) {i : Nat} {y : MethodName} {bytes : ByteArray} {maxL W : Nat} {ps : List FieldType} {argsL : List Value} (hy1 : y.name = "<init>") (eT : T.heap = h)
    (hM : Con l Z y bytes maxL none [] rm (.ref a :: argsL).toArray h Q) (w1 : (Cond.methodLink own i y).before a0 Z = true) (w2 : (Cond.instanceMethod y).before a0 Z = true) (w3 : (Cond.initialized y.cls).before a0 Z = true) (w4 : (Cond.code y bytes maxL none).before a0 Z = true) (hy : y.cls ≠ "java/lang/invoke/MethodHandle" ∧ y.cls ≠ "java/lang/invoke/VarHandle")
    (hpd : parseMethodDescriptor y.desc = some ⟨ps, none⟩) (hlen : argsL.length = ps.length) (hst : st = argsL.reverse ++ .ref a :: st') (hW : 2 * 0 + (st'.map fun v => v.category).sum = W) (hf : rm.frames + 1 ≤ R.frames) (hl : W + (maxL + 11) + rm.locals ≤ R.locals) (hc : cells + rm.cells ≤ R.cells) (hs : slots + rm.slots ≤ R.slots)
    (hd : decode code pc = .ok (.invokespecial i, 3)) (hp : pc + 3 = pc')
    (g : ∀ (T' : State) (v : Option Value) (L : List Loc), Stand p l e R s m args below meth c T' (locs ++ L) (cells + rm.cells) (slots + rm.slots) → Q v T'.heap L → Gf p e below P T' m pc' Ls (v.toList ++ st')) : Gf p e below P T m pc Ls st := by
  subst hp hst
  obtain ⟨v, _, ⟨T', L', k', n'⟩, -, X', ⟨Lc, hQ, hl', hy', hz'⟩, k⟩ := X.specialBack hx (y := y) hy1 hown (mvT hZ w1) (mvT hZ w2) (mvT hZ w4) hy (backOf (W := W) hM hZ w4 w3 hf hl) (g := mkF m pc Ls _) rfl hml (Steps.refl _) (a := a) (argsL := argsL) (rest := st') (lenOf hpd hlen) rfl (Nat.le_of_eq hW) (hb hby hd) (fun _ _ => ⟨rfl, eT, hc, hs⟩)
  dsimp only [Pt.U, Pt.locs, Pt.cells, Pt.slots] at X' hl' hy' hz' k hQ
  subst hl' hy' hz'
  exact Go.step (fun t k2 => k.trans k2) (g T' v Lc X' hQ)
theorem g_virt (X : Stand p l e R s m args below meth c T locs cells slots) (hx : p.tables.exec = Jvm.exec) (hby : c.code = code) (hml : Ls.size = c.maxLocals) (hZ : Z.Warmed39 s.vm) (hown : s.vm.findClass own = some m.cls) {i : Nat} {y : MethodName} {bytes : ByteArray} {maxL W : Nat} {ret : Option FieldType} {ps : List FieldType} {argsL : List Value} {C : String} (eT : T.heap = h)
    (hM : Con l Z y bytes maxL ret [] rm (.ref a :: argsL).toArray h Q) (w1 : (Cond.methodLink own i y).before a0 Z = true) (wd : (Cond.declares y).before a0 Z = true) (ws : (Cond.selects C y y).before a0 Z = true) (w2 : (Cond.instanceMethod y).before a0 Z = true) (w3 : (Cond.initialized y.cls).before a0 Z = true) (w4 : (Cond.code y bytes maxL ret).before a0 Z = true) (hy : y.cls ≠ "java/lang/invoke/MethodHandle" ∧ y.cls ≠ "java/lang/invoke/VarHandle") (E : Exa Z h a C)
    (hpd : parseMethodDescriptor y.desc = some ⟨ps, ret⟩) (hlen : argsL.length = ps.length) (hst : st = argsL.reverse ++ .ref a :: st') (hW : 2 * 0 + (st'.map fun v => v.category).sum = W) (hf : rm.frames + 1 ≤ R.frames) (hl : W + (maxL + 11) + rm.locals ≤ R.locals) (hc : cells + rm.cells ≤ R.cells) (hs : slots + rm.slots ≤ R.slots)
    (hd : decode code pc = .ok (.invokevirtual i, 3)) (hp : pc + 3 = pc')
    (g : ∀ (T' : State) (v : Option Value) (L : List Loc), Stand p l e R s m args below meth c T' (locs ++ L) (cells + rm.cells) (slots + rm.slots) → Q v T'.heap L → Gf p e below P T' m pc' Ls (v.toList ++ st')) : Gf p e below P T m pc Ls st := by
  subst hp hst
  obtain ⟨cq, kq, qa, qb, qc⟩ := isOf hZ eT E
  obtain ⟨v, _, ⟨T', L', k', n'⟩, -, X', ⟨Lc, hQ, hl', hy', hz'⟩, k⟩ := X.virtualBack hx (y := y) (z := y) hown (mvT hZ w1) (mvT hZ wd) (notFace_of_selects (args := #[]) (mvT hZ ws)) (mvT hZ ws) (mvT hZ w2) hy (backOf (W := W) hM hZ w4 w3 hf hl) qa qc (g := mkF m pc Ls _) rfl hml (Steps.refl _) (argsL := argsL) (rest := st') (lenOf hpd hlen) rfl (Nat.le_of_eq hW) (hb hby hd) (fun _ _ => ⟨rfl, eT, hc, hs⟩)
  dsimp only [Pt.U, Pt.locs, Pt.cells, Pt.slots] at X' hl' hy' hz' k hQ
  subst hl' hy' hz'
  exact Go.step (fun t k2 => k.trans k2) (g T' v Lc X' hQ)
theorem g_newA (X : Stand p l e R s m args below meth c T locs cells slots) (hx : p.tables.exec = Jvm.exec) (hby : c.code = code) (hZ : Z.Warmed39 s.vm) {aty : ArrayType} {n : Int32} {cap : Nat} (w : (Cond.arrayClass (newarray.typeOf aty)).before a0 Z = true) (eT : T.heap = h) (hst : st = .int n :: st') (hn : ¬ n < 0) (hcap : n.toNatClampNeg ≤ cap) (hb8 : cap * 8 ≤ 536870912)
    (hc : cells + 1 ≤ R.cells) (hl : slots + cap ≤ R.slots) (hd : decode code pc = .ok (.newarray aty, 2)) (hp : pc + 2 = pc') (k : Nat)
    (g : ∀ (T' : State) (h' : Heap) (cA : ClassId) (a : Addr), Stand p l e R s m args below meth c T' locs (cells + 1) (slots + cap) → T'.heap = h' → Ext h h' → Arv Z h' a cA (newarray.typeOf aty) n ([] ++ List.replicate k (defaultValue (newarray.typeOf aty))) (defaultValue (newarray.typeOf aty)) → a = h.size → Gf p e below P T' m pc' Ls (.ref a :: st')) : Gf p e below P T m pc Ls st := by
  subst hp hst
  obtain ⟨T', h', cA, X', e', E', A', k'⟩ := newP X hx hZ w eT (g := mkF m pc Ls _) rfl (hb hby hd) rfl hn hcap hb8 hc hl
  exact Go.step k' (g T' h' cA h.size X' e' E' ((Arv.new A' hn).pad (pad_rep [] _ k)) rfl)
theorem g_stC (X : Stand p l e R s m args below meth c T locs cells slots) (hx : p.tables.exec = Jvm.exec) (hby : c.code = code) (hZ : Z.Warmed39 s.vm) {cA : ClassId} {n j x : Int32} {vs : List Value} {dv : Value} (eT : T.heap = h) (V : Arv Z h a cA .char n vs dv) (hj : ¬ j < 0 ∧ j < n) (i : Nat) (hi : j.toNatClampNeg = i) (hl : i < vs.length) (hst : st = .int x :: .int j :: .ref a :: st') (hd : decode code pc = .ok (.castore, 1)) (hp : pc + 1 = pc') {k0 : Nat} (N : Fr k0 locs) (q : k0 ≤ a)
    (g : ∀ (T' : State) (h' : Heap), Stand p l e R s m args below meth c T' (locs ++ [⟨a, j.toNatClampNeg⟩]) cells slots → T'.heap = h' → Wr h h' a j.toNatClampNeg (.int (nar .char x)) → Fr k0 (locs ++ [⟨a, j.toNatClampNeg⟩]) → Arv Z h' a cA .char n (vs.set i (.int (nar .char x))) dv → Gf p e below P T' m pc' Ls st') : Gf p e below P T m pc Ls st := by
  subst hp hst
  obtain ⟨c1, A1, q1, S1, M1, H1, U1⟩ := id V
  obtain ⟨T', h', X', e', W', k'⟩ := stC X hx hZ eT A1 (inb_of S1 hj) (g := mkF m pc Ls _) rfl rfl (hb hby hd)
  exact Go.step k' (g T' h' X' e' W' (Fr.snoc X' N q) (Arv.set A1 q1 S1 M1 H1 U1 (fits_nar_char _) W' i hi hl))
theorem g_stD (X : Stand p l e R s m args below meth c T locs cells slots) (hx : p.tables.exec = Jvm.exec) (hby : c.code = code) (hZ : Z.Warmed39 s.vm) {cA : ClassId} {n j : Int32} {x : UInt64} {vs : List Value} {dv : Value} (eT : T.heap = h) (V : Arv Z h a cA .double n vs dv) (hj : ¬ j < 0 ∧ j < n) (i : Nat) (hi : j.toNatClampNeg = i) (hl : i < vs.length) (hst : st = .double x :: .int j :: .ref a :: st') (hd : decode code pc = .ok (.dastore, 1)) (hp : pc + 1 = pc') {k0 : Nat} (N : Fr k0 locs) (q : k0 ≤ a)
    (g : ∀ (T' : State) (h' : Heap), Stand p l e R s m args below meth c T' (locs ++ [⟨a, j.toNatClampNeg⟩]) cells slots → T'.heap = h' → Wr h h' a j.toNatClampNeg (.double x) → Fr k0 (locs ++ [⟨a, j.toNatClampNeg⟩]) → Arv Z h' a cA .double n (vs.set i (.double x)) dv → Gf p e below P T' m pc' Ls st') : Gf p e below P T m pc Ls st := by
  subst hp hst
  obtain ⟨c1, A1, q1, S1, M1, H1, U1⟩ := id V
  obtain ⟨T', h', X', e', W', k'⟩ := stD X hx hZ eT A1 (inb_of S1 hj) (g := mkF m pc Ls _) rfl rfl (hb hby hd)
  exact Go.step k' (g T' h' X' e' W' (Fr.snoc X' N q) (Arv.set A1 q1 S1 M1 H1 U1 rfl W' i hi hl))
theorem g_ldD (X : Stand p l e R s m args below meth c T locs cells slots) (hx : p.tables.exec = Jvm.exec) (hby : c.code = code) (hZ : Z.Warmed39 s.vm) {cA : ClassId} {n j : Int32} {v : UInt64} {vs : List Value} {dv : Value} (eT : T.heap = h) (V : Arv Z h a cA .double n vs dv) (hj : ¬ j < 0 ∧ j < n) (hv : vs.getD j.toNatClampNeg dv = .double v) (hst : st = .int j :: .ref a :: st') (hd : decode code pc = .ok (.daload, 1)) (hp : pc + 1 = pc')
    (g : Gf p e below P T m pc' Ls (.double v :: st')) : Gf p e below P T m pc Ls st := by
  subst hp hst
  obtain ⟨c1, A1, q1, S1, M1, H1, U1⟩ := id V
  have hj' := inb_of S1 hj
  exact Go.step (fun t k => X.daload hx (a := a) (cell := c1) (j := j) (v := .double v) (by rw [eT]; exact A1.1) (State.isArrayOf_alike hZ.alike A1.2.1) A1.2.2 hj' (Has.at H1 hj' hv) (g := mkF m pc Ls _) rfl rfl (hb hby hd) t k) g
theorem g_absD (X : Stand p l e R s m args below meth c T locs cells slots) (hx : p.tables.exec = Jvm.exec) (hby : c.code = code) (hml : Ls.size = c.maxLocals) (hZ : Z.Warmed39 s.vm) (hown : s.vm.findClass own = some m.cls) {i : Nat} {x v : UInt64} (eT : T.heap = h) (w1 : (Cond.methodLink own i Jvm.Free.Fl.Abs.absDN).before a0 Z = true) (w2 : (Cond.static Jvm.Free.Fl.Abs.absDN).before a0 Z = true) (w3 : (Cond.initialized "java/lang/Math").before a0 Z = true) (w4 : (Cond.code Jvm.Free.Fl.Abs.absDN Jvm.Free.Fl.Abs.absDCode 2 (some .double)).before a0 Z = true)
    (hn : Jvm.Free.Fl.NoNaN64 x) (hv : x &&& 0x7fffffffffffffff = v) (hst : st = .double x :: st') {W : Nat} (hW : 2 * 0 + (st'.map fun v => v.category).sum = W) (hf : 1 ≤ R.frames) (hl : W + 13 ≤ R.locals) (hc : cells ≤ R.cells) (hs : slots ≤ R.slots) (hd : decode code pc = .ok (.invokestatic i, 3)) (hp : pc + 3 = pc')
    (g : ∀ (T' : State), Stand p l e R s m args below meth c T' locs cells slots → T'.heap = h → Gf p e below P T' m pc' Ls (.double v :: st')) : Gf p e below P T m pc Ls st := by
  subst hp hst hv
  obtain ⟨T', X', e', k⟩ := natS X hx hZ hown w1 w2 w3 w4 (by decide) eT (F := fun a' => a' = #[.double x] ∧ Jvm.Free.Fl.NoNaN64 x) (fun hcode => Jvm.Free.Fl.Abs.absD_pays x hcode hf hl) (g := mkF m pc Ls _) rfl hml (argsL := [.double x]) (rest := st') (lenOf (ps := [.double]) (r := some .double) (by decide +kernel) rfl) rfl (Nat.le_of_eq hW) (hb hby hd) hc hs ⟨rfl, hn⟩ rfl
  exact Go.step k (g T' X' e')
theorem g_maxD (X : Stand p l e R s m args below meth c T locs cells slots) (hx : p.tables.exec = Jvm.exec) (hby : c.code = code) (hml : Ls.size = c.maxLocals) (hZ : Z.Warmed39 s.vm) (hown : s.vm.findClass own = some m.cls) {i : Nat} {x y v : UInt64} (eT : T.heap = h) (w1 : (Cond.methodLink own i Jvm.Free.Fl.Abs.maxDN).before a0 Z = true) (w2 : (Cond.static Jvm.Free.Fl.Abs.maxDN).before a0 Z = true) (w3 : (Cond.initialized "java/lang/Math").before a0 Z = true) (w4 : (Cond.code Jvm.Free.Fl.Abs.maxDN Jvm.Free.Fl.Abs.maxDCode 4 (some .double)).before a0 Z = true)
    (hn : Jvm.Free.Fl.NoNaN64 x) (hm : Jvm.Free.Fl.NoNaN64 y) (hv : Jvm.Native.java_lang_Math.nans.pick64 true x y = v) (hst : st = .double y :: .double x :: st') {W : Nat} (hW : 2 * 0 + (st'.map fun v => v.category).sum = W) (hf : 1 ≤ R.frames) (hl : W + 15 ≤ R.locals) (hc : cells ≤ R.cells) (hs : slots ≤ R.slots) (hd : decode code pc = .ok (.invokestatic i, 3)) (hp : pc + 3 = pc')
    (g : ∀ (T' : State), Stand p l e R s m args below meth c T' locs cells slots → T'.heap = h → Gf p e below P T' m pc' Ls (.double v :: st')) : Gf p e below P T m pc Ls st := by
  subst hp hst hv
  obtain ⟨T', X', e', k⟩ := natS X hx hZ hown w1 w2 w3 w4 (by decide) eT (F := fun a' => a' = #[.double x, .double y] ∧ Jvm.Free.Fl.NoNaN64 x ∧ Jvm.Free.Fl.NoNaN64 y) (fun hcode => Jvm.Free.Fl.Abs.maxD_pays x y hcode hf hl) (g := mkF m pc Ls _) rfl hml (argsL := [.double x, .double y]) (rest := st') (lenOf (ps := [.double, .double]) (r := some .double) (by decide +kernel) rfl) rfl (Nat.le_of_eq hW) (hb hby hd) hc hs ⟨rfl, hn, hm⟩ rfl
  exact Go.step k (g T' X' e')
theorem g_pop2D (X : Stand p l e R s m args below meth c T locs cells slots) (hx : p.tables.exec = Jvm.exec) (hby : c.code = code) {x : UInt64} (hd : decode code pc = .ok (.pop2, 1)) (hst : st = .double x :: st') (hp : pc + 1 = pc') (g : Gf p e below P T m pc' Ls st') : Gf p e below P T m pc Ls st := by
  subst hp hst
  have hd' := hb hby hd
  refine Go.step (fun t k => ?_) g
  show Steps p.tables e below (T.setTop { method := m, pc := pc, locals := Ls, stack := .double x :: st', locked := none }) t
  jvm_step X.here [X.here.top, hx, hd', Value.category]
  exact k
/-! where a String constant may be loaded for the first time: the Stand lies over (s.setVm vm0) -/
theorem g_ldcS {vm0 : Vm} (X : Stand p l e R (s.setVm vm0) m args below meth c T locs cells slots) (hx : p.tables.exec = Jvm.exec) (hby : c.code = code) (hZ : Z.Warmed39 vm0) (hown : vm0.findClass own = some m.cls) {i n : Nat} {text : String} (w : (Cond.stringLink own i text).before a0 Z = true) (wS : ∀ a ∈ Bundle.stringAtoms, a.before a0 Z = true) (eT : T.heap = h) {k0 : Nat} (hS : s.Since vm0 k0) (hk : k0 ≤ h.size)
    (hd : decode code pc = .ok (.ldc i, 2)) (hp : pc + 2 = pc') (hn : 4 * text.toList.length ≤ n) (hbig : n ≤ 536870912) (hc : cells + 2 ≤ R.cells) (hl : slots + (n + 4) ≤ R.slots)
    (g : ∀ (a : Addr) (T' : State) (h' : Heap) (k1 : Nat), Stand p l e R (s.setVm T'.vm) m args below meth c T' locs (cells + 2) (slots + (n + 4)) → T'.heap = h' → Ext h h' → s.Since T'.vm k1 → k1 ≤ h'.size → Z.Warmed39 (s.setVm T'.vm).vm → (s.setVm T'.vm).vm.findClass own = some m.cls → Gf p e below P T' m pc' Ls (.ref a :: st)) : Gf p e below P T m pc Ls st := by
  subst hp
  obtain ⟨a, T', h', k1, X', e', E', hS', hk', hZ', hown', k⟩ := ldcS X hx hZ hown w wS eT hS hk (g := mkF m pc Ls st) rfl (hb hby hd) hn hbig hc hl
  exact Go.step k (g a T' h' k1 X' e' E' hS' hk' hZ' hown')
def ConW (l : Launch) (Z : State) (y : MethodName) (bytes : ByteArray) (maxL : Nat) (ret : Option FieldType) (ws : List Cond) (rm : Room) (as : Array Value) (h : Heap) (Q : Option Value → Heap → List Loc → Prop) : Prop :=
  MetFree l y (head1 (Cond.code y bytes maxL ret :: ws) rm) (fun a U => a = as ∧ Z.Warmed39 U.vm ∧ U.heap = h) (fun _ _ _ _ _ => True) (fun _ U o U' => ∃ v L, o = .returned v ∧ Q v U'.heap L ∧ ReturnedEndW U o U' L rm.cells rm.slots)
def FinW (l : Launch) (s : State) (rm : Room) (Q : Option Value → Heap → List Loc → Prop) (P : Outcome → State → Prop) : Prop := ∀ o U, (∃ v L, o = .returned v ∧ Q v U.heap L ∧ ReturnedEndW s o U L rm.cells rm.slots) → P o U
theorem ConW.start {y : MethodName} {bytes : ByteArray} {maxL : Nat} {ret : Option FieldType} {ws : List Cond} {as : Array Value} (Ls : Array Slot) (hn : plainFor y = true) (hef : ∀ m, entryFrame m as maxL = mkF m 0 Ls [])
    (k : ∀ (p : Program) (e : Env) (s : State) (m : MethodId) (below : List Frame) (meth : Method) (c : Code) (s₁ : State) (P : Outcome → State → Prop), Stand p l e rm (s.setVm s.vm) m as below meth c s₁ [] 0 0 → p.tables.exec = Jvm.exec → c.code = bytes → c.maxLocals = maxL → meth.sig.returnType = ret → meth.locks = false → (s.setVm s.vm).vm.findClass y.cls = some m.cls → meth.name = y.name → Z.Warmed39 (s.setVm s.vm).vm → s₁.heap = h → FinW l s rm Q P → s.Since s.vm 0 → Gf p e below P s₁ m 0 Ls []) :
    ConW l Z y bytes maxL ret ws rm as h Q := by
  refine MetFree.of_bodySF hn hisR ?_
  intro p e s m args below meth c s₁ Bd hml0 hP hK
  obtain ⟨rfl, hZ, hh⟩ := hP
  have e0 : s₁.heap = h := by rw [← hh, Bd.state]; rfl
  obtain ⟨s2, o, h1, h2⟩ := k p e s m below meth c s₁ _ (Stand.of_body Bd) Bd.exec Bd.bytes hml0 Bd.returns (BodyLoose.notSynchronized Bd) (findClass_of_methodNamed Bd.named) (name_of_methodNamed Bd.named Bd.method).1 hZ e0 (fun o U q => q) ((State.WarmedH.refl s).since 0)
  exact ⟨s2, o, castTop (hef m) h1, h2⟩
theorem own_endW {s t : State} {o : Outcome} {L : List Loc} {k n k' n' : Nat} (h : ReturnedEndW s o t L k n) (hk : k ≤ k') (hn : n ≤ n') : ReturnedEndW s o t L k' n' := ⟨h.1, h.2.1, h.2.2.1, h.2.2.2.mono hk hn⟩
theorem g_retVW {vm0 : Vm} (X : Stand p l e R (s.setVm vm0) m args below meth c T locs cells slots) (hx : p.tables.exec = Jvm.exec) (hby : c.code = code) {k0 : Nat} (hS : s.Since vm0 k0) (hk : k0 ≤ h.size) (hf : FinW l s rm Q P) (hlk : meth.locks = false) {t : FieldType} {i : Instr} {w : Value} (hret : meth.sig.returnType = some t) (hd : decode code pc = .ok (i, 1)) (hst : st = w :: st') (hn : narrow t w = w)
    (hi : (i = .ireturn ∧ (t = .int ∨ t = .boolean ∨ t = .byte ∨ t = .char ∨ t = .short) ∧ ∃ z, w = .int z) ∨ (i = .lreturn ∧ t = .long ∧ ∃ z, w = .long z) ∨ (i = .dreturn ∧ t = .double ∧ ∃ z, w = .double z) ∨ (i = .freturn ∧ t = .float ∧ ∃ z, w = .float z) ∨ (i = .areturn ∧ t.isReference = true ∧ w.isRef = true))
    (hc : cells ≤ rm.cells) (hs : slots ≤ rm.slots) (eT : T.heap = h) (q : Q (some w) h locs) : Gf p e below P T m pc Ls st := by
  subst hst
  obtain ⟨fs, hr, hrun, hended, hE⟩ := X.leaveW hS (by rw [eT]; exact hk) (v := some w) (fun q => by rw [hret] at q; cases q) hlk
  exact ⟨_, _, retOut X hx hret hn hi (hb hby hd) hr, hrun, hended, hf _ _ ⟨_, _, rfl, by show Q (some w) T.heap locs; rw [eT]; exact q, own_endW hE hc hs⟩⟩
theorem g_retZW {vm0 : Vm} (X : Stand p l e R (s.setVm vm0) m args below meth c T locs cells slots) (hx : p.tables.exec = Jvm.exec) (hby : c.code = code) {k0 : Nat} (hS : s.Since vm0 k0) (hk : k0 ≤ h.size) (hf : FinW l s rm Q P) (hlk : meth.locks = false) {t : FieldType} {z w : Int32} (hret : meth.sig.returnType = some t) (hd : decode code pc = .ok (.ireturn, 1)) (hst : st = .int z :: st') (ht : t = .boolean ∨ t = .byte ∨ t = .char ∨ t = .short)
    (hw : nar t z = w) (hc : cells ≤ rm.cells) (hs : slots ≤ rm.slots) (eT : T.heap = h) (q : Q (some (.int w)) h locs) : Gf p e below P T m pc Ls st := by
  subst hst hw
  obtain ⟨fs, hr, hrun, hended, hE⟩ := X.leaveW hS (by rw [eT]; exact hk) (v := some (.int (nar t z))) (fun q => by rw [hret] at q; cases q) hlk
  exact ⟨_, _, retN X hx hret ht (hb hby hd) hr, hrun, hended, hf _ _ ⟨_, _, rfl, by show Q (some (.int (nar t z))) T.heap locs; rw [eT]; exact q, own_endW hE hc hs⟩⟩
theorem g_retW {vm0 : Vm} (X : Stand p l e R (s.setVm vm0) m args below meth c T locs cells slots) (hx : p.tables.exec = Jvm.exec) (hby : c.code = code) {k0 : Nat} (hS : s.Since vm0 k0) (hk : k0 ≤ h.size) (hf : FinW l s rm Q P) (hlk : meth.locks = false) (hret : meth.sig.returnType = none) (hd : decode code pc = .ok (.return_, 1)) (hst : st = [])
    (hc : cells ≤ rm.cells) (hs : slots ≤ rm.slots) (eT : T.heap = h) (q : Q none h locs) : Gf p e below P T m pc Ls st := by
  subst hst
  obtain ⟨fs, hr, hrun, hended, hE⟩ := X.leaveW hS (by rw [eT]; exact hk) (v := none) (fun _ => rfl) hlk
  exact ⟨_, _, X.returnOut hx hret (hb hby hd) hr, hrun, hended, hf _ _ ⟨_, _, rfl, by show Q none T.heap locs; rw [eT]; exact q, own_endW hE hc hs⟩⟩
theorem g_initW {vm0 : Vm} (X : Stand p l e R (s.setVm vm0) m args below meth c T locs cells slots) (hx : p.tables.exec = Jvm.exec) (hby : c.code = code) (hml : Ls.size = c.maxLocals) (hZ : Z.Warmed39 (s.setVm vm0).vm) (hown : (s.setVm vm0).vm.findClass own = some m.cls) {k0 : Nat} (hS : s.Since vm0 k0) (hk : k0 ≤ h.size) {i : Nat} {y : MethodName} {bytes : ByteArray} {maxL W : Nat} {ps : List FieldType} {argsL : List Value} (hy1 : y.name = "<init>") (eT : T.heap = h)
    (hM : ConW l Z y bytes maxL none [] rm (.ref a :: argsL).toArray h Q) (w1 : (Cond.methodLink own i y).before a0 Z = true) (w2 : (Cond.instanceMethod y).before a0 Z = true) (w3 : (Cond.initialized y.cls).before a0 Z = true) (w4 : (Cond.code y bytes maxL none).before a0 Z = true) (hy : y.cls ≠ "java/lang/invoke/MethodHandle" ∧ y.cls ≠ "java/lang/invoke/VarHandle")
    (hpd : parseMethodDescriptor y.desc = some ⟨ps, none⟩) (hlen : argsL.length = ps.length) (hst : st = argsL.reverse ++ .ref a :: st') (hW : 2 * 0 + (st'.map fun v => v.category).sum = W) (hf : rm.frames + 1 ≤ R.frames) (hl : W + (maxL + 11) + rm.locals ≤ R.locals) (hc : cells + rm.cells ≤ R.cells) (hs : slots + rm.slots ≤ R.slots)
    (hd : decode code pc = .ok (.invokespecial i, 3)) (hp : pc + 3 = pc')
    (g : ∀ (T' : State) (v : Option Value) (L : List Loc), Stand p l e R (s.setVm T'.vm) m args below meth c T' (locs ++ L) (cells + rm.cells) (slots + rm.slots) → Q v T'.heap L → s.Since T'.vm T'.heap.size → Z.Warmed39 (s.setVm T'.vm).vm → (s.setVm T'.vm).vm.findClass own = some m.cls → Gf p e below P T' m pc' Ls (v.toList ++ st')) : Gf p e below P T m pc Ls st := by
  subst hp hst
  obtain ⟨v, _, ⟨T', L', k', n'⟩, -, X', hS', hgr, ⟨Lc, hQ, hl', hy', hz'⟩, k⟩ := X.specialBackS hx (y := y) hy1 hown (mvT hZ w1) (mvT hZ w2) (mvT hZ w4) hy (backOfS (W := W) hM hZ w4 w3 hf hl) (g := mkF m pc Ls _) rfl hml (Steps.refl _) (a := a) (argsL := argsL) (rest := st') (lenOf hpd hlen) rfl (Nat.le_of_eq hW) (hb hby hd) (fun _ _ => ⟨rfl, eT, hc, hs⟩)
  dsimp only [Pt.U, Pt.locs, Pt.cells, Pt.slots] at X' hl' hy' hz' k hQ hS' hgr
  subst hl' hy' hz'
  have hZ' : Z.Warmed39 (s.setVm T'.vm).vm := State.Warmed39.trans (t := s.setVm vm0) hZ hS'.1
  exact Go.step (fun t k2 => k.trans k2) (g T' v Lc X' hQ (foldS hS (by rw [eT]; exact hk) hS' hgr) hZ' (by rw [show (s.setVm T'.vm).vm = T'.vm from rfl, hS'.1.alike.findClass]; exact hown))
theorem own_join {G : Prop} (P : Outcome → State → Prop) (X : Stand p l e R s m args below meth c T locs cells slots) (eT : T.heap = h) (pc : Nat) (Ls : Array Slot) (st : List Value) (J : ∀ T', Stand p l e R s m args below meth c T' locs cells slots → T'.heap = h → Gf p e below P T' m pc Ls st)
    (k : (∀ T', Stand p l e R s m args below meth c T' locs cells slots → T'.heap = h → Gf p e below P T' m pc Ls st) → G) : G := k J
end Steps1
theorem own_sta_keep {Z : State} {h h' : Heap} {ws : List Addr} {C n d : String} {v : Value} (F : Sta Z h C n d v) (K : Keep h h' ws) (q : ∀ x ∈ ws, ∃ C', Exa Z h x C') : Sta Z h' C n d v := by
  obtain ⟨cf, i, k, f, st, cell, h1, h2, h3, h4, h5, h6, h7⟩ := F
  refine ⟨cf, i, k, f, st, cell, h1, h2, h3, h4, K.2.1 st cell h5 fun hm => ?_, h6, h7⟩
  obtain ⟨C', cell', _, g1, -, -, g4, -⟩ := q st hm
  cases h5.symm.trans g1
  rw [g4] at h6
  cases h6
theorem own_ef {m : MethodId} {as : Array Value} {n : Nat} {Ls : Array Slot} (h : Jvm.Sym.laidSlots as.toList ++ List.replicate (n - (Jvm.Sym.laidSlots as.toList).length) .unset = Ls.toList) : entryFrame m as n = mkF m 0 Ls [] := by
  have e : argsToLocals as n = Ls := Array.toList_inj.mp (by rw [Jvm.Sym.argsToLocals_toList]; exact h)
  first | exact congrArg (fun L => mkF m 0 L []) e | (show mkF m 0 (argsToLocals as n) [] = mkF m 0 Ls []; rw [e])
theorem own_fitZ {z : Int32} (h : z = 0 ∨ z = 1) : fits .boolean (.int z) = true := by rcases h with rfl | rfl <;> rfl
theorem own_narZ {z : Int32} (h : z = 0 ∨ z = 1) : narrow .boolean (.int z) = .int z := by rcases h with rfl | rfl <;> rfl
theorem own_nar {z : Int32} (h : z = 0 ∨ z = 1) : nar .boolean z = z := by rcases h with rfl | rfl <;> rfl
theorem own_01 {c : Prop} [Decidable c] {z : Int32} (h : z = if c then 0 else 1) : z = 0 ∨ z = 1 := by subst h; split <;> simp
theorem own_10 {c : Prop} [Decidable c] {z : Int32} (h : z = if c then 1 else 0) : z = 0 ∨ z = 1 := by subst h; split <;> simp
end Jvm.Own
namespace Jvm.Own
open Jvm.FP Jvm.FP.Core
/-- a double's value in units of 2^(-1074) -/
abbrev zv (a : UInt64) : Int := zval b64 (val64 a)
theorem own_qmin : b64.qmin = -1074 := by decide +kernel
theorem own_qmax : b64.qmax = 971 := by decide +kernel
theorem ring1 {za zb d d' n n' o zV : Int} (h1 : za * d = n * o) (h2 : zb * d' = n' * o) (h3 : zV * (d * d') = n * n' * o) : za * zb * (d * d') = zV * o * (d * d') := by
  calc za * zb * (d * d') = (za * d) * (zb * d') := by ac_rfl
    _ = n * o * (n' * o) := by rw [h1, h2]
    _ = (n * n' * o) * o := by ac_rfl
    _ = zV * o * (d * d') := by rw [← h3]; ac_rfl
theorem ring2 {za zb d d' k n n' m o zV : Int} (h1 : za * d = n * o) (h2 : zb * d' = n' * o) (h3 : zV * k = m * o) (h : m * (d * n') = n * (d' * k)) : za * o * (d * (d' * k)) = zV * zb * (d * (d' * k)) := by
  calc za * o * (d * (d' * k)) = (za * d) * (o * (d' * k)) := by ac_rfl
    _ = (n * (d' * k)) * (o * o) := by rw [h1]; ac_rfl
    _ = (m * (d * n')) * (o * o) := by rw [h]
    _ = (m * o) * ((n' * o) * d) := by ac_rfl
    _ = (zV * k) * ((zb * d') * d) := by rw [h2, h3]
    _ = zV * zb * (d * (d' * k)) := by ac_rfl
theorem ring3 {z d d' n o : Int} (h : z * d = n * o) : z * (d * d') = n * d' * o := by rw [← Int.mul_assoc, h]; ac_rfl
theorem ring4 {z d d' n o : Int} (h : z * d' = n * o) : z * (d * d') = n * d * o := by rw [Int.mul_comm d, ← Int.mul_assoc, h]; ac_rfl
theorem own_fin {a : UInt64} (h : DFin a) : ∃ s c q, val64 a = .fin s c q ∧ Jvm.FP.Core.fits b64 (.fin s c q) := by
  obtain ⟨s, c, q, h⟩ := h
  exact ⟨s, c, q, h, h ▸ val64_fits a⟩
/-- what has a finite number's value is finite -/
theorem own_fin_of {x V : UInt64} (hx : val64 x ≠ .nan) (hV : DFin V) (h : (zv x).natAbs ≤ (zv V).natAbs) : DFin x := by
  have h1 := hV.zval_lt
  cases hv : val64 x with
  | nan => exact absurd hv hx
  | fin s c q => exact ⟨s, c, q, hv⟩
  | inf s =>
    exfalso
    unfold zv zval at h
    rw [natAbs_signed, natAbs_signed, hv] at h
    have h2 : b64.tails * 2 ^ (b64.exps - 2) ≤ zmag b64 (val64 V) := h
    exact absurd h1 (Nat.not_lt.mpr h2)
/-- Rv a n d: a is finite and of the value n / d -/
def Rv (a : UInt64) (n : Int) (d : Nat) : Prop := DFin a ∧ zv a * (d : Int) = n * (one64 : Int)
theorem one_pos : 0 < (one64 : Int) := Int.natCast_pos.mpr one64_pos
theorem round_units {s : Bool} {c : Nat} {q e0 : Int} {V : UInt64} (hV : DFin V) (h0 : e0 ≤ b64.qmin) (h0e : e0 ≤ q) (h : signed s (inUnits c q e0) = zv V * ((2 ^ (b64.qmin - e0).toNat : Nat) : Int)) : zval b64 (round b64 (.fin s c q)) = zv V := by
  have h1 := zval_round_le good_b64 (V := val64 V) (val64_fits V) hV.ne_nan h0 h0e (Int.le_of_eq h)
  have h2 := zval_round_ge good_b64 (V := val64 V) (val64_fits V) hV.ne_nan h0 h0e (Int.le_of_eq h.symm)
  exact Int.le_antisymm h1 h2
theorem dadd_zv {a b V : UInt64} (ha : DFin a) (hb : DFin b) (hV : DFin V) (h : zv a + zv b = zv V) : DFin (FP.dadd a b) ∧ zv (FP.dadd a b) = zv V := by
  have hn : val64 (FP.dadd a b) ≠ .nan := (notNaN_iff _).mp (dadd_out ha.notNaN hb)
  obtain ⟨s, c, q, h1, f1⟩ := own_fin ha
  obtain ⟨t, d, r, h2, f2⟩ := own_fin hb
  obtain ⟨sg, n, e, p1, p2, p3⟩ := sum_units f1 f2
  have hz : zv (FP.dadd a b) = zv V := by
    show zval b64 (val64 (Core.dadd a b)) = _
    rw [val64_dadd, h1, h2, p1]
    refine round_units hV (Int.le_refl _) p2 ?_
    rw [p3, Int.sub_self, Int.toNat_zero, Nat.pow_zero, ← h, ← h1, ← h2]
    exact (Int.mul_one _).symm
  exact ⟨own_fin_of hn hV (Nat.le_of_eq (by rw [hz])), hz⟩
theorem zv_dneg (a : UInt64) : zv (FP.dneg a) = -zv a := by
  show zval b64 (val64 (FP.dneg a)) = _
  rw [Jvm.FP.val64_dneg, zval_negate]
theorem fin_dneg {a : UInt64} (h : DFin a) : DFin (FP.dneg a) := by
  obtain ⟨s, c, q, h⟩ := h
  exact ⟨!s, c, q, by rw [Jvm.FP.val64_dneg, h]; rfl⟩
theorem dsub_zv {a b V : UInt64} (ha : DFin a) (hb : DFin b) (hV : DFin V) (h : zv a - zv b = zv V) : DFin (FP.dsub a b) ∧ zv (FP.dsub a b) = zv V := by
  have e : FP.dsub a b = FP.dadd a (FP.dneg b) := by rw [Jvm.FP.dneg_core hb.notNaN]; exact dsub_eq a b
  rw [e]
  refine dadd_zv ha (fin_dneg hb) hV ?_
  rw [zv_dneg]; omega
theorem dmul_zv {a b V : UInt64} (ha : DFin a) (hb : DFin b) (hV : DFin V) (h : zv a * zv b = zv V * (one64 : Int)) : DFin (FP.dmul a b) ∧ zv (FP.dmul a b) = zv V := by
  have hn : val64 (FP.dmul a b) ≠ .nan := (notNaN_iff _).mp (dmul_out ha hb)
  obtain ⟨s, c, q, h1, f1⟩ := own_fin ha
  obtain ⟨t, d, r, h2, f2⟩ := own_fin hb
  obtain ⟨p1, p2, p3⟩ := product_units f1 f2
  have hz : zv (FP.dmul a b) = zv V := by
    show zval b64 (val64 (Core.dmul a b)) = _
    rw [val64_dmul, h1, h2, p1]
    refine round_units hV (by have := own_qmin; omega) p2 ?_
    rw [p3, signed_xor, show (b64.qmin - 2 * b64.qmin).toNat = (-b64.qmin).toNat by omega, pow_qmin64, ← h]
    show _ = zval b64 (val64 a) * zval b64 (val64 b)
    rw [h1, h2]; rfl
  exact ⟨own_fin_of hn hV (Nat.le_of_eq (by rw [hz])), hz⟩
/-- the quotient of two finite numbers, as a rounding -/
theorem ddiv_val {a b : UInt64} {s t : Bool} {c d : Nat} {q r : Int} (h1 : val64 a = .fin s c q) (h2 : val64 b = .fin t d r) (hd : d ≠ 0) : val64 (FP.ddiv a b) = roundRatio b64 (s != t) c d (q - r) := by
  show val64 (Core.ddiv a b) = _
  rw [val64_ddiv, h1, h2]
  simp only [quotient, if_neg hd]
theorem zero_of {b : UInt64} {t : Bool} {d : Nat} {r : Int} (h2 : val64 b = .fin t d r) (hz : zv b ≠ 0) : d ≠ 0 := by
  intro h0
  apply hz
  show zval b64 (val64 b) = 0
  rw [h2, h0]
  show signed t (inUnits 0 r b64.qmin) = 0
  unfold inUnits
  rw [Nat.zero_mul, signed_zero]
theorem zv_mag {a : UInt64} {s : Bool} {c : Nat} {q : Int} (h : val64 a = .fin s c q) : zv a = signed s (inUnits c q b64.qmin) := by
  show zval b64 (val64 a) = _
  rw [h]; rfl
theorem ddiv_units {a b : UInt64} {s t : Bool} {c d : Nat} {q r : Int} (f1 : Jvm.FP.Core.fits b64 (.fin s c q)) (f2 : Jvm.FP.Core.fits b64 (.fin t d r)) :
    (2 * b64.qmin - r ≤ b64.qmin ∧ 2 * b64.qmin - r ≤ q - r) ∧ inUnits c (q - r) (2 * b64.qmin - r) = inUnits c q b64.qmin * one64 ∧ ∀ V : Nat, V * 2 ^ (b64.qmin - (2 * b64.qmin - r)).toNat * d = V * inUnits d r b64.qmin := by
  have hx1 := f1.2.1
  have hy1 := f2.2.1
  refine ⟨⟨by omega, by have := own_qmin; omega⟩, ?_, fun V => ?_⟩
  · rw [← pow_qmin64]; unfold inUnits
    rw [Nat.mul_assoc, ← Nat.pow_add]; congr 2; have := own_qmin; omega
  · unfold inUnits
    rw [Nat.mul_assoc, Nat.mul_comm _ d]; congr 3; omega
theorem ddiv_zv_le {a b V : UInt64} (ha : DFin a) (hb : DFin b) (hz : zv b ≠ 0) (hV : DFin V) (h : (zv a).natAbs * one64 ≤ (zv V).natAbs * (zv b).natAbs) : (zv (FP.ddiv a b)).natAbs ≤ (zv V).natAbs := by
  obtain ⟨s, c, q, h1, f1⟩ := own_fin ha
  obtain ⟨t, d, r, h2, f2⟩ := own_fin hb
  obtain ⟨u, k, w, h3, f3⟩ := own_fin hV
  have hd := zero_of h2 hz
  obtain ⟨⟨p1, p2⟩, p3, p4⟩ := ddiv_units (a := a) (b := b) f1 f2
  have hv := ddiv_val h1 h2 hd
  rw [zv_mag h1, zv_mag h2, zv_mag h3, natAbs_signed, natAbs_signed, natAbs_signed] at h
  unfold zv zval
  rw [natAbs_signed, natAbs_signed, hv, h3]
  refine zmag_roundRatio_le good_b64 (Nat.pos_of_ne_zero hd) f3 (by simp) p1 p2 ?_
  rw [p3, p4]
  exact h
theorem ddiv_zv_ge {a b V : UInt64} (ha : DFin a) (hb : DFin b) (hz : zv b ≠ 0) (hV : DFin V) (h : (zv V).natAbs * (zv b).natAbs ≤ (zv a).natAbs * one64) : (zv V).natAbs ≤ (zv (FP.ddiv a b)).natAbs := by
  obtain ⟨s, c, q, h1, f1⟩ := own_fin ha
  obtain ⟨t, d, r, h2, f2⟩ := own_fin hb
  obtain ⟨u, k, w, h3, f3⟩ := own_fin hV
  have hd := zero_of h2 hz
  obtain ⟨⟨p1, p2⟩, p3, p4⟩ := ddiv_units (a := a) (b := b) f1 f2
  have hv := ddiv_val h1 h2 hd
  rw [zv_mag h1, zv_mag h2, zv_mag h3, natAbs_signed, natAbs_signed, natAbs_signed] at h
  unfold zv zval
  rw [natAbs_signed, natAbs_signed, hv, h3]
  refine zmag_roundRatio_ge good_b64 (Nat.pos_of_ne_zero hd) f3 p1 p2 ?_
  rw [p3, p4]
  exact h
/-- the sign of a quotient -/
theorem ddiv_sign {a b : UInt64} (ha : DFin a) (hb : DFin b) (hz : zv b ≠ 0) : (0 ≤ zv a → 0 < zv b → 0 ≤ zv (FP.ddiv a b)) ∧ (zv a ≤ 0 → 0 < zv b → zv (FP.ddiv a b) ≤ 0) ∧ (0 ≤ zv a → zv b < 0 → zv (FP.ddiv a b) ≤ 0) ∧ (zv a ≤ 0 → zv b < 0 → 0 ≤ zv (FP.ddiv a b)) := by
  obtain ⟨s, c, q, h1, f1⟩ := own_fin ha
  obtain ⟨t, d, r, h2, f2⟩ := own_fin hb
  have hd := zero_of h2 hz
  have hv := ddiv_val h1 h2 hd
  have e3 : zv (FP.ddiv a b) = signed (s != t) (zmag b64 (val64 (FP.ddiv a b))) := by
    show signed (sgn (val64 (FP.ddiv a b))) _ = _
    rw [hv, sgn_roundRatio]
  have k0 : zv a = 0 → zv (FP.ddiv a b) = 0 := fun e => by
    have := ddiv_zv_le ha hb hz ha (by rw [e]; simp)
    rw [e] at this; omega
  have e1 := zv_mag h1
  have e2 := zv_mag h2
  cases s <;> cases t <;> simp [signed] at e1 e2 e3 <;> refine ⟨fun x y => ?_, fun x y => ?_, fun x y => ?_, fun x y => ?_⟩ <;> first | omega | (have := k0 (by omega); omega)
theorem ddiv_nn {a b : UInt64} (ha : DFin a) (hb : DFin b) (hz : zv b ≠ 0) : val64 (FP.ddiv a b) ≠ .nan := by
  obtain ⟨s, c, q, h1, f1⟩ := own_fin ha
  obtain ⟨t, d, r, h2, f2⟩ := own_fin hb
  rw [ddiv_val h1 h2 (zero_of h2 hz)]
  exact roundRatio_ne_nan _ _ _ _ _
theorem ddiv_zv {a b V : UInt64} (ha : DFin a) (hb : DFin b) (hz : zv b ≠ 0) (hV : DFin V) (h : zv a * (one64 : Int) = zv V * zv b) : DFin (FP.ddiv a b) ∧ zv (FP.ddiv a b) = zv V := by
  have hm : (zv a).natAbs * one64 = (zv V).natAbs * (zv b).natAbs := by
    have := congrArg Int.natAbs h
    rw [Int.natAbs_mul, Int.natAbs_mul, Int.natAbs_natCast] at this
    exact this
  have l1 := ddiv_zv_le ha hb hz hV (Nat.le_of_eq hm)
  have l2 := ddiv_zv_ge ha hb hz hV (Nat.le_of_eq hm.symm)
  have hn := ddiv_nn ha hb hz
  obtain ⟨s1, s2, s3, s4⟩ := ddiv_sign ha hb hz
  have p := one_pos
  refine ⟨own_fin_of hn hV l1, ?_⟩
  rcases Int.lt_or_gt_of_ne hz with hb' | hb'
  · rcases Int.le_total 0 (zv a) with ha' | ha'
    · have := s3 ha' hb'
      have : zv V ≤ 0 := by
        apply Int.not_lt.mp; intro hv
        have h1 := Int.mul_neg_of_pos_of_neg hv hb'
        have h2 := Int.mul_nonneg ha' (Int.le_of_lt p)
        omega
      omega
    · have := s4 ha' hb'
      have : 0 ≤ zv V := by
        apply Int.not_lt.mp; intro hv
        have h1 := Int.mul_pos_of_neg_of_neg hv hb'
        have h2 := Int.mul_nonpos_of_nonpos_of_nonneg ha' (Int.le_of_lt p)
        omega
      omega
  · rcases Int.le_total 0 (zv a) with ha' | ha'
    · have := s1 ha' hb'
      have : 0 ≤ zv V := by
        apply Int.not_lt.mp; intro hv
        have h1 := Int.mul_neg_of_neg_of_pos hv hb'
        have h2 := Int.mul_nonneg ha' (Int.le_of_lt p)
        omega
      omega
    · have := s2 ha' hb'
      have : zv V ≤ 0 := by
        apply Int.not_lt.mp; intro hv
        have h1 := Int.mul_pos hv hb'
        have h2 := Int.mul_nonpos_of_nonpos_of_nonneg ha' (Int.le_of_lt p)
        omega
      omega
/-- there is a double of each value m * 2^(e - 1074) -/
theorem rep (m : Int) (e : Nat) (hm : m.natAbs < 2 ^ 53) (he : e ≤ 2045) : ∃ V : UInt64, DFin V ∧ zv V = m * ((2 ^ e : Nat) : Int) := by
  have hq := own_qmin
  obtain ⟨c', q', h1, h2⟩ := round_exact good_b64 (decide (m < 0)) (c := m.natAbs) (q := (e : Int) - 1074) hm (by omega) (by rw [own_qmax]; omega)
  have hf := round_fits good_b64 (.fin (decide (m < 0)) m.natAbs ((e : Int) - 1074))
  have hv : val64 (of64 (round b64 (.fin (decide (m < 0)) m.natAbs ((e : Int) - 1074)))) = .fin (decide (m < 0)) c' q' := (val64_of64 hf).trans h1
  refine ⟨_, ⟨_, _, _, hv⟩, ?_⟩
  rw [zv_mag hv, h2]
  unfold inUnits
  rw [show ((e : Int) - 1074 - b64.qmin).toNat = e by omega, signed_mul]
  congr 1
  unfold signed
  by_cases h : m < 0 <;> simp [h] <;> omega
theorem rv_fin {a : UInt64} {n : Int} {d : Nat} (h : Rv a n d) : DFin a := h.1
theorem ex_rv (n : Int) (k : Nat) (hn : n.natAbs < 2 ^ 53) (hk : k ≤ 1074) : ∃ V, Rv V n (2 ^ k) := by
  obtain ⟨V, h1, h2⟩ := rep n (1074 - k) hn (by omega)
  refine ⟨V, h1, ?_⟩
  rw [h2, Int.mul_assoc, ← Int.natCast_mul, ← Nat.pow_add, show 1074 - k + k = 1074 by omega]; rfl
theorem ex_rvU (n : Int) (j : Nat) (hn : n.natAbs < 2 ^ 53) (hk : j ≤ 971) : ∃ V, Rv V (n * ((2 ^ j : Nat) : Int)) 1 := by
  obtain ⟨V, h1, h2⟩ := rep n (1074 + j) hn (by omega)
  refine ⟨V, h1, ?_⟩
  rw [h2, Nat.pow_add, Int.natCast_mul, Int.mul_comm ((2 ^ 1074 : Nat) : Int), ← Int.mul_assoc]
  exact Int.mul_one _
theorem rv_unique {a b : UInt64} {n : Int} {d : Nat} (hd : 0 < d) (ha : Rv a n d) (hb : Rv b n d) : zv a = zv b := by
  have h := ha.2.trans hb.2.symm
  exact Int.eq_of_mul_eq_mul_right (by omega) h
theorem rv_scale {a : UInt64} {n : Int} {d : Nat} (k : Nat) (h : Rv a n d) : Rv a (n * (k : Int)) (d * k) := by
  refine ⟨h.1, ?_⟩
  rw [Int.natCast_mul, ← Int.mul_assoc, h.2, Int.mul_assoc, Int.mul_assoc, Int.mul_comm (k : Int)]
theorem rv_unscale {a : UInt64} {n : Int} {d : Nat} (k : Nat) (hk : 0 < k) (h : Rv a (n * (k : Int)) (d * k)) : Rv a n d := by
  refine ⟨h.1, ?_⟩
  have h2 := h.2
  rw [Int.natCast_mul, ← Int.mul_assoc, Int.mul_assoc n, Int.mul_comm (k : Int) (one64 : Int), ← Int.mul_assoc] at h2
  exact Int.eq_of_mul_eq_mul_right (by omega) h2
theorem rv_i2d (n : Int32) : Rv (FP.i2d n) n.toInt 1 := ⟨i2d_fin n, by rw [show ((1 : Nat) : Int) = 1 from rfl, Int.mul_one]; exact DInt_zval (i2d_int n)⟩
theorem rv_l2d {n : Int64} (h : n.toInt.natAbs ≤ 2 ^ 53) : Rv (FP.l2d n) n.toInt 1 := ⟨l2d_fin n, by rw [show ((1 : Nat) : Int) = 1 from rfl, Int.mul_one]; exact DInt_zval (l2d_int h)⟩
theorem rv_neg {a : UInt64} {n : Int} {d : Nat} (h : Rv a n d) : Rv (FP.dneg a) (-n) d := ⟨fin_dneg h.1, by rw [zv_dneg, Int.neg_mul, Int.neg_mul, h.2]⟩
theorem rv_add {a b V : UInt64} {n n' : Int} {d : Nat} (hd : 0 < d) (ha : Rv a n d) (hb : Rv b n' d) (hV : Rv V (n + n') d) : Rv (FP.dadd a b) (n + n') d := by
  have e : zv a + zv b = zv V := by
    refine Int.eq_of_mul_eq_mul_right (a := (d : Int)) (by omega) ?_
    rw [Int.add_mul, ha.2, hb.2, hV.2, Int.add_mul]
  obtain ⟨h1, h2⟩ := dadd_zv ha.1 hb.1 hV.1 e
  exact ⟨h1, by rw [h2]; exact hV.2⟩
theorem rv_sub {a b V : UInt64} {n n' : Int} {d : Nat} (hd : 0 < d) (ha : Rv a n d) (hb : Rv b n' d) (hV : Rv V (n - n') d) : Rv (FP.dsub a b) (n - n') d := by
  have e : zv a - zv b = zv V := by
    refine Int.eq_of_mul_eq_mul_right (a := (d : Int)) (by omega) ?_
    rw [Int.sub_mul, ha.2, hb.2, hV.2, Int.sub_mul]
  obtain ⟨h1, h2⟩ := dsub_zv ha.1 hb.1 hV.1 e
  exact ⟨h1, by rw [h2]; exact hV.2⟩
theorem rv_mul {a b V : UInt64} {n n' : Int} {d d' : Nat} (hd : 0 < d) (hd' : 0 < d') (ha : Rv a n d) (hb : Rv b n' d') (hV : Rv V (n * n') (d * d')) : Rv (FP.dmul a b) (n * n') (d * d') := by
  have e : zv a * zv b = zv V * (one64 : Int) := by
    refine Int.eq_of_mul_eq_mul_right (a := ((d * d' : Nat) : Int)) (by have := Nat.mul_pos hd hd'; omega) ?_
    have h3 := hV.2
    rw [Int.natCast_mul] at h3 ⊢
    exact ring1 ha.2 hb.2 h3
  obtain ⟨h1, h2⟩ := dmul_zv ha.1 hb.1 hV.1 e
  exact ⟨h1, by rw [h2]; exact hV.2⟩
theorem rv_nz {b : UInt64} {n : Int} {d : Nat} (hb : Rv b n d) (hn : n ≠ 0) : zv b ≠ 0 := by
  intro h
  have h1 := hb.2
  rw [h, Int.zero_mul] at h1
  rcases Int.mul_eq_zero.mp h1.symm with h2 | h2
  · exact hn h2
  · have := one_pos; omega
theorem rv_div {a b V : UInt64} {n n' m : Int} {d d' k : Nat} (hd : 0 < d) (hd' : 0 < d') (hk : 0 < k) (ha : Rv a n d) (hb : Rv b n' d') (hn : n' ≠ 0) (hV : Rv V m k) (h : m * ((d : Int) * n') = n * ((d' : Int) * (k : Int))) : Rv (FP.ddiv a b) m k := by
  have e : zv a * (one64 : Int) = zv V * zv b := by
    refine Int.eq_of_mul_eq_mul_right (a := ((d * (d' * k) : Nat) : Int)) (by have := Nat.mul_pos hd (Nat.mul_pos hd' hk); omega) ?_
    rw [Int.natCast_mul, Int.natCast_mul]
    exact ring2 ha.2 hb.2 hV.2 h
  obtain ⟨h1, h2⟩ := ddiv_zv ha.1 hb.1 (rv_nz hb hn) hV.1 e
  exact ⟨h1, by rw [h2]; exact hV.2⟩
theorem cmp_mul (x y : Int) {k : Int} (hk : 0 < k) : compare x y = compare (x * k) (y * k) := (compare_mul_pos x y k hk).symm
theorem rv_cmp {a b : UInt64} {n n' : Int} {d d' : Nat} (hd : 0 < d) (hd' : 0 < d') (ha : Rv a n d) (hb : Rv b n' d') : FP.dcmp a b = some (compare (n * (d' : Int)) (n' * (d : Int))) := by
  show Core.dcmp a b = _
  rw [dcmp_zval ha.1.ne_nan hb.1.ne_nan]
  congr 1
  have p := one_pos
  rw [cmp_mul (zval b64 (val64 a)) _ (show 0 < ((d * d' : Nat) : Int) by have := Nat.mul_pos hd hd'; omega), cmp_mul (n * (d' : Int)) _ p]
  have h1 : zval b64 (val64 a) * ((d * d' : Nat) : Int) = n * (d' : Int) * (one64 : Int) := by rw [Int.natCast_mul]; exact ring3 ha.2
  have h2 : zval b64 (val64 b) * ((d * d' : Nat) : Int) = n' * (d : Int) * (one64 : Int) := by rw [Int.natCast_mul]; exact ring4 hb.2
  rw [h1, h2]
theorem zv_cmp {a b : UInt64} (ha : val64 a ≠ .nan) (hb : val64 b ≠ .nan) : FP.dcmp a b = some (compare (zv a) (zv b)) := dcmp_zval ha hb
theorem rv_zero : Rv 0 0 1 := ⟨⟨_, _, _, val64_zero⟩, by rw [show zv 0 = 0 from zval64_zero]; simp⟩
theorem rv_one : Rv 4607182418800017408 1 1 := ⟨⟨_, _, _, val64_dconst1⟩, by rw [show zv 4607182418800017408 = 1 * (one64 : Int) from DInt_zval dint_one]; simp⟩
theorem nn64 {a : UInt64} (h : val64 a ≠ .nan) : Jvm.Free.Fl.NoNaN64 a := Jvm.Free.Fl.noNaN64_no.mpr ((notNaN_iff a).mpr h)
theorem rv_nn {a : UInt64} {n : Int} {d : Nat} (h : Rv a n d) : Jvm.Free.Fl.NoNaN64 a := nn64 h.1.ne_nan
theorem rcv {a b : UInt64} {n n' : Int} {d d' : Nat} (hd : 0 < d) (hd' : 0 < d') (ha : Rv a n d) (hb : Rv b n' d') (o : Jvm.ClassFile.CmpOp) :
    (Jvm.Op.cmpValue (FP.dcmp a b) o < 0 ↔ n * (d' : Int) < n' * (d : Int)) ∧ (0 < Jvm.Op.cmpValue (FP.dcmp a b) o ↔ n' * (d : Int) < n * (d' : Int)) ∧ (Jvm.Op.cmpValue (FP.dcmp a b) o = 0 ↔ n * (d' : Int) = n' * (d : Int)) := by
  rw [rv_cmp hd hd' ha hb, compare_ite]
  generalize n * (d' : Int) = x
  generalize n' * (d : Int) = y
  split
  · exact ⟨⟨fun _ => by omega, fun _ => by cases o <;> decide⟩, ⟨fun h => absurd h (by cases o <;> decide), fun h => by omega⟩, ⟨fun h => absurd h (by cases o <;> decide), fun h => by omega⟩⟩
  · split
    · exact ⟨⟨fun h => absurd h (by cases o <;> decide), fun h => by omega⟩, ⟨fun h => absurd h (by cases o <;> decide), fun h => by omega⟩, ⟨fun _ => by omega, fun _ => by cases o <;> decide⟩⟩
    · exact ⟨⟨fun h => absurd h (by cases o <;> decide), fun h => by omega⟩, ⟨fun _ => by omega, fun _ => by cases o <;> decide⟩, ⟨fun h => absurd h (by cases o <;> decide), fun h => by omega⟩⟩
theorem zcv {a b : UInt64} (ha : val64 a ≠ .nan) (hb : val64 b ≠ .nan) (o : Jvm.ClassFile.CmpOp) :
    (Jvm.Op.cmpValue (FP.dcmp a b) o < 0 ↔ zv a < zv b) ∧ (0 < Jvm.Op.cmpValue (FP.dcmp a b) o ↔ zv b < zv a) ∧ (Jvm.Op.cmpValue (FP.dcmp a b) o = 0 ↔ zv a = zv b) := by
  rw [zv_cmp ha hb, compare_ite]
  generalize zv a = x
  generalize zv b = y
  split
  · exact ⟨⟨fun _ => by omega, fun _ => by cases o <;> decide⟩, ⟨fun h => absurd h (by cases o <;> decide), fun h => by omega⟩, ⟨fun h => absurd h (by cases o <;> decide), fun h => by omega⟩⟩
  · split
    · exact ⟨⟨fun h => absurd h (by cases o <;> decide), fun h => by omega⟩, ⟨fun h => absurd h (by cases o <;> decide), fun h => by omega⟩, ⟨fun _ => by omega, fun _ => by cases o <;> decide⟩⟩
    · exact ⟨⟨fun h => absurd h (by cases o <;> decide), fun h => by omega⟩, ⟨fun _ => by omega, fun _ => by cases o <;> decide⟩, ⟨fun h => absurd h (by cases o <;> decide), fun h => by omega⟩⟩
theorem own_isfinO {d : UInt64} (h : DFin d) (o : Jvm.ClassFile.CmpOp) : ¬ (0 : Int32) < Jvm.Op.cmpValue (FP.dcmp (d &&& 0x7fffffffffffffff) 9218868437227405311) o := by
  have h1 := (fin_bits d).mp h
  have n1 := mask_ne_nan h.ne_nan
  have n2 : val64 9218868437227405311 ≠ .nan := by rw [ne_nan]; decide
  have e : FP.dcmp (d &&& 0x7fffffffffffffff) 9218868437227405311 = _ := dcmp_key n1 n2
  rw [e, mask_key, show dkey 9218868437227405311 = 9218868437227405311 from by decide, compare_ite]
  split
  · cases o <;> decide
  · split
    · cases o <;> decide
    · omega
theorem own_isfin {d : UInt64} (h : DFin d) : ¬ (0 : Int32) < Jvm.Op.cmpValue (FP.dcmp (d &&& 0x7fffffffffffffff) 9218868437227405311) .g := own_isfinO h .g
theorem own_inf {d : UInt64} (h : DFin d) : Jvm.Op.cmpValue (FP.dcmp d 9218868437227405312) .g < (0 : Int32) := by
  rw [Jvm.RoadKit.dcmp_pinf (Jvm.Free.Fl.fin64_core.mpr h) .g]; decide
theorem own_pos {mu : UInt64} {n : Int} {d : Nat} (hd : 0 < d) (h : Rv mu n d) (hn : 0 < n) : (0 : Int32) < Jvm.Op.cmpValue (FP.dcmp mu 0) .l := (rcv hd (by decide) h rv_zero .l).2.1.mpr (by simp; omega)
/-- two quotients of one value are one -/
theorem ddiv_congr {a b a' b' : UInt64} (ha : DFin a) (hb : DFin b) (ha' : DFin a') (hb' : DFin b') (pa : 0 < zv a) (pb : 0 < zv b) (pa' : 0 < zv a') (pb' : 0 < zv b') (h : zv a * zv b' = zv a' * zv b) : val64 (FP.ddiv a b) = val64 (FP.ddiv a' b') := by
  obtain ⟨s, c, q, h1, f1⟩ := own_fin ha
  obtain ⟨t, d, r, h2, f2⟩ := own_fin hb
  obtain ⟨s', c', q', h3, f3⟩ := own_fin ha'
  obtain ⟨t', d', r', h4, f4⟩ := own_fin hb'
  have d1 := zero_of h2 (by omega)
  have d2 := zero_of h4 (by omega)
  rw [ddiv_val h1 h2 d1, ddiv_val h3 h4 d2]
  rw [zv_mag h1] at pa h
  rw [zv_mag h2] at pb h
  rw [zv_mag h3] at pa' h
  rw [zv_mag h4] at pb' h
  have sg : ∀ (u : Bool) (x : Nat), 0 < signed u x → u = false := fun u x hp => by cases u <;> simp [signed] at hp ⊢; omega
  obtain rfl := sg _ _ pa
  obtain rfl := sg _ _ pb
  obtain rfl := sg _ _ pa'
  obtain rfl := sg _ _ pb'
  have g1 := f1.2.1
  have g2 := f2.2.1
  have g3 := f3.2.1
  have g4 := f4.2.1
  refine roundRatio_congr (Nat.pos_of_ne_zero d1) (Nat.pos_of_ne_zero d2) ?_
  have h' : inUnits c q b64.qmin * inUnits d' r' b64.qmin = inUnits c' q' b64.qmin * inUnits d r b64.qmin := by
    have : ((inUnits c q b64.qmin * inUnits d' r' b64.qmin : Nat) : Int) = ((inUnits c' q' b64.qmin * inUnits d r b64.qmin : Nat) : Int) := by rw [Int.natCast_mul, Int.natCast_mul]; exact h
    exact Int.ofNat.inj this
  unfold inUnits at h'
  have k1 : c * 2 ^ (q - b64.qmin).toNat * (d' * 2 ^ (r' - b64.qmin).toNat) = c * d' * 2 ^ ((q - b64.qmin).toNat + (r' - b64.qmin).toNat) := by rw [Nat.pow_add, Nat.mul_mul_mul_comm]
  have k2 : c' * 2 ^ (q' - b64.qmin).toNat * (d * 2 ^ (r - b64.qmin).toNat) = c' * d * 2 ^ ((q' - b64.qmin).toNat + (r - b64.qmin).toNat) := by rw [Nat.pow_add, Nat.mul_mul_mul_comm]
  rw [k1, k2] at h'
  rcases Int.le_total (q' - r') (q - r) with hl | hl
  · have e1 : (q - b64.qmin).toNat + (r' - b64.qmin).toNat = (q - r - (q' - r')).toNat + ((q' - b64.qmin).toNat + (r - b64.qmin).toNat) := by omega
    rw [e1, Nat.pow_add, ← Nat.mul_assoc] at h'
    rw [show (q' - r' - (q - r)).toNat = 0 by omega, Nat.pow_zero, Nat.mul_one]
    exact Nat.eq_of_mul_eq_mul_right (Nat.two_pow_pos _) h'
  · have e1 : (q' - b64.qmin).toNat + (r - b64.qmin).toNat = (q' - r' - (q - r)).toNat + ((q - b64.qmin).toNat + (r' - b64.qmin).toNat) := by omega
    rw [e1, Nat.pow_add 2 (q' - r' - (q - r)).toNat, ← Nat.mul_assoc (c' * d)] at h'
    rw [show (q - r - (q' - r')).toNat = 0 by omega, Nat.pow_zero, Nat.mul_one]
    exact Nat.eq_of_mul_eq_mul_right (Nat.two_pow_pos _) h'
theorem own_same {x y : UInt64} (h : val64 x = val64 y) (hn : val64 x ≠ .nan) (o : Jvm.ClassFile.CmpOp) : Jvm.Op.cmpValue (FP.dcmp x y) o = 0 := by
  have e : FP.dcmp x y = some .eq := by
    show order (val64 x) (val64 y) = _
    rw [← h]; exact order_self hn
  rw [e]; cases o <;> rfl
theorem own_t0 {te t0 : Int32} (h : te &&& (31 : Int32) = t0) : ∃ k : Fin 32, t0 = Int32.ofNat k.val := by
  have e := Jvm.Kit.i32_mask te 31 (k := 5) (by decide) (by decide)
  rw [h] at e
  have hk : (t0.toInt.toNat) < 32 := by omega
  refine ⟨⟨t0.toInt.toNat, hk⟩, ?_⟩
  apply Int32.toInt_inj.mp
  rw [Int32.toInt_ofNat_small (by show t0.toInt.toNat < _; omega)]
  show _ = ((t0.toInt.toNat : Nat) : Int)
  omega
theorem own_shl : ∀ k : Fin 32, ((1 : Int64) <<< ((Int32.ofNat k.val) &&& 0x3f).toInt64).toInt = ((2 ^ k.val : Nat) : Int) := by decide
/-- (double) (1L << e), e below 32 -/
theorem own_pow {te t0 : Int32} {sc : UInt64} (h : te &&& (31 : Int32) = t0) (hs : FP.l2d ((1 : Int64) <<< (t0 &&& 0x3f).toInt64) = sc) : ∃ k : Nat, k < 32 ∧ Rv sc ((2 ^ k : Nat) : Int) 1 := by
  obtain ⟨k, hk⟩ := own_t0 h
  have e : ((1 : Int64) <<< (t0 &&& 0x3f).toInt64).toInt = ((2 ^ k.val : Nat) : Int) := by rw [hk]; exact own_shl k
  have hp : 2 ^ k.val ≤ 2 ^ 31 := Nat.pow_le_pow_right (by decide) (by have := k.isLt; omega)
  have := rv_l2d (n := (1 : Int64) <<< (t0 &&& 0x3f).toInt64) (by rw [e, Int.natAbs_natCast]; exact Nat.le_trans hp (by decide))
  rw [e, hs] at this
  exact ⟨k.val, k.isLt, this⟩
end Jvm.Own
namespace Jvm.Own
/-- a is finite, of the value n / 2^k, and n is at most N in size -/
def Rb (a : UInt64) (n : Int) (k N : Nat) : Prop := Rv a n (2 ^ k) ∧ n.natAbs ≤ N
theorem nb_mul {a b : Int} {A B : Nat} (ha : a.natAbs ≤ A) (hb : b.natAbs ≤ B) : (a * b).natAbs ≤ A * B := by
  rw [Int.natAbs_mul]; exact Nat.mul_le_mul ha hb
theorem nb_add {a b : Int} {A B : Nat} (ha : a.natAbs ≤ A) (hb : b.natAbs ≤ B) : (a + b).natAbs ≤ A + B := by omega
theorem nb_sub {a b : Int} {A B : Nat} (ha : a.natAbs ≤ A) (hb : b.natAbs ≤ B) : (a - b).natAbs ≤ A + B := by omega
theorem nb_neg {a : Int} {A : Nat} (ha : a.natAbs ≤ A) : (-a).natAbs ≤ A := by omega
theorem nb_le {a : Int} {A B : Nat} (ha : a.natAbs ≤ A) (h : A ≤ B) : a.natAbs ≤ B := Nat.le_trans ha h
theorem rb_add {a b : UInt64} {n n' : Int} {k N N' : Nat} (ha : Rb a n k N) (hb : Rb b n' k N') (h : N + N' < 2 ^ 53) (hk : k ≤ 1074) : Rb (FP.dadd a b) (n + n') k (N + N') := by
  have hn := nb_add ha.2 hb.2
  obtain ⟨V, hV⟩ := ex_rv (n + n') k (Nat.lt_of_le_of_lt hn h) hk
  exact ⟨rv_add (Nat.two_pow_pos _) ha.1 hb.1 hV, hn⟩
theorem rb_sub {a b : UInt64} {n n' : Int} {k N N' : Nat} (ha : Rb a n k N) (hb : Rb b n' k N') (h : N + N' < 2 ^ 53) (hk : k ≤ 1074) : Rb (FP.dsub a b) (n - n') k (N + N') := by
  have hn := nb_sub ha.2 hb.2
  obtain ⟨V, hV⟩ := ex_rv (n - n') k (Nat.lt_of_le_of_lt hn h) hk
  exact ⟨rv_sub (Nat.two_pow_pos _) ha.1 hb.1 hV, hn⟩
theorem rb_mul {a b : UInt64} {n n' : Int} {k k' N N' : Nat} (ha : Rb a n k N) (hb : Rb b n' k' N') (h : N * N' < 2 ^ 53) (hk : k + k' ≤ 1074) : Rb (FP.dmul a b) (n * n') (k + k') (N * N') := by
  have hn := nb_mul ha.2 hb.2
  obtain ⟨V, hV⟩ := ex_rv (n * n') (k + k') (Nat.lt_of_le_of_lt hn h) hk
  refine ⟨?_, hn⟩
  rw [Nat.pow_add] at hV ⊢
  exact rv_mul (Nat.two_pow_pos _) (Nat.two_pow_pos _) ha.1 hb.1 hV
theorem rb_mul0 {a b : UInt64} {n n' : Int} {k' N N' M : Nat} (ha : Rb a n 0 N) (hb : Rb b n' k' N') (h : N * N' ≤ M) (hM : M < 2 ^ 53) (hk : k' ≤ 1074) : Rb (FP.dmul a b) (n * n') k' M := by
  have r := rb_mul ha hb (Nat.lt_of_le_of_lt h hM) (by omega)
  rw [Nat.zero_add] at r
  exact ⟨r.1, Nat.le_trans r.2 h⟩
theorem rb_mul0' {a b : UInt64} {n n' : Int} {k N N' M : Nat} (ha : Rb a n k N) (hb : Rb b n' 0 N') (h : N * N' ≤ M) (hM : M < 2 ^ 53) (hk : k ≤ 1074) : Rb (FP.dmul a b) (n * n') k M := by
  have r := rb_mul ha hb (Nat.lt_of_le_of_lt h hM) (by omega)
  rw [Nat.add_zero] at r
  exact ⟨r.1, Nat.le_trans r.2 h⟩
theorem rb_nn {a : UInt64} {n : Int} {k N : Nat} (h : Rb a n k N) : Jvm.Free.Fl.NoNaN64 a := rv_nn h.1
theorem rb_eq {a : UInt64} {n m : Int} {k N M : Nat} (h : Rb a n k N) (e : n = m) (hm : m.natAbs ≤ M) : Rb a m k M := ⟨e ▸ h.1, hm⟩
theorem rb_dn {a : UInt64} {n m : Int} {k N M : Nat} (j : Nat) (h : Rb a n (k + j) N) (e : n = m * ((2 ^ j : Nat) : Int)) (hm : m.natAbs ≤ M) : Rb a m k M := by
  refine ⟨rv_unscale (2 ^ j) (Nat.two_pow_pos _) ?_, hm⟩
  rw [← Nat.pow_add, ← e]; exact h.1
theorem rb_up {a : UInt64} {n : Int} {k N : Nat} (j : Nat) (h : Rb a n k N) : Rb a (n * ((2 ^ j : Nat) : Int)) (k + j) (N * 2 ^ j) := by
  refine ⟨?_, nb_mul h.2 (Nat.le_refl _)⟩
  rw [Nat.pow_add]; exact rv_scale _ h.1
theorem rb_inv {a : UInt64} {n W : Int} {N : Nat} (h : Rb a n 0 N) (hw : W * n = 4096) (hW : W.natAbs ≤ 4096) : Rb (FP.ddiv 4607182418800017408 a) W 12 4096 := by
  obtain ⟨V, hV⟩ := ex_rv W 12 (Nat.lt_of_le_of_lt hW (by decide)) (by decide)
  refine ⟨rv_div (d := 1) (d' := 2 ^ 0) (n := 1) (by decide) (by decide) (by decide) rv_one h.1 (fun q => by rw [q] at hw; omega) hV ?_, hW⟩
  rw [show ((1 : Nat) : Int) = 1 from rfl, Int.one_mul, hw]; decide
theorem rb_of {a : UInt64} {n : Int} {N : Nat} (h : Rv a n 1) (hn : n.natAbs ≤ N) : Rb a n 0 N := ⟨h, hn⟩
theorem rb_i2d (n : Int32) : Rb (FP.i2d n) n.toInt 0 2147483648 := ⟨rv_i2d n, by have := n.toInt_lt; have := n.le_toInt; omega⟩
theorem rb_to {a b : UInt64} {n : Int} {k N : Nat} (h : a = b) (r : Rb a n k N) : Rb b n k N := h ▸ r
theorem rb_i2dE {n : Int32} {u : UInt64} (h : FP.i2d n = u) : Rb u n.toInt 0 2147483648 := rb_to h (rb_i2d n)
theorem rb_zero {N : Nat} : Rb 0 0 0 N := ⟨rv_zero, Nat.zero_le _⟩
/-- the six orders of the axes -/
def axX {α : Type} (n : Nat) (a b c : α) : α := match n with | 0 => a | 1 => b | 2 => c | 3 => b | 4 => a | _ => c
def axY {α : Type} (n : Nat) (a b c : α) : α := match n with | 0 => b | 1 => c | 2 => a | 3 => a | 4 => c | _ => b
def axZ {α : Type} (n : Nat) (a b c : α) : α := match n with | 0 => c | 1 => a | 2 => b | 3 => c | 4 => b | _ => a
theorem own_six {P : Nat → Prop} (h0 : P 0) (h1 : P 1) (h2 : P 2) (h3 : P 3) (h4 : P 4) (h5 : ∀ n, P (n + 5)) (n : Nat) : P n := match n with
  | 0 => h0 | 1 => h1 | 2 => h2 | 3 => h3 | 4 => h4 | n + 5 => h5 n
theorem own_dot (n : Nat) (a b c a' b' c' : Int) : axX n a b c * axX n a' b' c' + axY n a b c * axY n a' b' c' + axZ n a b c * axZ n a' b' c' = a * a' + b * b' + c * c' :=
  own_six (P := fun n => axX n a b c * axX n a' b' c' + axY n a b c * axY n a' b' c' + axZ n a b c * axZ n a' b' c' = a * a' + b * b' + c * c')
    (by show a * a' + b * b' + c * c' = _; omega) (by show b * b' + c * c' + a * a' = _; omega) (by show c * c' + a * a' + b * b' = _; omega) (by show b * b' + a * a' + c * c' = _; omega) (by show a * a' + c * c' + b * b' = _; omega) (fun _ => by show c * c' + b * b' + a * a' = _; omega) n
theorem axX_lin (n : Nat) (a b c a' b' c' u v : Int) : axX n a b c * u + axX n a' b' c' * v = axX n (a * u + a' * v) (b * u + b' * v) (c * u + c' * v) := own_six (P := fun n => axX n a b c * u + axX n a' b' c' * v = axX n (a * u + a' * v) (b * u + b' * v) (c * u + c' * v)) rfl rfl rfl rfl rfl (fun _ => rfl) n
theorem axY_lin (n : Nat) (a b c a' b' c' u v : Int) : axY n a b c * u + axY n a' b' c' * v = axY n (a * u + a' * v) (b * u + b' * v) (c * u + c' * v) := own_six (P := fun n => axY n a b c * u + axY n a' b' c' * v = axY n (a * u + a' * v) (b * u + b' * v) (c * u + c' * v)) rfl rfl rfl rfl rfl (fun _ => rfl) n
theorem axZ_lin (n : Nat) (a b c a' b' c' u v : Int) : axZ n a b c * u + axZ n a' b' c' * v = axZ n (a * u + a' * v) (b * u + b' * v) (c * u + c' * v) := own_six (P := fun n => axZ n a b c * u + axZ n a' b' c' * v = axZ n (a * u + a' * v) (b * u + b' * v) (c * u + c' * v)) rfl rfl rfl rfl rfl (fun _ => rfl) n
/-- what holds of the three holds of each of the order -/
theorem axX_all {α : Type} {P : α → Prop} {a b c : α} (n : Nat) (ha : P a) (hb : P b) (hc : P c) : P (axX n a b c) := own_six (P := fun n => P (axX n a b c)) ha hb hc hb ha (fun _ => hc) n
theorem axY_all {α : Type} {P : α → Prop} {a b c : α} (n : Nat) (ha : P a) (hb : P b) (hc : P c) : P (axY n a b c) := own_six (P := fun n => P (axY n a b c)) hb hc ha ha hc (fun _ => hb) n
theorem axZ_all {α : Type} {P : α → Prop} {a b c : α} (n : Nat) (ha : P a) (hb : P b) (hc : P c) : P (axZ n a b c) := own_six (P := fun n => P (axZ n a b c)) hc ha hb hc hb (fun _ => ha) n
theorem axX_rb {a b c : UInt64} {A B C : Int} {k N : Nat} (n : Nat) (ha : Rb a A k N) (hb : Rb b B k N) (hc : Rb c C k N) : Rb (axX n a b c) (axX n A B C) k N := own_six (P := fun n => Rb (axX n a b c) (axX n A B C) k N) ha hb hc hb ha (fun _ => hc) n
theorem axY_rb {a b c : UInt64} {A B C : Int} {k N : Nat} (n : Nat) (ha : Rb a A k N) (hb : Rb b B k N) (hc : Rb c C k N) : Rb (axY n a b c) (axY n A B C) k N := own_six (P := fun n => Rb (axY n a b c) (axY n A B C) k N) hb hc ha ha hc (fun _ => hb) n
theorem axZ_rb {a b c : UInt64} {A B C : Int} {k N : Nat} (n : Nat) (ha : Rb a A k N) (hb : Rb b B k N) (hc : Rb c C k N) : Rb (axZ n a b c) (axZ n A B C) k N := own_six (P := fun n => Rb (axZ n a b c) (axZ n A B C) k N) hc ha hb hc hb (fun _ => ha) n
/-- an axis's part of the two gradients -/
def Cm (p q r M X1 X2 S T : Int) : Prop := X1 * ((r * r + q * q) * (M * M)) - X2 * (p * r * (M * M)) = S * 64 ∧ X2 * (p * p * (M * M)) - X1 * (p * r * (M * M)) = T * 64
theorem cm_a {p q r M : Int} (h : p * q * M = 64) : Cm p q r M p r (q * M) 0 := by
  unfold Cm
  constructor <;> grind
theorem cm_b {p q r M : Int} (h : p * q * M = 64) : Cm p q r M 0 q (-(r * M)) (p * M) := by
  unfold Cm
  constructor <;> grind
theorem cm_c {p q r M : Int} : Cm p q r M 0 0 0 0 := by
  unfold Cm
  constructor <;> simp
theorem own_det {p q r M : Int} (h : p * q * M = 64) : M * M * (p * p * (r * r + q * q) - p * r * (p * r)) = 4096 := by grind
theorem cm_x {p q r M : Int} (n : Nat) (h : p * q * M = 64) : Cm p q r M (axX n p 0 0) (axX n r q 0) (axX n (q * M) (-(r * M)) 0) (axX n 0 (p * M) 0) := own_six (P := fun n => Cm p q r M (axX n p 0 0) (axX n r q 0) (axX n (q * M) (-(r * M)) 0) (axX n 0 (p * M) 0)) (cm_a h) (cm_b h) cm_c (cm_b h) (cm_a h) (fun _ => cm_c) n
theorem cm_y {p q r M : Int} (n : Nat) (h : p * q * M = 64) : Cm p q r M (axY n p 0 0) (axY n r q 0) (axY n (q * M) (-(r * M)) 0) (axY n 0 (p * M) 0) := own_six (P := fun n => Cm p q r M (axY n p 0 0) (axY n r q 0) (axY n (q * M) (-(r * M)) 0) (axY n 0 (p * M) 0)) (cm_b h) cm_c (cm_a h) (cm_a h) cm_c (fun _ => cm_b h) n
theorem cm_z {p q r M : Int} (n : Nat) (h : p * q * M = 64) : Cm p q r M (axZ n p 0 0) (axZ n r q 0) (axZ n (q * M) (-(r * M)) 0) (axZ n 0 (p * M) 0) := own_six (P := fun n => Cm p q r M (axZ n p 0 0) (axZ n r q 0) (axZ n (q * M) (-(r * M)) 0) (axZ n 0 (p * M) 0)) cm_c (cm_a h) (cm_b h) cm_c (cm_b h) (fun _ => cm_a h) n
theorem rb_cast {a : UInt64} {n m : Int} {k N : Nat} (h : Rb a n k N) (e : n = m) : Rb a m k N := e ▸ h
theorem rb_dn6 {a : UInt64} {n m : Int} {N M : Nat} (h : Rb a n 12 N) (e : n = m * 64) (hm : m.natAbs ≤ M) : Rb a m 6 M := rb_dn (k := 6) 6 h e hm
theorem rb_up6 {a : UInt64} {n : Int} {N M : Nat} (h : Rb a n 0 N) (hM : N * 64 ≤ M) : Rb a (n * 64) 6 M := ⟨(rb_up (k := 0) 6 h).1, Nat.le_trans (rb_up (k := 0) 6 h).2 hM⟩
theorem rb_le {a : UInt64} {n : Int} {k N M : Nat} (h : Rb a n k N) (hm : N ≤ M) : Rb a n k M := ⟨h.1, Nat.le_trans h.2 hm⟩
end Jvm.Own
namespace Jvm.Own
theorem own_tex {xa ya za xb yb zb u0 u1 u2 u3 u4 u5 av bv cv iv ck bk ak sx sy sz tx ty tz du2 du3 dv2 dv3 gx gy gz wx wy wz : UInt64} {p q r M U0 U1 U2 U3 U4 U5 : Int} (n : Nat) (hM : p * q * M = 64) (hp : p.natAbs ≤ 8) (hq : q.natAbs ≤ 8) (hr : r.natAbs ≤ 32) (hM1 : M.natAbs ≤ 64) (hqM : (q * M).natAbs ≤ 64) (hrM : (r * M).natAbs ≤ 512) (hpM : (p * M).natAbs ≤ 64)
    (r_xa : Rb xa (axX n p 0 0) 0 8) (r_ya : Rb ya (axY n p 0 0) 0 8) (r_za : Rb za (axZ n p 0 0) 0 8) (r_xb : Rb xb (axX n r q 0) 0 32) (r_yb : Rb yb (axY n r q 0) 0 32) (r_zb : Rb zb (axZ n r q 0) 0 32) (r_u0 : Rb u0 U0 0 2147483648) (r_u1 : Rb u1 U1 0 2147483648) (r_u2 : Rb u2 U2 0 2147483648) (r_u3 : Rb u3 U3 0 2147483648) (r_u4 : Rb u4 U4 0 2147483648) (r_u5 : Rb u5 U5 0 2147483648)
    (E_av : (FP.dadd (FP.dadd (FP.dmul xa xa) (FP.dmul ya ya)) (FP.dmul za za)) = av) (E_bv : (FP.dadd (FP.dadd (FP.dmul xa xb) (FP.dmul ya yb)) (FP.dmul za zb)) = bv) (E_cv : (FP.dadd (FP.dadd (FP.dmul xb xb) (FP.dmul yb yb)) (FP.dmul zb zb)) = cv) (E_iv : (FP.ddiv (4607182418800017408 : UInt64) (FP.dsub (FP.dmul av cv) (FP.dmul bv bv))) = iv) (E_ck : (FP.dmul cv iv) = ck) (E_bk : (FP.dmul bv iv) = bk) (E_ak : (FP.dmul av iv) = ak) (E_sx : (FP.dsub (FP.dmul xa ck) (FP.dmul xb bk)) = sx) (E_sy : (FP.dsub (FP.dmul ya ck) (FP.dmul yb bk)) = sy) (E_sz : (FP.dsub (FP.dmul za ck) (FP.dmul zb bk)) = sz) (E_tx : (FP.dsub (FP.dmul xb ak) (FP.dmul xa bk)) = tx) (E_ty : (FP.dsub (FP.dmul yb ak) (FP.dmul ya bk)) = ty) (E_tz : (FP.dsub (FP.dmul zb ak) (FP.dmul za bk)) = tz) (E_du2 : (FP.dsub u2 u0) = du2) (E_du3 : (FP.dsub u4 u0) = du3) (E_dv2 : (FP.dsub u3 u1) = dv2) (E_dv3 : (FP.dsub u5 u1) = dv3) (E_gx : (FP.dadd (FP.dmul sx du2) (FP.dmul tx du3)) = gx) (E_gy : (FP.dadd (FP.dmul sy du2) (FP.dmul ty du3)) = gy) (E_gz : (FP.dadd (FP.dmul sz du2) (FP.dmul tz du3)) = gz) (E_wx : (FP.dadd (FP.dmul sx dv2) (FP.dmul tx dv3)) = wx) (E_wy : (FP.dadd (FP.dmul sy dv2) (FP.dmul ty dv3)) = wy) (E_wz : (FP.dadd (FP.dmul sz dv2) (FP.dmul tz dv3)) = wz) :
    Jvm.Free.Fl.NoNaN64 (FP.dmul xa xa) ∧ Jvm.Free.Fl.NoNaN64 (FP.dmul ya ya) ∧ Jvm.Free.Fl.NoNaN64 (FP.dadd (FP.dmul xa xa) (FP.dmul ya ya)) ∧ Jvm.Free.Fl.NoNaN64 (FP.dmul za za) ∧ Jvm.Free.Fl.NoNaN64 (FP.dadd (FP.dadd (FP.dmul xa xa) (FP.dmul ya ya)) (FP.dmul za za)) ∧ Jvm.Free.Fl.NoNaN64 (FP.dmul xa xb) ∧ Jvm.Free.Fl.NoNaN64 (FP.dmul ya yb) ∧ Jvm.Free.Fl.NoNaN64 (FP.dadd (FP.dmul xa xb) (FP.dmul ya yb)) ∧ Jvm.Free.Fl.NoNaN64 (FP.dmul za zb) ∧ Jvm.Free.Fl.NoNaN64 (FP.dadd (FP.dadd (FP.dmul xa xb) (FP.dmul ya yb)) (FP.dmul za zb)) ∧ Jvm.Free.Fl.NoNaN64 (FP.dmul xb xb) ∧ Jvm.Free.Fl.NoNaN64 (FP.dmul yb yb) ∧ Jvm.Free.Fl.NoNaN64 (FP.dadd (FP.dmul xb xb) (FP.dmul yb yb)) ∧ Jvm.Free.Fl.NoNaN64 (FP.dmul zb zb) ∧ Jvm.Free.Fl.NoNaN64 (FP.dadd (FP.dadd (FP.dmul xb xb) (FP.dmul yb yb)) (FP.dmul zb zb)) ∧ Jvm.Free.Fl.NoNaN64 (FP.dmul av cv) ∧ Jvm.Free.Fl.NoNaN64 (FP.dmul bv bv) ∧ Jvm.Free.Fl.NoNaN64 (FP.dsub (FP.dmul av cv) (FP.dmul bv bv)) ∧ Jvm.Free.Fl.NoNaN64 (FP.ddiv (4607182418800017408 : UInt64) (FP.dsub (FP.dmul av cv) (FP.dmul bv bv))) ∧ Jvm.Free.Fl.NoNaN64 (FP.dmul cv iv) ∧ Jvm.Free.Fl.NoNaN64 (FP.dmul xa ck) ∧ Jvm.Free.Fl.NoNaN64 (FP.dmul ya ck) ∧ Jvm.Free.Fl.NoNaN64 (FP.dmul za ck) ∧ Jvm.Free.Fl.NoNaN64 (FP.dmul bv iv) ∧ Jvm.Free.Fl.NoNaN64 (FP.dmul xb bk) ∧ Jvm.Free.Fl.NoNaN64 (FP.dmul yb bk) ∧ Jvm.Free.Fl.NoNaN64 (FP.dmul zb bk) ∧ Jvm.Free.Fl.NoNaN64 (FP.dsub (FP.dmul xa ck) (FP.dmul xb bk)) ∧ Jvm.Free.Fl.NoNaN64 (FP.dsub (FP.dmul ya ck) (FP.dmul yb bk)) ∧ Jvm.Free.Fl.NoNaN64 (FP.dsub (FP.dmul za ck) (FP.dmul zb bk)) ∧ Jvm.Free.Fl.NoNaN64 (FP.dmul av iv) ∧ Jvm.Free.Fl.NoNaN64 (FP.dmul xb ak) ∧ Jvm.Free.Fl.NoNaN64 (FP.dmul yb ak) ∧ Jvm.Free.Fl.NoNaN64 (FP.dmul zb ak) ∧ Jvm.Free.Fl.NoNaN64 (FP.dmul bv iv) ∧ Jvm.Free.Fl.NoNaN64 (FP.dmul xa bk) ∧ Jvm.Free.Fl.NoNaN64 (FP.dmul ya bk) ∧ Jvm.Free.Fl.NoNaN64 (FP.dmul za bk) ∧ Jvm.Free.Fl.NoNaN64 (FP.dsub (FP.dmul xb ak) (FP.dmul xa bk)) ∧ Jvm.Free.Fl.NoNaN64 (FP.dsub (FP.dmul yb ak) (FP.dmul ya bk)) ∧ Jvm.Free.Fl.NoNaN64 (FP.dsub (FP.dmul zb ak) (FP.dmul za bk)) ∧ Jvm.Free.Fl.NoNaN64 (FP.dsub u2 u0) ∧ Jvm.Free.Fl.NoNaN64 (FP.dmul sx du2) ∧ Jvm.Free.Fl.NoNaN64 (FP.dmul sy du2) ∧ Jvm.Free.Fl.NoNaN64 (FP.dmul sz du2) ∧ Jvm.Free.Fl.NoNaN64 (FP.dsub u4 u0) ∧ Jvm.Free.Fl.NoNaN64 (FP.dmul tx du3) ∧ Jvm.Free.Fl.NoNaN64 (FP.dmul ty du3) ∧ Jvm.Free.Fl.NoNaN64 (FP.dmul tz du3) ∧ Jvm.Free.Fl.NoNaN64 (FP.dadd (FP.dmul sx du2) (FP.dmul tx du3)) ∧ Jvm.Free.Fl.NoNaN64 (FP.dadd (FP.dmul sy du2) (FP.dmul ty du3)) ∧ Jvm.Free.Fl.NoNaN64 (FP.dadd (FP.dmul sz du2) (FP.dmul tz du3)) ∧ Jvm.Free.Fl.NoNaN64 (FP.dsub u3 u1) ∧ Jvm.Free.Fl.NoNaN64 (FP.dmul sx dv2) ∧ Jvm.Free.Fl.NoNaN64 (FP.dmul sy dv2) ∧ Jvm.Free.Fl.NoNaN64 (FP.dmul sz dv2) ∧ Jvm.Free.Fl.NoNaN64 (FP.dsub u5 u1) ∧ Jvm.Free.Fl.NoNaN64 (FP.dmul tx dv3) ∧ Jvm.Free.Fl.NoNaN64 (FP.dmul ty dv3) ∧ Jvm.Free.Fl.NoNaN64 (FP.dmul tz dv3) ∧ Jvm.Free.Fl.NoNaN64 (FP.dadd (FP.dmul sx dv2) (FP.dmul tx dv3)) ∧ Jvm.Free.Fl.NoNaN64 (FP.dadd (FP.dmul sy dv2) (FP.dmul ty dv3)) ∧ Jvm.Free.Fl.NoNaN64 (FP.dadd (FP.dmul sz dv2) (FP.dmul tz dv3)) ∧ Rb gx (axX n (q * M * (U2 - U0) + 0 * (U4 - U0)) (-(r * M) * (U2 - U0) + p * M * (U4 - U0)) (0 * (U2 - U0) + 0 * (U4 - U0))) 6 2473901162496 ∧ Rb gy (axY n (q * M * (U2 - U0) + 0 * (U4 - U0)) (-(r * M) * (U2 - U0) + p * M * (U4 - U0)) (0 * (U2 - U0) + 0 * (U4 - U0))) 6 2473901162496 ∧ Rb gz (axZ n (q * M * (U2 - U0) + 0 * (U4 - U0)) (-(r * M) * (U2 - U0) + p * M * (U4 - U0)) (0 * (U2 - U0) + 0 * (U4 - U0))) 6 2473901162496 ∧ Rb wx (axX n (q * M * (U3 - U1) + 0 * (U5 - U1)) (-(r * M) * (U3 - U1) + p * M * (U5 - U1)) (0 * (U3 - U1) + 0 * (U5 - U1))) 6 2473901162496 ∧ Rb wy (axY n (q * M * (U3 - U1) + 0 * (U5 - U1)) (-(r * M) * (U3 - U1) + p * M * (U5 - U1)) (0 * (U3 - U1) + 0 * (U5 - U1))) 6 2473901162496 ∧ Rb wz (axZ n (q * M * (U3 - U1) + 0 * (U5 - U1)) (-(r * M) * (U3 - U1) + p * M * (U5 - U1)) (0 * (U3 - U1) + 0 * (U5 - U1))) 6 2473901162496 := by
  have r_av : Rb av (p * p) 0 64 := by rw [← E_av]; exact rb_eq (rb_add (rb_add (rb_mul0 (M := 64) r_xa r_xa (by decide) (by decide) (by decide)) (rb_mul0 (M := 64) r_ya r_ya (by decide) (by decide) (by decide)) (by decide) (by decide)) (rb_mul0 (M := 64) r_za r_za (by decide) (by decide) (by decide)) (by decide) (by decide)) ((own_dot n p 0 0 p 0 0).trans (by simp)) (nb_mul hp hp)
  have r_bv : Rb bv (p * r) 0 256 := by rw [← E_bv]; exact rb_eq (rb_add (rb_add (rb_mul0 (M := 256) r_xa r_xb (by decide) (by decide) (by decide)) (rb_mul0 (M := 256) r_ya r_yb (by decide) (by decide) (by decide)) (by decide) (by decide)) (rb_mul0 (M := 256) r_za r_zb (by decide) (by decide) (by decide)) (by decide) (by decide)) ((own_dot n p 0 0 r q 0).trans (by simp)) (nb_mul hp hr)
  have r_cv : Rb cv (r * r + q * q) 0 1088 := by rw [← E_cv]; exact rb_eq (rb_add (rb_add (rb_mul0 (M := 1024) r_xb r_xb (by decide) (by decide) (by decide)) (rb_mul0 (M := 1024) r_yb r_yb (by decide) (by decide) (by decide)) (by decide) (by decide)) (rb_mul0 (M := 1024) r_zb r_zb (by decide) (by decide) (by decide)) (by decide) (by decide)) ((own_dot n r q 0 r q 0).trans (by simp)) (nb_add (nb_mul hr hr) (nb_mul hq hq))
  have r_det := (rb_sub (rb_mul0 (M := 69632) r_av r_cv (by decide) (by decide) (by decide)) (rb_mul0 (M := 65536) r_bv r_bv (by decide) (by decide) (by decide)) (by decide) (by decide))
  have r_iv : Rb iv (M * M) 12 4096 := by rw [← E_iv]; exact rb_inv r_det (own_det hM) (nb_mul hM1 hM1)
  have r_ck : Rb ck ((r * r + q * q) * (M * M)) 12 4456448 := by rw [← E_ck]; exact (rb_mul0 (M := 4456448) r_cv r_iv (by decide) (by decide) (by decide))
  have r_bk : Rb bk (p * r * (M * M)) 12 1048576 := by rw [← E_bk]; exact (rb_mul0 (M := 1048576) r_bv r_iv (by decide) (by decide) (by decide))
  have r_ak : Rb ak (p * p * (M * M)) 12 262144 := by rw [← E_ak]; exact (rb_mul0 (M := 262144) r_av r_iv (by decide) (by decide) (by decide))
  have r_sx : Rb sx (axX n (q * M) (-(r * M)) 0) 6 512 := by rw [← E_sx]; exact rb_dn6 (rb_sub (rb_mul0 (M := 35651584) r_xa r_ck (by decide) (by decide) (by decide)) (rb_mul0 (M := 33554432) r_xb r_bk (by decide) (by decide) (by decide)) (by decide) (by decide)) (cm_x n hM).1 (axX_all (P := fun z : Int => z.natAbs ≤ 512) n (nb_le hqM (by decide)) (nb_neg hrM) (by decide))
  have r_tx : Rb tx (axX n 0 (p * M) 0) 6 64 := by rw [← E_tx]; exact rb_dn6 (rb_sub (rb_mul0 (M := 8388608) r_xb r_ak (by decide) (by decide) (by decide)) (rb_mul0 (M := 8388608) r_xa r_bk (by decide) (by decide) (by decide)) (by decide) (by decide)) (cm_x n hM).2 (axX_all (P := fun z : Int => z.natAbs ≤ 64) n (by decide) hpM (by decide))
  have r_sy : Rb sy (axY n (q * M) (-(r * M)) 0) 6 512 := by rw [← E_sy]; exact rb_dn6 (rb_sub (rb_mul0 (M := 35651584) r_ya r_ck (by decide) (by decide) (by decide)) (rb_mul0 (M := 33554432) r_yb r_bk (by decide) (by decide) (by decide)) (by decide) (by decide)) (cm_y n hM).1 (axY_all (P := fun z : Int => z.natAbs ≤ 512) n (nb_le hqM (by decide)) (nb_neg hrM) (by decide))
  have r_ty : Rb ty (axY n 0 (p * M) 0) 6 64 := by rw [← E_ty]; exact rb_dn6 (rb_sub (rb_mul0 (M := 8388608) r_yb r_ak (by decide) (by decide) (by decide)) (rb_mul0 (M := 8388608) r_ya r_bk (by decide) (by decide) (by decide)) (by decide) (by decide)) (cm_y n hM).2 (axY_all (P := fun z : Int => z.natAbs ≤ 64) n (by decide) hpM (by decide))
  have r_sz : Rb sz (axZ n (q * M) (-(r * M)) 0) 6 512 := by rw [← E_sz]; exact rb_dn6 (rb_sub (rb_mul0 (M := 35651584) r_za r_ck (by decide) (by decide) (by decide)) (rb_mul0 (M := 33554432) r_zb r_bk (by decide) (by decide) (by decide)) (by decide) (by decide)) (cm_z n hM).1 (axZ_all (P := fun z : Int => z.natAbs ≤ 512) n (nb_le hqM (by decide)) (nb_neg hrM) (by decide))
  have r_tz : Rb tz (axZ n 0 (p * M) 0) 6 64 := by rw [← E_tz]; exact rb_dn6 (rb_sub (rb_mul0 (M := 8388608) r_zb r_ak (by decide) (by decide) (by decide)) (rb_mul0 (M := 8388608) r_za r_bk (by decide) (by decide) (by decide)) (by decide) (by decide)) (cm_z n hM).2 (axZ_all (P := fun z : Int => z.natAbs ≤ 64) n (by decide) hpM (by decide))
  have r_du2 : Rb du2 (U2 - U0) 0 4294967296 := by rw [← E_du2]; exact (rb_sub r_u2 r_u0 (by decide) (by decide))
  have r_du3 : Rb du3 (U4 - U0) 0 4294967296 := by rw [← E_du3]; exact (rb_sub r_u4 r_u0 (by decide) (by decide))
  have r_dv2 : Rb dv2 (U3 - U1) 0 4294967296 := by rw [← E_dv2]; exact (rb_sub r_u3 r_u1 (by decide) (by decide))
  have r_dv3 : Rb dv3 (U5 - U1) 0 4294967296 := by rw [← E_dv3]; exact (rb_sub r_u5 r_u1 (by decide) (by decide))
  have r_gx : Rb gx (axX n (q * M * (U2 - U0) + 0 * (U4 - U0)) (-(r * M) * (U2 - U0) + p * M * (U4 - U0)) (0 * (U2 - U0) + 0 * (U4 - U0))) 6 2473901162496 := by rw [← E_gx]; exact rb_cast (rb_add (rb_mul0' (M := 2199023255552) r_sx r_du2 (by decide) (by decide) (by decide)) (rb_mul0' (M := 274877906944) r_tx r_du3 (by decide) (by decide) (by decide)) (by decide) (by decide)) (axX_lin n (q * M) (-(r * M)) 0 0 (p * M) 0 (U2 - U0) (U4 - U0))
  have r_gy : Rb gy (axY n (q * M * (U2 - U0) + 0 * (U4 - U0)) (-(r * M) * (U2 - U0) + p * M * (U4 - U0)) (0 * (U2 - U0) + 0 * (U4 - U0))) 6 2473901162496 := by rw [← E_gy]; exact rb_cast (rb_add (rb_mul0' (M := 2199023255552) r_sy r_du2 (by decide) (by decide) (by decide)) (rb_mul0' (M := 274877906944) r_ty r_du3 (by decide) (by decide) (by decide)) (by decide) (by decide)) (axY_lin n (q * M) (-(r * M)) 0 0 (p * M) 0 (U2 - U0) (U4 - U0))
  have r_gz : Rb gz (axZ n (q * M * (U2 - U0) + 0 * (U4 - U0)) (-(r * M) * (U2 - U0) + p * M * (U4 - U0)) (0 * (U2 - U0) + 0 * (U4 - U0))) 6 2473901162496 := by rw [← E_gz]; exact rb_cast (rb_add (rb_mul0' (M := 2199023255552) r_sz r_du2 (by decide) (by decide) (by decide)) (rb_mul0' (M := 274877906944) r_tz r_du3 (by decide) (by decide) (by decide)) (by decide) (by decide)) (axZ_lin n (q * M) (-(r * M)) 0 0 (p * M) 0 (U2 - U0) (U4 - U0))
  have r_wx : Rb wx (axX n (q * M * (U3 - U1) + 0 * (U5 - U1)) (-(r * M) * (U3 - U1) + p * M * (U5 - U1)) (0 * (U3 - U1) + 0 * (U5 - U1))) 6 2473901162496 := by rw [← E_wx]; exact rb_cast (rb_add (rb_mul0' (M := 2199023255552) r_sx r_dv2 (by decide) (by decide) (by decide)) (rb_mul0' (M := 274877906944) r_tx r_dv3 (by decide) (by decide) (by decide)) (by decide) (by decide)) (axX_lin n (q * M) (-(r * M)) 0 0 (p * M) 0 (U3 - U1) (U5 - U1))
  have r_wy : Rb wy (axY n (q * M * (U3 - U1) + 0 * (U5 - U1)) (-(r * M) * (U3 - U1) + p * M * (U5 - U1)) (0 * (U3 - U1) + 0 * (U5 - U1))) 6 2473901162496 := by rw [← E_wy]; exact rb_cast (rb_add (rb_mul0' (M := 2199023255552) r_sy r_dv2 (by decide) (by decide) (by decide)) (rb_mul0' (M := 274877906944) r_ty r_dv3 (by decide) (by decide) (by decide)) (by decide) (by decide)) (axY_lin n (q * M) (-(r * M)) 0 0 (p * M) 0 (U3 - U1) (U5 - U1))
  have r_wz : Rb wz (axZ n (q * M * (U3 - U1) + 0 * (U5 - U1)) (-(r * M) * (U3 - U1) + p * M * (U5 - U1)) (0 * (U3 - U1) + 0 * (U5 - U1))) 6 2473901162496 := by rw [← E_wz]; exact rb_cast (rb_add (rb_mul0' (M := 2199023255552) r_sz r_dv2 (by decide) (by decide) (by decide)) (rb_mul0' (M := 274877906944) r_tz r_dv3 (by decide) (by decide) (by decide)) (by decide) (by decide)) (axZ_lin n (q * M) (-(r * M)) 0 0 (p * M) 0 (U3 - U1) (U5 - U1))
  exact ⟨rb_nn (rb_mul0 (M := 64) r_xa r_xa (by decide) (by decide) (by decide)), rb_nn (rb_mul0 (M := 64) r_ya r_ya (by decide) (by decide) (by decide)), rb_nn (rb_add (rb_mul0 (M := 64) r_xa r_xa (by decide) (by decide) (by decide)) (rb_mul0 (M := 64) r_ya r_ya (by decide) (by decide) (by decide)) (by decide) (by decide)), rb_nn (rb_mul0 (M := 64) r_za r_za (by decide) (by decide) (by decide)), rb_nn (rb_add (rb_add (rb_mul0 (M := 64) r_xa r_xa (by decide) (by decide) (by decide)) (rb_mul0 (M := 64) r_ya r_ya (by decide) (by decide) (by decide)) (by decide) (by decide)) (rb_mul0 (M := 64) r_za r_za (by decide) (by decide) (by decide)) (by decide) (by decide)), rb_nn (rb_mul0 (M := 256) r_xa r_xb (by decide) (by decide) (by decide)), rb_nn (rb_mul0 (M := 256) r_ya r_yb (by decide) (by decide) (by decide)), rb_nn (rb_add (rb_mul0 (M := 256) r_xa r_xb (by decide) (by decide) (by decide)) (rb_mul0 (M := 256) r_ya r_yb (by decide) (by decide) (by decide)) (by decide) (by decide)), rb_nn (rb_mul0 (M := 256) r_za r_zb (by decide) (by decide) (by decide)), rb_nn (rb_add (rb_add (rb_mul0 (M := 256) r_xa r_xb (by decide) (by decide) (by decide)) (rb_mul0 (M := 256) r_ya r_yb (by decide) (by decide) (by decide)) (by decide) (by decide)) (rb_mul0 (M := 256) r_za r_zb (by decide) (by decide) (by decide)) (by decide) (by decide)), rb_nn (rb_mul0 (M := 1024) r_xb r_xb (by decide) (by decide) (by decide)), rb_nn (rb_mul0 (M := 1024) r_yb r_yb (by decide) (by decide) (by decide)), rb_nn (rb_add (rb_mul0 (M := 1024) r_xb r_xb (by decide) (by decide) (by decide)) (rb_mul0 (M := 1024) r_yb r_yb (by decide) (by decide) (by decide)) (by decide) (by decide)), rb_nn (rb_mul0 (M := 1024) r_zb r_zb (by decide) (by decide) (by decide)), rb_nn (rb_add (rb_add (rb_mul0 (M := 1024) r_xb r_xb (by decide) (by decide) (by decide)) (rb_mul0 (M := 1024) r_yb r_yb (by decide) (by decide) (by decide)) (by decide) (by decide)) (rb_mul0 (M := 1024) r_zb r_zb (by decide) (by decide) (by decide)) (by decide) (by decide)), rb_nn (rb_mul0 (M := 69632) r_av r_cv (by decide) (by decide) (by decide)), rb_nn (rb_mul0 (M := 65536) r_bv r_bv (by decide) (by decide) (by decide)), rb_nn (rb_sub (rb_mul0 (M := 69632) r_av r_cv (by decide) (by decide) (by decide)) (rb_mul0 (M := 65536) r_bv r_bv (by decide) (by decide) (by decide)) (by decide) (by decide)), rb_nn (rb_inv r_det (own_det hM) (nb_mul hM1 hM1)), rb_nn (rb_mul0 (M := 4456448) r_cv r_iv (by decide) (by decide) (by decide)), rb_nn (rb_mul0 (M := 35651584) r_xa r_ck (by decide) (by decide) (by decide)), rb_nn (rb_mul0 (M := 35651584) r_ya r_ck (by decide) (by decide) (by decide)), rb_nn (rb_mul0 (M := 35651584) r_za r_ck (by decide) (by decide) (by decide)), rb_nn (rb_mul0 (M := 1048576) r_bv r_iv (by decide) (by decide) (by decide)), rb_nn (rb_mul0 (M := 33554432) r_xb r_bk (by decide) (by decide) (by decide)), rb_nn (rb_mul0 (M := 33554432) r_yb r_bk (by decide) (by decide) (by decide)), rb_nn (rb_mul0 (M := 33554432) r_zb r_bk (by decide) (by decide) (by decide)), rb_nn (rb_sub (rb_mul0 (M := 35651584) r_xa r_ck (by decide) (by decide) (by decide)) (rb_mul0 (M := 33554432) r_xb r_bk (by decide) (by decide) (by decide)) (by decide) (by decide)), rb_nn (rb_sub (rb_mul0 (M := 35651584) r_ya r_ck (by decide) (by decide) (by decide)) (rb_mul0 (M := 33554432) r_yb r_bk (by decide) (by decide) (by decide)) (by decide) (by decide)), rb_nn (rb_sub (rb_mul0 (M := 35651584) r_za r_ck (by decide) (by decide) (by decide)) (rb_mul0 (M := 33554432) r_zb r_bk (by decide) (by decide) (by decide)) (by decide) (by decide)), rb_nn (rb_mul0 (M := 262144) r_av r_iv (by decide) (by decide) (by decide)), rb_nn (rb_mul0 (M := 8388608) r_xb r_ak (by decide) (by decide) (by decide)), rb_nn (rb_mul0 (M := 8388608) r_yb r_ak (by decide) (by decide) (by decide)), rb_nn (rb_mul0 (M := 8388608) r_zb r_ak (by decide) (by decide) (by decide)), rb_nn (rb_mul0 (M := 1048576) r_bv r_iv (by decide) (by decide) (by decide)), rb_nn (rb_mul0 (M := 8388608) r_xa r_bk (by decide) (by decide) (by decide)), rb_nn (rb_mul0 (M := 8388608) r_ya r_bk (by decide) (by decide) (by decide)), rb_nn (rb_mul0 (M := 8388608) r_za r_bk (by decide) (by decide) (by decide)), rb_nn (rb_sub (rb_mul0 (M := 8388608) r_xb r_ak (by decide) (by decide) (by decide)) (rb_mul0 (M := 8388608) r_xa r_bk (by decide) (by decide) (by decide)) (by decide) (by decide)), rb_nn (rb_sub (rb_mul0 (M := 8388608) r_yb r_ak (by decide) (by decide) (by decide)) (rb_mul0 (M := 8388608) r_ya r_bk (by decide) (by decide) (by decide)) (by decide) (by decide)), rb_nn (rb_sub (rb_mul0 (M := 8388608) r_zb r_ak (by decide) (by decide) (by decide)) (rb_mul0 (M := 8388608) r_za r_bk (by decide) (by decide) (by decide)) (by decide) (by decide)), rb_nn (rb_sub r_u2 r_u0 (by decide) (by decide)), rb_nn (rb_mul0' (M := 2199023255552) r_sx r_du2 (by decide) (by decide) (by decide)), rb_nn (rb_mul0' (M := 2199023255552) r_sy r_du2 (by decide) (by decide) (by decide)), rb_nn (rb_mul0' (M := 2199023255552) r_sz r_du2 (by decide) (by decide) (by decide)), rb_nn (rb_sub r_u4 r_u0 (by decide) (by decide)), rb_nn (rb_mul0' (M := 274877906944) r_tx r_du3 (by decide) (by decide) (by decide)), rb_nn (rb_mul0' (M := 274877906944) r_ty r_du3 (by decide) (by decide) (by decide)), rb_nn (rb_mul0' (M := 274877906944) r_tz r_du3 (by decide) (by decide) (by decide)), rb_nn (rb_add (rb_mul0' (M := 2199023255552) r_sx r_du2 (by decide) (by decide) (by decide)) (rb_mul0' (M := 274877906944) r_tx r_du3 (by decide) (by decide) (by decide)) (by decide) (by decide)), rb_nn (rb_add (rb_mul0' (M := 2199023255552) r_sy r_du2 (by decide) (by decide) (by decide)) (rb_mul0' (M := 274877906944) r_ty r_du3 (by decide) (by decide) (by decide)) (by decide) (by decide)), rb_nn (rb_add (rb_mul0' (M := 2199023255552) r_sz r_du2 (by decide) (by decide) (by decide)) (rb_mul0' (M := 274877906944) r_tz r_du3 (by decide) (by decide) (by decide)) (by decide) (by decide)), rb_nn (rb_sub r_u3 r_u1 (by decide) (by decide)), rb_nn (rb_mul0' (M := 2199023255552) r_sx r_dv2 (by decide) (by decide) (by decide)), rb_nn (rb_mul0' (M := 2199023255552) r_sy r_dv2 (by decide) (by decide) (by decide)), rb_nn (rb_mul0' (M := 2199023255552) r_sz r_dv2 (by decide) (by decide) (by decide)), rb_nn (rb_sub r_u5 r_u1 (by decide) (by decide)), rb_nn (rb_mul0' (M := 274877906944) r_tx r_dv3 (by decide) (by decide) (by decide)), rb_nn (rb_mul0' (M := 274877906944) r_ty r_dv3 (by decide) (by decide) (by decide)), rb_nn (rb_mul0' (M := 274877906944) r_tz r_dv3 (by decide) (by decide) (by decide)), rb_nn (rb_add (rb_mul0' (M := 2199023255552) r_sx r_dv2 (by decide) (by decide) (by decide)) (rb_mul0' (M := 274877906944) r_tx r_dv3 (by decide) (by decide) (by decide)) (by decide) (by decide)), rb_nn (rb_add (rb_mul0' (M := 2199023255552) r_sy r_dv2 (by decide) (by decide) (by decide)) (rb_mul0' (M := 274877906944) r_ty r_dv3 (by decide) (by decide) (by decide)) (by decide) (by decide)), rb_nn (rb_add (rb_mul0' (M := 2199023255552) r_sz r_dv2 (by decide) (by decide) (by decide)) (rb_mul0' (M := 274877906944) r_tz r_dv3 (by decide) (by decide) (by decide)) (by decide) (by decide)), r_gx, r_gy, r_gz, r_wx, r_wy, r_wz⟩
theorem own_read {cu px py pz fx fy fz gx gy gz : UInt64} {U FX FY FZ DX DY DZ GX GY GZ : Int} (r_cu : Rb cu U 0 2147483648) (r_px : Rb px (FX + DX) 0 4294967296) (r_fx : Rb fx FX 0 2147483648) (h_x : DX.natAbs ≤ 512) (r_gx : Rb gx GX 6 2473901162496) (r_py : Rb py (FY + DY) 0 4294967296) (r_fy : Rb fy FY 0 2147483648) (h_y : DY.natAbs ≤ 512) (r_gy : Rb gy GY 6 2473901162496) (r_pz : Rb pz (FZ + DZ) 0 4294967296) (r_fz : Rb fz FZ 0 2147483648) (h_z : DZ.natAbs ≤ 512) (r_gz : Rb gz GZ 6 2473901162496) :
    Jvm.Free.Fl.NoNaN64 (FP.dsub px fx) ∧ Jvm.Free.Fl.NoNaN64 (FP.dmul (FP.dsub px fx) gx) ∧ Jvm.Free.Fl.NoNaN64 (FP.dadd cu (FP.dmul (FP.dsub px fx) gx)) ∧ Jvm.Free.Fl.NoNaN64 (FP.dsub py fy) ∧ Jvm.Free.Fl.NoNaN64 (FP.dmul (FP.dsub py fy) gy) ∧ Jvm.Free.Fl.NoNaN64 (FP.dadd (FP.dadd cu (FP.dmul (FP.dsub px fx) gx)) (FP.dmul (FP.dsub py fy) gy)) ∧ Jvm.Free.Fl.NoNaN64 (FP.dsub pz fz) ∧ Jvm.Free.Fl.NoNaN64 (FP.dmul (FP.dsub pz fz) gz) ∧ Jvm.Free.Fl.NoNaN64 (FP.dadd (FP.dadd (FP.dadd cu (FP.dmul (FP.dsub px fx) gx)) (FP.dmul (FP.dsub py fy) gy)) (FP.dmul (FP.dsub pz fz) gz)) ∧ Rb (FP.dadd (FP.dadd (FP.dadd cu (FP.dmul (FP.dsub px fx) gx)) (FP.dmul (FP.dsub py fy) gy)) (FP.dmul (FP.dsub pz fz) gz)) (U * 64 + DX * GX + DY * GY + DZ * GZ) 6 3800049624547328 := by
  have r_dx : Rb (FP.dsub px fx) DX 0 512 := rb_eq (rb_sub r_px r_fx (by decide) (by decide)) (by omega) h_x
  have r_dy : Rb (FP.dsub py fy) DY 0 512 := rb_eq (rb_sub r_py r_fy (by decide) (by decide)) (by omega) h_y
  have r_dz : Rb (FP.dsub pz fz) DZ 0 512 := rb_eq (rb_sub r_pz r_fz (by decide) (by decide)) (by omega) h_z
  exact ⟨rb_nn r_dx, rb_nn (rb_mul0 (M := 1266637395197952) r_dx r_gx (by decide) (by decide) (by decide)), rb_nn (rb_add (rb_up6 (M := 137438953472) r_cu (by decide)) (rb_mul0 (M := 1266637395197952) r_dx r_gx (by decide) (by decide) (by decide)) (by decide) (by decide)), rb_nn r_dy, rb_nn (rb_mul0 (M := 1266637395197952) r_dy r_gy (by decide) (by decide) (by decide)), rb_nn (rb_add (rb_add (rb_up6 (M := 137438953472) r_cu (by decide)) (rb_mul0 (M := 1266637395197952) r_dx r_gx (by decide) (by decide) (by decide)) (by decide) (by decide)) (rb_mul0 (M := 1266637395197952) r_dy r_gy (by decide) (by decide) (by decide)) (by decide) (by decide)), rb_nn r_dz, rb_nn (rb_mul0 (M := 1266637395197952) r_dz r_gz (by decide) (by decide) (by decide)), rb_nn (rb_add (rb_add (rb_add (rb_up6 (M := 137438953472) r_cu (by decide)) (rb_mul0 (M := 1266637395197952) r_dx r_gx (by decide) (by decide) (by decide)) (by decide) (by decide)) (rb_mul0 (M := 1266637395197952) r_dy r_gy (by decide) (by decide) (by decide)) (by decide) (by decide)) (rb_mul0 (M := 1266637395197952) r_dz r_gz (by decide) (by decide) (by decide)) (by decide) (by decide)), (rb_add (rb_add (rb_add (rb_up6 (M := 137438953472) r_cu (by decide)) (rb_mul0 (M := 1266637395197952) r_dx r_gx (by decide) (by decide) (by decide)) (by decide) (by decide)) (rb_mul0 (M := 1266637395197952) r_dy r_gy (by decide) (by decide) (by decide)) (by decide) (by decide)) (rb_mul0 (M := 1266637395197952) r_dz r_gz (by decide) (by decide) (by decide)) (by decide) (by decide))⟩
end Jvm.Own
namespace Jvm.Own
def own_sl0 (k : Int32) : Int32 := if k = 0 then 0 else if k = 1 then 1 else if k = 2 then 2 else if k = 3 then 1 else if k = 4 then 0 else 2
def own_sl1 (k : Int32) : Int32 := if k = 0 then 1 else if k = 1 then 2 else if k = 2 then 0 else if k = 3 then 0 else if k = 4 then 2 else 1
def own_sl2 (k : Int32) : Int32 := if k = 0 then 2 else if k = 1 then 0 else if k = 2 then 1 else if k = 3 then 2 else if k = 4 then 1 else 0
def own_pk0 (k : Int32) (a b c : Int64) : Int64 := if own_sl0 k = 0 then a else if own_sl0 k = 1 then b else c
def own_pk1 (k : Int32) (a b c : Int64) : Int64 := if own_sl1 k = 0 then a else if own_sl1 k = 1 then b else c
def own_pk2 (k : Int32) (a b c : Int64) : Int64 := if own_sl2 k = 0 then a else if own_sl2 k = 1 then b else c
theorem own_of_range {x : Int32} {n : Nat} (h0 : 0 ≤ x.toInt) (h1 : x.toInt < n) (hn : n ≤ 2 ^ 31) : ∃ k : Fin n, x = Int32.ofNat k.val := by
  refine ⟨⟨x.toInt.toNat, by omega⟩, ?_⟩
  apply Int32.toInt_inj.mp
  rw [Int32.toInt_ofNat_small (by show x.toInt.toNat < _; omega)]
  show _ = ((x.toInt.toNat : Nat) : Int)
  omega
theorem own_pickF {k : Int32} (h : k = 0 ∨ k = 1 ∨ k = 2 ∨ k = 3 ∨ k = 4 ∨ k = 5) : ∃ n : Nat, ∀ x y z, own_pk0 k x y z = axX n x y z ∧ own_pk1 k x y z = axY n x y z ∧ own_pk2 k x y z = axZ n x y z := by
  rcases h with rfl | rfl | rfl | rfl | rfl | rfl
  · exact ⟨0, fun x y z => ⟨rfl, rfl, rfl⟩⟩
  · exact ⟨1, fun x y z => ⟨rfl, rfl, rfl⟩⟩
  · exact ⟨2, fun x y z => ⟨rfl, rfl, rfl⟩⟩
  · exact ⟨3, fun x y z => ⟨rfl, rfl, rfl⟩⟩
  · exact ⟨4, fun x y z => ⟨rfl, rfl, rfl⟩⟩
  · exact ⟨5, fun x y z => ⟨rfl, rfl, rfl⟩⟩
theorem own_k6 : ∀ k : Fin 6, Int32.ofNat k.val = 0 ∨ Int32.ofNat k.val = 1 ∨ Int32.ofNat k.val = 2 ∨ Int32.ofNat k.val = 3 ∨ Int32.ofNat k.val = 4 ∨ Int32.ofNat k.val = 5 := by decide +kernel
theorem own_order {y pk : Int32} (h : (y &&& (2147483647 : Int32)) % (6 : Int32) = pk) : ∃ n : Nat, ∀ a b c, own_pk0 pk a b c = axX n a b c ∧ own_pk1 pk a b c = axY n a b c ∧ own_pk2 pk a b c = axZ n a b c := by
  have e := Jvm.Kit.i32_mask y 2147483647 (k := 31) (by decide) (by decide)
  have e6 : (6 : Int32).toInt = 6 := by decide
  have e2 : pk.toInt = (y.toInt % 2 ^ 31) % 6 := by rw [← h, Jvm.Kit.i32_rem_nonneg (by rw [e]; omega), e, e6]
  obtain ⟨k, hk⟩ := own_of_range (x := pk) (n := 6) (by rw [e2]; omega) (by rw [e2]; omega) (by decide)
  subst hk
  exact own_pickF (own_k6 k)
theorem own_pmF : ∀ k : Fin 4, ((1 : Int32) <<< (Int32.ofNat k.val &&& 31)).toInt = 1 ∨ ((1 : Int32) <<< (Int32.ofNat k.val &&& 31)).toInt = 2 ∨ ((1 : Int32) <<< (Int32.ofNat k.val &&& 31)).toInt = 4 ∨ ((1 : Int32) <<< (Int32.ofNat k.val &&& 31)).toInt = 8 := by decide +kernel
theorem own_pm {y pm : Int32} (h : (1 : Int32) <<< ((y &&& (3 : Int32)) &&& 31) = pm) : pm.toInt = 1 ∨ pm.toInt = 2 ∨ pm.toInt = 4 ∨ pm.toInt = 8 := by
  have e := Jvm.Kit.i32_mask y 3 (k := 2) (by decide) (by decide)
  obtain ⟨k, hk⟩ := own_of_range (x := y &&& 3) (n := 4) (by rw [e]; omega) (by rw [e]; omega) (by decide)
  rw [hk] at h
  subst h
  exact own_pmF k
theorem own_MM {s : Int} (h : s = 1 ∨ s = 2 ∨ s = 4 ∨ s = 8) : ∃ M t : Int, s * s * M = 64 ∧ s.natAbs ≤ 8 ∧ M.natAbs ≤ 64 ∧ (s * M).natAbs ≤ 64 ∧ s * t = 8 ∧ t.natAbs ≤ 8 ∧ s * M = 8 * t ∧ s ≠ 0 := by
  refine ⟨64 / (s * s), 8 / s, ?_⟩
  rcases h with rfl | rfl | rfl | rfl <;> decide
theorem own_r {y rI : Int32} (h : (y &&& (15 : Int32)) - (8 : Int32) = rI) : rI.toInt.natAbs ≤ 8 := by
  have e := Jvm.Kit.i32_mask y 15 (k := 4) (by decide) (by decide)
  have e1 : (8 : Int32).toInt = 8 := by decide
  rw [← h, Jvm.Kit.i32_sub (by rw [e, e1]; omega) (by rw [e, e1]; omega), e, e1]; omega
theorem own_k {y kI : Int32} (h : (y &&& (7 : Int32)) - (3 : Int32) = kI) : kI.toInt.natAbs ≤ 4 := by
  have e := Jvm.Kit.i32_mask y 7 (k := 3) (by decide) (by decide)
  have e1 : (3 : Int32).toInt = 3 := by decide
  rw [← h, Jvm.Kit.i32_sub (by rw [e, e1]; omega) (by rw [e, e1]; omega), e, e1]; omega
theorem axX_map {α β : Type} (f : α → β) (n : Nat) (a b c : α) : f (axX n a b c) = axX n (f a) (f b) (f c) := own_six (P := fun n => f (axX n a b c) = axX n (f a) (f b) (f c)) rfl rfl rfl rfl rfl (fun _ => rfl) n
theorem axY_map {α β : Type} (f : α → β) (n : Nat) (a b c : α) : f (axY n a b c) = axY n (f a) (f b) (f c) := own_six (P := fun n => f (axY n a b c) = axY n (f a) (f b) (f c)) rfl rfl rfl rfl rfl (fun _ => rfl) n
theorem axZ_map {α β : Type} (f : α → β) (n : Nat) (a b c : α) : f (axZ n a b c) = axZ n (f a) (f b) (f c) := own_six (P := fun n => f (axZ n a b c) = axZ n (f a) (f b) (f c)) rfl rfl rfl rfl rfl (fun _ => rfl) n
theorem rb_l2d {x : Int64} {n : Int} {N : Nat} (h : x.toInt = n) (hn : n.natAbs ≤ N) (hN : N ≤ 2 ^ 53) : Rb (FP.l2d x) n 0 N := ⟨h ▸ rv_l2d (by rw [h]; omega), hn⟩
theorem own_mul64 {x y : Int32} {N : Nat} (h : (x.toInt * y.toInt).natAbs ≤ N) (hN : N ≤ 2 ^ 40) : (x.toInt64 * y.toInt64).toInt = x.toInt * y.toInt := by
  rw [Jvm.Kit.i64_mul (by rw [Int32.toInt_toInt64, Int32.toInt_toInt64]; omega) (by rw [Int32.toInt_toInt64, Int32.toInt_toInt64]; omega), Int32.toInt_toInt64, Int32.toInt_toInt64]
theorem own_jx {ia ib kI : Int32} {jx : Int64} (ha : ia.toInt.natAbs ≤ 8) (hb : ib.toInt.natAbs ≤ 8) (hk : kI.toInt.natAbs ≤ 4) (h : ia.toInt64 + (ib.toInt64 * kI.toInt64) = jx) : jx.toInt = ia.toInt + ib.toInt * kI.toInt ∧ (ia.toInt + ib.toInt * kI.toInt).natAbs ≤ 512 := by
  have b1 := nb_mul hb hk
  have e := own_mul64 b1 (by decide)
  refine ⟨?_, by omega⟩
  rw [← h, Jvm.Kit.i64_add (by rw [Int32.toInt_toInt64, e]; omega) (by rw [Int32.toInt_toInt64, e]; omega), Int32.toInt_toInt64, e]
theorem own_at {x : Int32} {y lx : Int64} {D : Int} {qx : UInt64} (h : x.toInt64 + y = lx) (hq : FP.l2d lx = qx) (e : y.toInt = D) (hD : D.natAbs ≤ 512) : Rb qx (x.toInt + D) 0 4294967296 := by
  have c := (rb_i2d x).2
  rw [← hq]
  refine rb_l2d ?_ (by omega) (by decide)
  rw [← h, Jvm.Kit.i64_add (by rw [Int32.toInt_toInt64, e]; omega) (by rw [Int32.toInt_toInt64, e]; omega), Int32.toInt_toInt64, e]
theorem own_dsum (n : Nat) (U a b c A B C : Int) : U * 64 + axX n a b c * axX n A B C + axY n a b c * axY n A B C + axZ n a b c * axZ n A B C = U * 64 + a * A + b * B + c * C := by
  have := own_dot n a b c A B C
  omega
theorem own_id {s k M t U V2 V3 a b c : Int} (h : s * M = 8 * t) : (U * 64 + (a + b * k) * (s * M * V2 + 0 * V3) + b * (-(k * s * M) * V2 + s * M * V3) + c * (0 * V2 + 0 * V3)) * 8 = (U * 8 + a * t * V2 + b * t * V3) * 64 := by grind
theorem own_quo {x s : Int32} {t : Int} (hx : x.toInt.natAbs ≤ 8) (hs : s.toInt * t = 8) (ht : t.natAbs ≤ 8) (h0 : s.toInt ≠ 0) : Rb (FP.ddiv (FP.i2d x) (FP.i2d s)) (x.toInt * t) 3 64 := by
  have hb := nb_mul hx ht
  obtain ⟨V, hV⟩ := ex_rv (x.toInt * t) 3 (by omega) (by decide)
  refine ⟨rv_div (by decide) (by decide) (by decide) (rv_i2d x) (rv_i2d s) h0 hV ?_, hb⟩
  rw [show ((1 : Nat) : Int) = 1 from rfl, Int.one_mul, Int.one_mul, Int.mul_assoc, Int.mul_comm t, hs]
  all_goals rfl
/-- the law's own figure -/
theorem own_exp {wa wb wc ia ib sI : Int32} {t : Int} (ha : ia.toInt.natAbs ≤ 8) (hb : ib.toInt.natAbs ≤ 8) (hs : sI.toInt * t = 8) (ht : t.natAbs ≤ 8) (h0 : sI.toInt ≠ 0) :
    Jvm.Free.Fl.NoNaN64 (FP.dsub (FP.i2d wb) (FP.i2d wa)) ∧ Jvm.Free.Fl.NoNaN64 (FP.dsub (FP.i2d wc) (FP.i2d wa)) ∧ ∀ e2 e3 : UInt64, FP.dsub (FP.i2d wb) (FP.i2d wa) = e2 → FP.dsub (FP.i2d wc) (FP.i2d wa) = e3 →
      Jvm.Free.Fl.NoNaN64 (FP.ddiv (FP.i2d ia) (FP.i2d sI)) ∧ Jvm.Free.Fl.NoNaN64 (FP.dmul (FP.ddiv (FP.i2d ia) (FP.i2d sI)) e2) ∧ Jvm.Free.Fl.NoNaN64 (FP.dadd (FP.i2d wa) (FP.dmul (FP.ddiv (FP.i2d ia) (FP.i2d sI)) e2)) ∧
      Jvm.Free.Fl.NoNaN64 (FP.ddiv (FP.i2d ib) (FP.i2d sI)) ∧ Jvm.Free.Fl.NoNaN64 (FP.dmul (FP.ddiv (FP.i2d ib) (FP.i2d sI)) e3) ∧ Jvm.Free.Fl.NoNaN64 (FP.dadd (FP.dadd (FP.i2d wa) (FP.dmul (FP.ddiv (FP.i2d ia) (FP.i2d sI)) e2)) (FP.dmul (FP.ddiv (FP.i2d ib) (FP.i2d sI)) e3)) ∧
      Rv (FP.dadd (FP.dadd (FP.i2d wa) (FP.dmul (FP.ddiv (FP.i2d ia) (FP.i2d sI)) e2)) (FP.dmul (FP.ddiv (FP.i2d ib) (FP.i2d sI)) e3)) (wa.toInt * 8 + ia.toInt * t * (wb.toInt - wa.toInt) + ib.toInt * t * (wc.toInt - wa.toInt)) (2 ^ 3) := by
  have r1 := rb_sub (rb_i2d wb) (rb_i2d wa) (by decide) (by decide)
  have r2 := rb_sub (rb_i2d wc) (rb_i2d wa) (by decide) (by decide)
  refine ⟨rb_nn r1, rb_nn r2, fun e2 e3 h2 h3 => ?_⟩
  rw [h2] at r1
  rw [h3] at r2
  have q1 := own_quo ha hs ht h0
  have q2 := own_quo hb hs ht h0
  have m1 := rb_mul0' (M := 274877906944) q1 r1 (by decide) (by decide) (by decide)
  have m2 := rb_mul0' (M := 274877906944) q2 r2 (by decide) (by decide) (by decide)
  have u : Rb (FP.i2d wa) (wa.toInt * 8) 3 17179869184 := rb_up (k := 0) 3 (rb_i2d wa)
  have s1 := rb_add u m1 (by decide) (by decide)
  have s2 := rb_add s1 m2 (by decide) (by decide)
  exact ⟨rb_nn q1, rb_nn m1, rb_nn s1, rb_nn q2, rb_nn m2, rb_nn s2, s2.1⟩
theorem own_fin3 {x y : UInt64} {N E : Int} {B : Nat} (h1 : Rb x N 6 B) (h2 : Rv y E (2 ^ 3)) (e : N * 8 = E * 64) (o : Jvm.ClassFile.CmpOp) : Jvm.Op.cmpValue (FP.dcmp x y) o = 0 := (rcv (by decide) (by decide) h1.1 h2 o).2.2.mpr e
end Jvm.Own
namespace Jvm.Pilot.@@N@@
open Jvm Jvm.ClassFile Sem Op Lib Jvm.Free Jvm.Stand Jvm.LawKit Jvm.RoadKit Bundle Jvm.Own Jvm.Pilot.@@N@@.Jvm.D
theorem own_fd0 : parseFieldDescriptor "D" = some .double := by decide +kernel
theorem own_nes0 : ("y" : String) ≠ "x" := by decide +kernel
theorem own_nes1 : ("z" : String) ≠ "x" := by decide +kernel
theorem own_nes2 : ("x" : String) ≠ "y" := by decide +kernel
theorem own_nes3 : ("z" : String) ≠ "y" := by decide +kernel
theorem own_nes4 : ("x" : String) ≠ "z" := by decide +kernel
theorem own_nes5 : ("y" : String) ≠ "z" := by decide +kernel
theorem own_pd0 : parseMethodDescriptor "(DDD)V" = some ⟨[.double, .double, .double], none⟩ := by decide +kernel
theorem own_pd1 : parseMethodDescriptor "()D" = some ⟨[], some .double⟩ := by decide +kernel
theorem own_nes6 : ("cornerY" : String) ≠ "cornerX" := by decide +kernel
theorem own_nes7 : ("cornerZ" : String) ≠ "cornerX" := by decide +kernel
theorem own_nes8 : ("cornerU" : String) ≠ "cornerX" := by decide +kernel
theorem own_nes9 : ("cornerV" : String) ≠ "cornerX" := by decide +kernel
theorem own_nes10 : ("uGradientX" : String) ≠ "cornerX" := by decide +kernel
theorem own_nes11 : ("uGradientY" : String) ≠ "cornerX" := by decide +kernel
theorem own_nes12 : ("uGradientZ" : String) ≠ "cornerX" := by decide +kernel
theorem own_nes13 : ("vGradientX" : String) ≠ "cornerX" := by decide +kernel
theorem own_nes14 : ("vGradientY" : String) ≠ "cornerX" := by decide +kernel
theorem own_nes15 : ("vGradientZ" : String) ≠ "cornerX" := by decide +kernel
theorem own_nes16 : ("cornerX" : String) ≠ "cornerY" := by decide +kernel
theorem own_nes17 : ("cornerZ" : String) ≠ "cornerY" := by decide +kernel
theorem own_nes18 : ("cornerU" : String) ≠ "cornerY" := by decide +kernel
theorem own_nes19 : ("cornerV" : String) ≠ "cornerY" := by decide +kernel
theorem own_nes20 : ("uGradientX" : String) ≠ "cornerY" := by decide +kernel
theorem own_nes21 : ("uGradientY" : String) ≠ "cornerY" := by decide +kernel
theorem own_nes22 : ("uGradientZ" : String) ≠ "cornerY" := by decide +kernel
theorem own_nes23 : ("vGradientX" : String) ≠ "cornerY" := by decide +kernel
theorem own_nes24 : ("vGradientY" : String) ≠ "cornerY" := by decide +kernel
theorem own_nes25 : ("vGradientZ" : String) ≠ "cornerY" := by decide +kernel
theorem own_nes26 : ("cornerX" : String) ≠ "cornerZ" := by decide +kernel
theorem own_nes27 : ("cornerY" : String) ≠ "cornerZ" := by decide +kernel
theorem own_nes28 : ("cornerU" : String) ≠ "cornerZ" := by decide +kernel
theorem own_nes29 : ("cornerV" : String) ≠ "cornerZ" := by decide +kernel
theorem own_nes30 : ("uGradientX" : String) ≠ "cornerZ" := by decide +kernel
theorem own_nes31 : ("uGradientY" : String) ≠ "cornerZ" := by decide +kernel
theorem own_nes32 : ("uGradientZ" : String) ≠ "cornerZ" := by decide +kernel
theorem own_nes33 : ("vGradientX" : String) ≠ "cornerZ" := by decide +kernel
theorem own_nes34 : ("vGradientY" : String) ≠ "cornerZ" := by decide +kernel
theorem own_nes35 : ("vGradientZ" : String) ≠ "cornerZ" := by decide +kernel
theorem own_nes36 : ("cornerX" : String) ≠ "cornerU" := by decide +kernel
theorem own_nes37 : ("cornerY" : String) ≠ "cornerU" := by decide +kernel
theorem own_nes38 : ("cornerZ" : String) ≠ "cornerU" := by decide +kernel
theorem own_nes39 : ("cornerV" : String) ≠ "cornerU" := by decide +kernel
theorem own_nes40 : ("uGradientX" : String) ≠ "cornerU" := by decide +kernel
theorem own_nes41 : ("uGradientY" : String) ≠ "cornerU" := by decide +kernel
theorem own_nes42 : ("uGradientZ" : String) ≠ "cornerU" := by decide +kernel
theorem own_nes43 : ("vGradientX" : String) ≠ "cornerU" := by decide +kernel
theorem own_nes44 : ("vGradientY" : String) ≠ "cornerU" := by decide +kernel
theorem own_nes45 : ("vGradientZ" : String) ≠ "cornerU" := by decide +kernel
theorem own_nes46 : ("cornerX" : String) ≠ "cornerV" := by decide +kernel
theorem own_nes47 : ("cornerY" : String) ≠ "cornerV" := by decide +kernel
theorem own_nes48 : ("cornerZ" : String) ≠ "cornerV" := by decide +kernel
theorem own_nes49 : ("cornerU" : String) ≠ "cornerV" := by decide +kernel
theorem own_nes50 : ("uGradientX" : String) ≠ "cornerV" := by decide +kernel
theorem own_nes51 : ("uGradientY" : String) ≠ "cornerV" := by decide +kernel
theorem own_nes52 : ("uGradientZ" : String) ≠ "cornerV" := by decide +kernel
theorem own_nes53 : ("vGradientX" : String) ≠ "cornerV" := by decide +kernel
theorem own_nes54 : ("vGradientY" : String) ≠ "cornerV" := by decide +kernel
theorem own_nes55 : ("vGradientZ" : String) ≠ "cornerV" := by decide +kernel
theorem own_pd2 : parseMethodDescriptor "(Lcom/example/stochastic_ray_tracer/stochasticraytracer/Vec3;)D" = some ⟨[(.object "com/example/stochastic_ray_tracer/stochasticraytracer/Vec3")], some .double⟩ := by decide +kernel
theorem own_pd3 : parseMethodDescriptor "(D)Lcom/example/stochastic_ray_tracer/stochasticraytracer/Vec3;" = some ⟨[.double], some (.object "com/example/stochastic_ray_tracer/stochasticraytracer/Vec3")⟩ := by decide +kernel
theorem own_pd4 : parseMethodDescriptor "(Lcom/example/stochastic_ray_tracer/stochasticraytracer/Vec3;)Lcom/example/stochastic_ray_tracer/stochasticraytracer/Vec3;" = some ⟨[(.object "com/example/stochastic_ray_tracer/stochasticraytracer/Vec3")], some (.object "com/example/stochastic_ray_tracer/stochasticraytracer/Vec3")⟩ := by decide +kernel
theorem own_nes56 : ("cornerX" : String) ≠ "uGradientX" := by decide +kernel
theorem own_nes57 : ("cornerY" : String) ≠ "uGradientX" := by decide +kernel
theorem own_nes58 : ("cornerZ" : String) ≠ "uGradientX" := by decide +kernel
theorem own_nes59 : ("cornerU" : String) ≠ "uGradientX" := by decide +kernel
theorem own_nes60 : ("cornerV" : String) ≠ "uGradientX" := by decide +kernel
theorem own_nes61 : ("uGradientY" : String) ≠ "uGradientX" := by decide +kernel
theorem own_nes62 : ("uGradientZ" : String) ≠ "uGradientX" := by decide +kernel
theorem own_nes63 : ("vGradientX" : String) ≠ "uGradientX" := by decide +kernel
theorem own_nes64 : ("vGradientY" : String) ≠ "uGradientX" := by decide +kernel
theorem own_nes65 : ("vGradientZ" : String) ≠ "uGradientX" := by decide +kernel
theorem own_nes66 : ("cornerX" : String) ≠ "uGradientY" := by decide +kernel
theorem own_nes67 : ("cornerY" : String) ≠ "uGradientY" := by decide +kernel
theorem own_nes68 : ("cornerZ" : String) ≠ "uGradientY" := by decide +kernel
theorem own_nes69 : ("cornerU" : String) ≠ "uGradientY" := by decide +kernel
theorem own_nes70 : ("cornerV" : String) ≠ "uGradientY" := by decide +kernel
theorem own_nes71 : ("uGradientX" : String) ≠ "uGradientY" := by decide +kernel
theorem own_nes72 : ("uGradientZ" : String) ≠ "uGradientY" := by decide +kernel
theorem own_nes73 : ("vGradientX" : String) ≠ "uGradientY" := by decide +kernel
theorem own_nes74 : ("vGradientY" : String) ≠ "uGradientY" := by decide +kernel
theorem own_nes75 : ("vGradientZ" : String) ≠ "uGradientY" := by decide +kernel
theorem own_nes76 : ("cornerX" : String) ≠ "uGradientZ" := by decide +kernel
theorem own_nes77 : ("cornerY" : String) ≠ "uGradientZ" := by decide +kernel
theorem own_nes78 : ("cornerZ" : String) ≠ "uGradientZ" := by decide +kernel
theorem own_nes79 : ("cornerU" : String) ≠ "uGradientZ" := by decide +kernel
theorem own_nes80 : ("cornerV" : String) ≠ "uGradientZ" := by decide +kernel
theorem own_nes81 : ("uGradientX" : String) ≠ "uGradientZ" := by decide +kernel
theorem own_nes82 : ("uGradientY" : String) ≠ "uGradientZ" := by decide +kernel
theorem own_nes83 : ("vGradientX" : String) ≠ "uGradientZ" := by decide +kernel
theorem own_nes84 : ("vGradientY" : String) ≠ "uGradientZ" := by decide +kernel
theorem own_nes85 : ("vGradientZ" : String) ≠ "uGradientZ" := by decide +kernel
theorem own_nes86 : ("cornerX" : String) ≠ "vGradientX" := by decide +kernel
theorem own_nes87 : ("cornerY" : String) ≠ "vGradientX" := by decide +kernel
theorem own_nes88 : ("cornerZ" : String) ≠ "vGradientX" := by decide +kernel
theorem own_nes89 : ("cornerU" : String) ≠ "vGradientX" := by decide +kernel
theorem own_nes90 : ("cornerV" : String) ≠ "vGradientX" := by decide +kernel
theorem own_nes91 : ("uGradientX" : String) ≠ "vGradientX" := by decide +kernel
theorem own_nes92 : ("uGradientY" : String) ≠ "vGradientX" := by decide +kernel
theorem own_nes93 : ("uGradientZ" : String) ≠ "vGradientX" := by decide +kernel
theorem own_nes94 : ("vGradientY" : String) ≠ "vGradientX" := by decide +kernel
theorem own_nes95 : ("vGradientZ" : String) ≠ "vGradientX" := by decide +kernel
theorem own_nes96 : ("cornerX" : String) ≠ "vGradientY" := by decide +kernel
theorem own_nes97 : ("cornerY" : String) ≠ "vGradientY" := by decide +kernel
theorem own_nes98 : ("cornerZ" : String) ≠ "vGradientY" := by decide +kernel
theorem own_nes99 : ("cornerU" : String) ≠ "vGradientY" := by decide +kernel
theorem own_nes100 : ("cornerV" : String) ≠ "vGradientY" := by decide +kernel
theorem own_nes101 : ("uGradientX" : String) ≠ "vGradientY" := by decide +kernel
theorem own_nes102 : ("uGradientY" : String) ≠ "vGradientY" := by decide +kernel
theorem own_nes103 : ("uGradientZ" : String) ≠ "vGradientY" := by decide +kernel
theorem own_nes104 : ("vGradientX" : String) ≠ "vGradientY" := by decide +kernel
theorem own_nes105 : ("vGradientZ" : String) ≠ "vGradientY" := by decide +kernel
theorem own_nes106 : ("cornerX" : String) ≠ "vGradientZ" := by decide +kernel
theorem own_nes107 : ("cornerY" : String) ≠ "vGradientZ" := by decide +kernel
theorem own_nes108 : ("cornerZ" : String) ≠ "vGradientZ" := by decide +kernel
theorem own_nes109 : ("cornerU" : String) ≠ "vGradientZ" := by decide +kernel
theorem own_nes110 : ("cornerV" : String) ≠ "vGradientZ" := by decide +kernel
theorem own_nes111 : ("uGradientX" : String) ≠ "vGradientZ" := by decide +kernel
theorem own_nes112 : ("uGradientY" : String) ≠ "vGradientZ" := by decide +kernel
theorem own_nes113 : ("uGradientZ" : String) ≠ "vGradientZ" := by decide +kernel
theorem own_nes114 : ("vGradientX" : String) ≠ "vGradientZ" := by decide +kernel
theorem own_nes115 : ("vGradientY" : String) ≠ "vGradientZ" := by decide +kernel
theorem own_pd5 : parseMethodDescriptor "(II)I" = some ⟨[.int, .int], some .int⟩ := by decide +kernel
theorem own_pd6 : parseMethodDescriptor "(IIJJJ)J" = some ⟨[.int, .int, .long, .long, .long], some .long⟩ := by decide +kernel
theorem own_pd7 : parseMethodDescriptor "(IJJJ)Lcom/example/stochastic_ray_tracer/stochasticraytracer/Vec3;" = some ⟨[.int, .long, .long, .long], some (.object "com/example/stochastic_ray_tracer/stochasticraytracer/Vec3")⟩ := by decide +kernel
theorem own_pd8 : parseMethodDescriptor "(Lcom/example/stochastic_ray_tracer/stochasticraytracer/Vec3;Lcom/example/stochastic_ray_tracer/stochasticraytracer/Vec3;Lcom/example/stochastic_ray_tracer/stochasticraytracer/Vec3;[D)V" = some ⟨[(.object "com/example/stochastic_ray_tracer/stochasticraytracer/Vec3"), (.object "com/example/stochastic_ray_tracer/stochasticraytracer/Vec3"), (.object "com/example/stochastic_ray_tracer/stochasticraytracer/Vec3"), (.array .double)], none⟩ := by decide +kernel
theorem own_pd9 : parseMethodDescriptor "(DDD)D" = some ⟨[.double, .double, .double], some .double⟩ := by decide +kernel
theorem own_pn0 : plainName "com/example/stochastic_ray_tracer/stochasticraytracer/TextureCoordinatesVPinLaw" = true := by first | (simp [plainName, overriddenIn]; done) | decide +kernel
theorem own_pn1 : plainName "com/example/stochastic_ray_tracer/stochasticraytracer/Vec3" = true := by first | (simp [plainName, overriddenIn]; done) | decide +kernel
theorem own_pn2 : plainName "com/example/stochastic_ray_tracer/stochasticraytracer/TextureCoordinates" = true := by first | (simp [plainName, overriddenIn]; done) | decide +kernel
theorem own_d5_0 : decode method_5_code 0 = .ok (.iload_n 0, 1) := by decide +kernel
theorem own_d5_1 : decode method_5_code 1 = .ok (.ifCond .ne 5, 3) := by decide +kernel
theorem own_d5_4 : decode method_5_code 4 = .ok (.iload_n 1, 1) := by decide +kernel
theorem own_d5_5 : decode method_5_code 5 = .ok (.ireturn, 1) := by decide +kernel
theorem own_d5_6 : decode method_5_code 6 = .ok (.iload_n 0, 1) := by decide +kernel
theorem own_d5_7 : decode method_5_code 7 = .ok (.iconst 1, 1) := by decide +kernel
theorem own_d5_8 : decode method_5_code 8 = .ok (.if_icmp .ne 9, 3) := by decide +kernel
theorem own_d5_11 : decode method_5_code 11 = .ok (.iload_n 1, 1) := by decide +kernel
theorem own_d5_12 : decode method_5_code 12 = .ok (.iconst 1, 1) := by decide +kernel
theorem own_d5_13 : decode method_5_code 13 = .ok (.iadd, 1) := by decide +kernel
theorem own_d5_14 : decode method_5_code 14 = .ok (.iconst 3, 1) := by decide +kernel
theorem own_d5_15 : decode method_5_code 15 = .ok (.irem, 1) := by decide +kernel
theorem own_d5_16 : decode method_5_code 16 = .ok (.ireturn, 1) := by decide +kernel
theorem own_d5_17 : decode method_5_code 17 = .ok (.iload_n 0, 1) := by decide +kernel
theorem own_d5_18 : decode method_5_code 18 = .ok (.iconst 2, 1) := by decide +kernel
theorem own_d5_19 : decode method_5_code 19 = .ok (.if_icmp .ne 9, 3) := by decide +kernel
theorem own_d5_22 : decode method_5_code 22 = .ok (.iload_n 1, 1) := by decide +kernel
theorem own_d5_23 : decode method_5_code 23 = .ok (.iconst 2, 1) := by decide +kernel
theorem own_d5_24 : decode method_5_code 24 = .ok (.iadd, 1) := by decide +kernel
theorem own_d5_25 : decode method_5_code 25 = .ok (.iconst 3, 1) := by decide +kernel
theorem own_d5_26 : decode method_5_code 26 = .ok (.irem, 1) := by decide +kernel
theorem own_d5_27 : decode method_5_code 27 = .ok (.ireturn, 1) := by decide +kernel
theorem own_d5_28 : decode method_5_code 28 = .ok (.iload_n 0, 1) := by decide +kernel
theorem own_d5_29 : decode method_5_code 29 = .ok (.iconst 3, 1) := by decide +kernel
theorem own_d5_30 : decode method_5_code 30 = .ok (.if_icmp .ne 18, 3) := by decide +kernel
theorem own_d5_33 : decode method_5_code 33 = .ok (.iload_n 1, 1) := by decide +kernel
theorem own_d5_34 : decode method_5_code 34 = .ok (.ifCond .ne 5, 3) := by decide +kernel
theorem own_d5_37 : decode method_5_code 37 = .ok (.iconst 1, 1) := by decide +kernel
theorem own_d5_38 : decode method_5_code 38 = .ok (.ireturn, 1) := by decide +kernel
theorem own_d5_48 : decode method_5_code 48 = .ok (.iload_n 0, 1) := by decide +kernel
theorem own_d5_49 : decode method_5_code 49 = .ok (.iconst 4, 1) := by decide +kernel
theorem own_d5_50 : decode method_5_code 50 = .ok (.if_icmp .ne 18, 3) := by decide +kernel
theorem own_d5_53 : decode method_5_code 53 = .ok (.iload_n 1, 1) := by decide +kernel
theorem own_d5_54 : decode method_5_code 54 = .ok (.ifCond .ne 5, 3) := by decide +kernel
theorem own_d5_57 : decode method_5_code 57 = .ok (.iconst 0, 1) := by decide +kernel
theorem own_d5_58 : decode method_5_code 58 = .ok (.ireturn, 1) := by decide +kernel
theorem own_d5_68 : decode method_5_code 68 = .ok (.iload_n 1, 1) := by decide +kernel
theorem own_d5_69 : decode method_5_code 69 = .ok (.ifCond .ne 5, 3) := by decide +kernel
theorem own_d5_72 : decode method_5_code 72 = .ok (.iconst 2, 1) := by decide +kernel
theorem own_d5_73 : decode method_5_code 73 = .ok (.ireturn, 1) := by decide +kernel
def own_Q5_0 (Z : State) (pk : Int32) (h0 : Heap) (n0 : Nat) (v : Option Value) (h : Heap) (L : List Loc) : Prop := v = some (.int (own_sl0 pk)) ∧ Fr n0 L ∧ h = h0
set_option maxRecDepth 65536 in
set_option maxHeartbeats 40000000 in
theorem own_rm5_0 (l : Launch) (Z : State) (a0 : Array Value) (hw : ∀ d ∈ tables_1, d.before a0 Z = true) (ws : List Jvm.Cond) (pk : Int32) (h0 : Heap) (n0 : Nat) (Z0 : n0 ≤ h0.size) :
    Con l Z (⟨"com/example/stochastic_ray_tracer/stochasticraytracer/TextureCoordinatesVPinLaw", "slot", "(II)I"⟩ : MethodName) method_5_code 2 (some .int) ws ({ frames := 0, cells := 0, slots := 0, locals := 0 } : Room) #[(.int pk), (.int (0 : Int32))] h0 (own_Q5_0 Z pk h0 n0) := by
  refine Con.start #[.val (.int pk), .val (.int (0 : Int32))] (plainFor_of_name own_pn0) (fun m => by first | (refine own_ef ?_; exact rfl) | (simp [entryFrame, mkF, argsToLocals, Value.category]; done) | rfl) ?_
  intro p e s m below meth c s₁ P X0 hx hby hml hret hlk hown hnm hZ e0 hf
  have hml : c.maxLocals = 2 := hml
  have N0 := Fr.nil n0
  refine g_iloadN (pc' := 1) X0 hx hby (v := pk) own_d5_0 rfl rfl ?_
  by_cases hc1 : pk = (0 : Int32)
  · refine g_ifN (pc' := 4) X0 hx hby own_d5_1 rfl (teq hc1).2 rfl ?_
    refine g_iloadN (pc' := 5) X0 hx hby (v := (0 : Int32)) own_d5_4 rfl rfl ?_
    exact g_retV X0 hx hby hf hlk hret own_d5_5 rfl rfl (Or.inl ⟨rfl, Or.inl rfl, _, rfl⟩) (by decide) (by decide) e0 ⟨(by simp only [own_sl0, if_pos hc1]), N0, rfl⟩
  · refine g_ifY (pc' := 6) X0 hx hby own_d5_1 rfl (feq hc1).2 (by decide) (by decide) ?_
    refine g_iloadN (pc' := 7) X0 hx hby (v := pk) own_d5_6 rfl rfl ?_
    refine g_iconst (pc' := 8) (v := (1 : Int32)) X0 hx hby own_d5_7 rfl rfl ?_
    by_cases hc8 : pk = (1 : Int32)
    · refine g_icN (pc' := 11) X0 hx hby own_d5_8 rfl (teq hc8).2 rfl ?_
      refine g_iloadN (pc' := 12) X0 hx hby (v := (0 : Int32)) own_d5_11 rfl rfl ?_
      refine g_iconst (pc' := 13) (v := (1 : Int32)) X0 hx hby own_d5_12 rfl rfl ?_
      refine g_iadd (pc' := 14) (v := (1 : Int32)) X0 hx hby own_d5_13 rfl rfl rfl ?_
      refine g_iconst (pc' := 15) (v := (3 : Int32)) X0 hx hby own_d5_14 rfl rfl ?_
      refine g_irem (pc' := 16) (v := (1 : Int32)) X0 hx hby own_d5_15 rfl (by decide) (by decide) rfl ?_
      exact g_retV X0 hx hby hf hlk hret own_d5_16 rfl rfl (Or.inl ⟨rfl, Or.inl rfl, _, rfl⟩) (by decide) (by decide) e0 ⟨(by simp only [own_sl0, if_neg hc1, if_pos hc8]), N0, rfl⟩
    · refine g_icY (pc' := 17) X0 hx hby own_d5_8 rfl (feq hc8).2 (by decide) (by decide) ?_
      refine g_iloadN (pc' := 18) X0 hx hby (v := pk) own_d5_17 rfl rfl ?_
      refine g_iconst (pc' := 19) (v := (2 : Int32)) X0 hx hby own_d5_18 rfl rfl ?_
      by_cases hc19 : pk = (2 : Int32)
      · refine g_icN (pc' := 22) X0 hx hby own_d5_19 rfl (teq hc19).2 rfl ?_
        refine g_iloadN (pc' := 23) X0 hx hby (v := (0 : Int32)) own_d5_22 rfl rfl ?_
        refine g_iconst (pc' := 24) (v := (2 : Int32)) X0 hx hby own_d5_23 rfl rfl ?_
        refine g_iadd (pc' := 25) (v := (2 : Int32)) X0 hx hby own_d5_24 rfl rfl rfl ?_
        refine g_iconst (pc' := 26) (v := (3 : Int32)) X0 hx hby own_d5_25 rfl rfl ?_
        refine g_irem (pc' := 27) (v := (2 : Int32)) X0 hx hby own_d5_26 rfl (by decide) (by decide) rfl ?_
        exact g_retV X0 hx hby hf hlk hret own_d5_27 rfl rfl (Or.inl ⟨rfl, Or.inl rfl, _, rfl⟩) (by decide) (by decide) e0 ⟨(by simp only [own_sl0, if_neg hc1, if_neg hc8, if_pos hc19]), N0, rfl⟩
      · refine g_icY (pc' := 28) X0 hx hby own_d5_19 rfl (feq hc19).2 (by decide) (by decide) ?_
        refine g_iloadN (pc' := 29) X0 hx hby (v := pk) own_d5_28 rfl rfl ?_
        refine g_iconst (pc' := 30) (v := (3 : Int32)) X0 hx hby own_d5_29 rfl rfl ?_
        by_cases hc30 : pk = (3 : Int32)
        · refine g_icN (pc' := 33) X0 hx hby own_d5_30 rfl (teq hc30).2 rfl ?_
          refine g_iloadN (pc' := 34) X0 hx hby (v := (0 : Int32)) own_d5_33 rfl rfl ?_
          refine g_ifN (pc' := 37) X0 hx hby own_d5_34 rfl (teq (by decide : (0 : Int32) = (0 : Int32))).2 rfl ?_
          refine g_iconst (pc' := 38) (v := (1 : Int32)) X0 hx hby own_d5_37 rfl rfl ?_
          exact g_retV X0 hx hby hf hlk hret own_d5_38 rfl rfl (Or.inl ⟨rfl, Or.inl rfl, _, rfl⟩) (by decide) (by decide) e0 ⟨(by simp only [own_sl0, if_neg hc1, if_neg hc8, if_neg hc19, if_pos hc30]), N0, rfl⟩
        · refine g_icY (pc' := 48) X0 hx hby own_d5_30 rfl (feq hc30).2 (by decide) (by decide) ?_
          refine g_iloadN (pc' := 49) X0 hx hby (v := pk) own_d5_48 rfl rfl ?_
          refine g_iconst (pc' := 50) (v := (4 : Int32)) X0 hx hby own_d5_49 rfl rfl ?_
          by_cases hc50 : pk = (4 : Int32)
          · refine g_icN (pc' := 53) X0 hx hby own_d5_50 rfl (teq hc50).2 rfl ?_
            refine g_iloadN (pc' := 54) X0 hx hby (v := (0 : Int32)) own_d5_53 rfl rfl ?_
            refine g_ifN (pc' := 57) X0 hx hby own_d5_54 rfl (teq (by decide : (0 : Int32) = (0 : Int32))).2 rfl ?_
            refine g_iconst (pc' := 58) (v := (0 : Int32)) X0 hx hby own_d5_57 rfl rfl ?_
            exact g_retV X0 hx hby hf hlk hret own_d5_58 rfl rfl (Or.inl ⟨rfl, Or.inl rfl, _, rfl⟩) (by decide) (by decide) e0 ⟨(by simp only [own_sl0, if_neg hc1, if_neg hc8, if_neg hc19, if_neg hc30, if_pos hc50]), N0, rfl⟩
          · refine g_icY (pc' := 68) X0 hx hby own_d5_50 rfl (feq hc50).2 (by decide) (by decide) ?_
            refine g_iloadN (pc' := 69) X0 hx hby (v := (0 : Int32)) own_d5_68 rfl rfl ?_
            refine g_ifN (pc' := 72) X0 hx hby own_d5_69 rfl (teq (by decide : (0 : Int32) = (0 : Int32))).2 rfl ?_
            refine g_iconst (pc' := 73) (v := (2 : Int32)) X0 hx hby own_d5_72 rfl rfl ?_
            exact g_retV X0 hx hby hf hlk hret own_d5_73 rfl rfl (Or.inl ⟨rfl, Or.inl rfl, _, rfl⟩) (by decide) (by decide) e0 ⟨(by simp only [own_sl0, if_neg hc1, if_neg hc8, if_neg hc19, if_neg hc30, if_neg hc50]), N0, rfl⟩
theorem own_d5_39 : decode method_5_code 39 = .ok (.iload_n 1, 1) := by decide +kernel
theorem own_d5_40 : decode method_5_code 40 = .ok (.iconst 1, 1) := by decide +kernel
theorem own_d5_41 : decode method_5_code 41 = .ok (.if_icmp .ne 5, 3) := by decide +kernel
theorem own_d5_44 : decode method_5_code 44 = .ok (.iconst 0, 1) := by decide +kernel
theorem own_d5_45 : decode method_5_code 45 = .ok (.ireturn, 1) := by decide +kernel
theorem own_d5_59 : decode method_5_code 59 = .ok (.iload_n 1, 1) := by decide +kernel
theorem own_d5_60 : decode method_5_code 60 = .ok (.iconst 1, 1) := by decide +kernel
theorem own_d5_61 : decode method_5_code 61 = .ok (.if_icmp .ne 5, 3) := by decide +kernel
theorem own_d5_64 : decode method_5_code 64 = .ok (.iconst 2, 1) := by decide +kernel
theorem own_d5_65 : decode method_5_code 65 = .ok (.ireturn, 1) := by decide +kernel
theorem own_d5_74 : decode method_5_code 74 = .ok (.iload_n 1, 1) := by decide +kernel
theorem own_d5_75 : decode method_5_code 75 = .ok (.iconst 1, 1) := by decide +kernel
theorem own_d5_76 : decode method_5_code 76 = .ok (.if_icmp .ne 5, 3) := by decide +kernel
theorem own_d5_79 : decode method_5_code 79 = .ok (.iconst 1, 1) := by decide +kernel
theorem own_d5_80 : decode method_5_code 80 = .ok (.ireturn, 1) := by decide +kernel
def own_Q5_1 (Z : State) (pk : Int32) (h0 : Heap) (n0 : Nat) (v : Option Value) (h : Heap) (L : List Loc) : Prop := v = some (.int (own_sl1 pk)) ∧ Fr n0 L ∧ h = h0
set_option maxRecDepth 65536 in
set_option maxHeartbeats 40000000 in
theorem own_rm5_1 (l : Launch) (Z : State) (a0 : Array Value) (hw : ∀ d ∈ tables_1, d.before a0 Z = true) (ws : List Jvm.Cond) (pk : Int32) (h0 : Heap) (n0 : Nat) (Z0 : n0 ≤ h0.size) :
    Con l Z (⟨"com/example/stochastic_ray_tracer/stochasticraytracer/TextureCoordinatesVPinLaw", "slot", "(II)I"⟩ : MethodName) method_5_code 2 (some .int) ws ({ frames := 0, cells := 0, slots := 0, locals := 0 } : Room) #[(.int pk), (.int (1 : Int32))] h0 (own_Q5_1 Z pk h0 n0) := by
  refine Con.start #[.val (.int pk), .val (.int (1 : Int32))] (plainFor_of_name own_pn0) (fun m => by first | (refine own_ef ?_; exact rfl) | (simp [entryFrame, mkF, argsToLocals, Value.category]; done) | rfl) ?_
  intro p e s m below meth c s₁ P X0 hx hby hml hret hlk hown hnm hZ e0 hf
  have hml : c.maxLocals = 2 := hml
  have N0 := Fr.nil n0
  refine g_iloadN (pc' := 1) X0 hx hby (v := pk) own_d5_0 rfl rfl ?_
  by_cases hc1 : pk = (0 : Int32)
  · refine g_ifN (pc' := 4) X0 hx hby own_d5_1 rfl (teq hc1).2 rfl ?_
    refine g_iloadN (pc' := 5) X0 hx hby (v := (1 : Int32)) own_d5_4 rfl rfl ?_
    exact g_retV X0 hx hby hf hlk hret own_d5_5 rfl rfl (Or.inl ⟨rfl, Or.inl rfl, _, rfl⟩) (by decide) (by decide) e0 ⟨(by simp only [own_sl1, if_pos hc1]), N0, rfl⟩
  · refine g_ifY (pc' := 6) X0 hx hby own_d5_1 rfl (feq hc1).2 (by decide) (by decide) ?_
    refine g_iloadN (pc' := 7) X0 hx hby (v := pk) own_d5_6 rfl rfl ?_
    refine g_iconst (pc' := 8) (v := (1 : Int32)) X0 hx hby own_d5_7 rfl rfl ?_
    by_cases hc8 : pk = (1 : Int32)
    · refine g_icN (pc' := 11) X0 hx hby own_d5_8 rfl (teq hc8).2 rfl ?_
      refine g_iloadN (pc' := 12) X0 hx hby (v := (1 : Int32)) own_d5_11 rfl rfl ?_
      refine g_iconst (pc' := 13) (v := (1 : Int32)) X0 hx hby own_d5_12 rfl rfl ?_
      refine g_iadd (pc' := 14) (v := (2 : Int32)) X0 hx hby own_d5_13 rfl rfl rfl ?_
      refine g_iconst (pc' := 15) (v := (3 : Int32)) X0 hx hby own_d5_14 rfl rfl ?_
      refine g_irem (pc' := 16) (v := (2 : Int32)) X0 hx hby own_d5_15 rfl (by decide) (by decide) rfl ?_
      exact g_retV X0 hx hby hf hlk hret own_d5_16 rfl rfl (Or.inl ⟨rfl, Or.inl rfl, _, rfl⟩) (by decide) (by decide) e0 ⟨(by simp only [own_sl1, if_neg hc1, if_pos hc8]), N0, rfl⟩
    · refine g_icY (pc' := 17) X0 hx hby own_d5_8 rfl (feq hc8).2 (by decide) (by decide) ?_
      refine g_iloadN (pc' := 18) X0 hx hby (v := pk) own_d5_17 rfl rfl ?_
      refine g_iconst (pc' := 19) (v := (2 : Int32)) X0 hx hby own_d5_18 rfl rfl ?_
      by_cases hc19 : pk = (2 : Int32)
      · refine g_icN (pc' := 22) X0 hx hby own_d5_19 rfl (teq hc19).2 rfl ?_
        refine g_iloadN (pc' := 23) X0 hx hby (v := (1 : Int32)) own_d5_22 rfl rfl ?_
        refine g_iconst (pc' := 24) (v := (2 : Int32)) X0 hx hby own_d5_23 rfl rfl ?_
        refine g_iadd (pc' := 25) (v := (3 : Int32)) X0 hx hby own_d5_24 rfl rfl rfl ?_
        refine g_iconst (pc' := 26) (v := (3 : Int32)) X0 hx hby own_d5_25 rfl rfl ?_
        refine g_irem (pc' := 27) (v := (0 : Int32)) X0 hx hby own_d5_26 rfl (by decide) (by decide) rfl ?_
        exact g_retV X0 hx hby hf hlk hret own_d5_27 rfl rfl (Or.inl ⟨rfl, Or.inl rfl, _, rfl⟩) (by decide) (by decide) e0 ⟨(by simp only [own_sl1, if_neg hc1, if_neg hc8, if_pos hc19]), N0, rfl⟩
      · refine g_icY (pc' := 28) X0 hx hby own_d5_19 rfl (feq hc19).2 (by decide) (by decide) ?_
        refine g_iloadN (pc' := 29) X0 hx hby (v := pk) own_d5_28 rfl rfl ?_
        refine g_iconst (pc' := 30) (v := (3 : Int32)) X0 hx hby own_d5_29 rfl rfl ?_
        by_cases hc30 : pk = (3 : Int32)
        · refine g_icN (pc' := 33) X0 hx hby own_d5_30 rfl (teq hc30).2 rfl ?_
          refine g_iloadN (pc' := 34) X0 hx hby (v := (1 : Int32)) own_d5_33 rfl rfl ?_
          refine g_ifY (pc' := 39) X0 hx hby own_d5_34 rfl (feq (by decide : ¬ ((1 : Int32) = (0 : Int32)))).2 (by decide) (by decide) ?_
          refine g_iloadN (pc' := 40) X0 hx hby (v := (1 : Int32)) own_d5_39 rfl rfl ?_
          refine g_iconst (pc' := 41) (v := (1 : Int32)) X0 hx hby own_d5_40 rfl rfl ?_
          refine g_icN (pc' := 44) X0 hx hby own_d5_41 rfl (teq (by decide : (1 : Int32) = (1 : Int32))).2 rfl ?_
          refine g_iconst (pc' := 45) (v := (0 : Int32)) X0 hx hby own_d5_44 rfl rfl ?_
          exact g_retV X0 hx hby hf hlk hret own_d5_45 rfl rfl (Or.inl ⟨rfl, Or.inl rfl, _, rfl⟩) (by decide) (by decide) e0 ⟨(by simp only [own_sl1, if_neg hc1, if_neg hc8, if_neg hc19, if_pos hc30]), N0, rfl⟩
        · refine g_icY (pc' := 48) X0 hx hby own_d5_30 rfl (feq hc30).2 (by decide) (by decide) ?_
          refine g_iloadN (pc' := 49) X0 hx hby (v := pk) own_d5_48 rfl rfl ?_
          refine g_iconst (pc' := 50) (v := (4 : Int32)) X0 hx hby own_d5_49 rfl rfl ?_
          by_cases hc50 : pk = (4 : Int32)
          · refine g_icN (pc' := 53) X0 hx hby own_d5_50 rfl (teq hc50).2 rfl ?_
            refine g_iloadN (pc' := 54) X0 hx hby (v := (1 : Int32)) own_d5_53 rfl rfl ?_
            refine g_ifY (pc' := 59) X0 hx hby own_d5_54 rfl (feq (by decide : ¬ ((1 : Int32) = (0 : Int32)))).2 (by decide) (by decide) ?_
            refine g_iloadN (pc' := 60) X0 hx hby (v := (1 : Int32)) own_d5_59 rfl rfl ?_
            refine g_iconst (pc' := 61) (v := (1 : Int32)) X0 hx hby own_d5_60 rfl rfl ?_
            refine g_icN (pc' := 64) X0 hx hby own_d5_61 rfl (teq (by decide : (1 : Int32) = (1 : Int32))).2 rfl ?_
            refine g_iconst (pc' := 65) (v := (2 : Int32)) X0 hx hby own_d5_64 rfl rfl ?_
            exact g_retV X0 hx hby hf hlk hret own_d5_65 rfl rfl (Or.inl ⟨rfl, Or.inl rfl, _, rfl⟩) (by decide) (by decide) e0 ⟨(by simp only [own_sl1, if_neg hc1, if_neg hc8, if_neg hc19, if_neg hc30, if_pos hc50]), N0, rfl⟩
          · refine g_icY (pc' := 68) X0 hx hby own_d5_50 rfl (feq hc50).2 (by decide) (by decide) ?_
            refine g_iloadN (pc' := 69) X0 hx hby (v := (1 : Int32)) own_d5_68 rfl rfl ?_
            refine g_ifY (pc' := 74) X0 hx hby own_d5_69 rfl (feq (by decide : ¬ ((1 : Int32) = (0 : Int32)))).2 (by decide) (by decide) ?_
            refine g_iloadN (pc' := 75) X0 hx hby (v := (1 : Int32)) own_d5_74 rfl rfl ?_
            refine g_iconst (pc' := 76) (v := (1 : Int32)) X0 hx hby own_d5_75 rfl rfl ?_
            refine g_icN (pc' := 79) X0 hx hby own_d5_76 rfl (teq (by decide : (1 : Int32) = (1 : Int32))).2 rfl ?_
            refine g_iconst (pc' := 80) (v := (1 : Int32)) X0 hx hby own_d5_79 rfl rfl ?_
            exact g_retV X0 hx hby hf hlk hret own_d5_80 rfl rfl (Or.inl ⟨rfl, Or.inl rfl, _, rfl⟩) (by decide) (by decide) e0 ⟨(by simp only [own_sl1, if_neg hc1, if_neg hc8, if_neg hc19, if_neg hc30, if_neg hc50]), N0, rfl⟩
theorem own_d5_46 : decode method_5_code 46 = .ok (.iconst 2, 1) := by decide +kernel
theorem own_d5_47 : decode method_5_code 47 = .ok (.ireturn, 1) := by decide +kernel
theorem own_d5_66 : decode method_5_code 66 = .ok (.iconst 1, 1) := by decide +kernel
theorem own_d5_67 : decode method_5_code 67 = .ok (.ireturn, 1) := by decide +kernel
theorem own_d5_81 : decode method_5_code 81 = .ok (.iconst 0, 1) := by decide +kernel
theorem own_d5_82 : decode method_5_code 82 = .ok (.ireturn, 1) := by decide +kernel
def own_Q5_2 (Z : State) (pk : Int32) (h0 : Heap) (n0 : Nat) (v : Option Value) (h : Heap) (L : List Loc) : Prop := v = some (.int (own_sl2 pk)) ∧ Fr n0 L ∧ h = h0
set_option maxRecDepth 65536 in
set_option maxHeartbeats 40000000 in
theorem own_rm5_2 (l : Launch) (Z : State) (a0 : Array Value) (hw : ∀ d ∈ tables_1, d.before a0 Z = true) (ws : List Jvm.Cond) (pk : Int32) (h0 : Heap) (n0 : Nat) (Z0 : n0 ≤ h0.size) :
    Con l Z (⟨"com/example/stochastic_ray_tracer/stochasticraytracer/TextureCoordinatesVPinLaw", "slot", "(II)I"⟩ : MethodName) method_5_code 2 (some .int) ws ({ frames := 0, cells := 0, slots := 0, locals := 0 } : Room) #[(.int pk), (.int (2 : Int32))] h0 (own_Q5_2 Z pk h0 n0) := by
  refine Con.start #[.val (.int pk), .val (.int (2 : Int32))] (plainFor_of_name own_pn0) (fun m => by first | (refine own_ef ?_; exact rfl) | (simp [entryFrame, mkF, argsToLocals, Value.category]; done) | rfl) ?_
  intro p e s m below meth c s₁ P X0 hx hby hml hret hlk hown hnm hZ e0 hf
  have hml : c.maxLocals = 2 := hml
  have N0 := Fr.nil n0
  refine g_iloadN (pc' := 1) X0 hx hby (v := pk) own_d5_0 rfl rfl ?_
  by_cases hc1 : pk = (0 : Int32)
  · refine g_ifN (pc' := 4) X0 hx hby own_d5_1 rfl (teq hc1).2 rfl ?_
    refine g_iloadN (pc' := 5) X0 hx hby (v := (2 : Int32)) own_d5_4 rfl rfl ?_
    exact g_retV X0 hx hby hf hlk hret own_d5_5 rfl rfl (Or.inl ⟨rfl, Or.inl rfl, _, rfl⟩) (by decide) (by decide) e0 ⟨(by simp only [own_sl2, if_pos hc1]), N0, rfl⟩
  · refine g_ifY (pc' := 6) X0 hx hby own_d5_1 rfl (feq hc1).2 (by decide) (by decide) ?_
    refine g_iloadN (pc' := 7) X0 hx hby (v := pk) own_d5_6 rfl rfl ?_
    refine g_iconst (pc' := 8) (v := (1 : Int32)) X0 hx hby own_d5_7 rfl rfl ?_
    by_cases hc8 : pk = (1 : Int32)
    · refine g_icN (pc' := 11) X0 hx hby own_d5_8 rfl (teq hc8).2 rfl ?_
      refine g_iloadN (pc' := 12) X0 hx hby (v := (2 : Int32)) own_d5_11 rfl rfl ?_
      refine g_iconst (pc' := 13) (v := (1 : Int32)) X0 hx hby own_d5_12 rfl rfl ?_
      refine g_iadd (pc' := 14) (v := (3 : Int32)) X0 hx hby own_d5_13 rfl rfl rfl ?_
      refine g_iconst (pc' := 15) (v := (3 : Int32)) X0 hx hby own_d5_14 rfl rfl ?_
      refine g_irem (pc' := 16) (v := (0 : Int32)) X0 hx hby own_d5_15 rfl (by decide) (by decide) rfl ?_
      exact g_retV X0 hx hby hf hlk hret own_d5_16 rfl rfl (Or.inl ⟨rfl, Or.inl rfl, _, rfl⟩) (by decide) (by decide) e0 ⟨(by simp only [own_sl2, if_neg hc1, if_pos hc8]), N0, rfl⟩
    · refine g_icY (pc' := 17) X0 hx hby own_d5_8 rfl (feq hc8).2 (by decide) (by decide) ?_
      refine g_iloadN (pc' := 18) X0 hx hby (v := pk) own_d5_17 rfl rfl ?_
      refine g_iconst (pc' := 19) (v := (2 : Int32)) X0 hx hby own_d5_18 rfl rfl ?_
      by_cases hc19 : pk = (2 : Int32)
      · refine g_icN (pc' := 22) X0 hx hby own_d5_19 rfl (teq hc19).2 rfl ?_
        refine g_iloadN (pc' := 23) X0 hx hby (v := (2 : Int32)) own_d5_22 rfl rfl ?_
        refine g_iconst (pc' := 24) (v := (2 : Int32)) X0 hx hby own_d5_23 rfl rfl ?_
        refine g_iadd (pc' := 25) (v := (4 : Int32)) X0 hx hby own_d5_24 rfl rfl rfl ?_
        refine g_iconst (pc' := 26) (v := (3 : Int32)) X0 hx hby own_d5_25 rfl rfl ?_
        refine g_irem (pc' := 27) (v := (1 : Int32)) X0 hx hby own_d5_26 rfl (by decide) (by decide) rfl ?_
        exact g_retV X0 hx hby hf hlk hret own_d5_27 rfl rfl (Or.inl ⟨rfl, Or.inl rfl, _, rfl⟩) (by decide) (by decide) e0 ⟨(by simp only [own_sl2, if_neg hc1, if_neg hc8, if_pos hc19]), N0, rfl⟩
      · refine g_icY (pc' := 28) X0 hx hby own_d5_19 rfl (feq hc19).2 (by decide) (by decide) ?_
        refine g_iloadN (pc' := 29) X0 hx hby (v := pk) own_d5_28 rfl rfl ?_
        refine g_iconst (pc' := 30) (v := (3 : Int32)) X0 hx hby own_d5_29 rfl rfl ?_
        by_cases hc30 : pk = (3 : Int32)
        · refine g_icN (pc' := 33) X0 hx hby own_d5_30 rfl (teq hc30).2 rfl ?_
          refine g_iloadN (pc' := 34) X0 hx hby (v := (2 : Int32)) own_d5_33 rfl rfl ?_
          refine g_ifY (pc' := 39) X0 hx hby own_d5_34 rfl (feq (by decide : ¬ ((2 : Int32) = (0 : Int32)))).2 (by decide) (by decide) ?_
          refine g_iloadN (pc' := 40) X0 hx hby (v := (2 : Int32)) own_d5_39 rfl rfl ?_
          refine g_iconst (pc' := 41) (v := (1 : Int32)) X0 hx hby own_d5_40 rfl rfl ?_
          refine g_icY (pc' := 46) X0 hx hby own_d5_41 rfl (feq (by decide : ¬ ((2 : Int32) = (1 : Int32)))).2 (by decide) (by decide) ?_
          refine g_iconst (pc' := 47) (v := (2 : Int32)) X0 hx hby own_d5_46 rfl rfl ?_
          exact g_retV X0 hx hby hf hlk hret own_d5_47 rfl rfl (Or.inl ⟨rfl, Or.inl rfl, _, rfl⟩) (by decide) (by decide) e0 ⟨(by simp only [own_sl2, if_neg hc1, if_neg hc8, if_neg hc19, if_pos hc30]), N0, rfl⟩
        · refine g_icY (pc' := 48) X0 hx hby own_d5_30 rfl (feq hc30).2 (by decide) (by decide) ?_
          refine g_iloadN (pc' := 49) X0 hx hby (v := pk) own_d5_48 rfl rfl ?_
          refine g_iconst (pc' := 50) (v := (4 : Int32)) X0 hx hby own_d5_49 rfl rfl ?_
          by_cases hc50 : pk = (4 : Int32)
          · refine g_icN (pc' := 53) X0 hx hby own_d5_50 rfl (teq hc50).2 rfl ?_
            refine g_iloadN (pc' := 54) X0 hx hby (v := (2 : Int32)) own_d5_53 rfl rfl ?_
            refine g_ifY (pc' := 59) X0 hx hby own_d5_54 rfl (feq (by decide : ¬ ((2 : Int32) = (0 : Int32)))).2 (by decide) (by decide) ?_
            refine g_iloadN (pc' := 60) X0 hx hby (v := (2 : Int32)) own_d5_59 rfl rfl ?_
            refine g_iconst (pc' := 61) (v := (1 : Int32)) X0 hx hby own_d5_60 rfl rfl ?_
            refine g_icY (pc' := 66) X0 hx hby own_d5_61 rfl (feq (by decide : ¬ ((2 : Int32) = (1 : Int32)))).2 (by decide) (by decide) ?_
            refine g_iconst (pc' := 67) (v := (1 : Int32)) X0 hx hby own_d5_66 rfl rfl ?_
            exact g_retV X0 hx hby hf hlk hret own_d5_67 rfl rfl (Or.inl ⟨rfl, Or.inl rfl, _, rfl⟩) (by decide) (by decide) e0 ⟨(by simp only [own_sl2, if_neg hc1, if_neg hc8, if_neg hc19, if_neg hc30, if_pos hc50]), N0, rfl⟩
          · refine g_icY (pc' := 68) X0 hx hby own_d5_50 rfl (feq hc50).2 (by decide) (by decide) ?_
            refine g_iloadN (pc' := 69) X0 hx hby (v := (2 : Int32)) own_d5_68 rfl rfl ?_
            refine g_ifY (pc' := 74) X0 hx hby own_d5_69 rfl (feq (by decide : ¬ ((2 : Int32) = (0 : Int32)))).2 (by decide) (by decide) ?_
            refine g_iloadN (pc' := 75) X0 hx hby (v := (2 : Int32)) own_d5_74 rfl rfl ?_
            refine g_iconst (pc' := 76) (v := (1 : Int32)) X0 hx hby own_d5_75 rfl rfl ?_
            refine g_icY (pc' := 81) X0 hx hby own_d5_76 rfl (feq (by decide : ¬ ((2 : Int32) = (1 : Int32)))).2 (by decide) (by decide) ?_
            refine g_iconst (pc' := 82) (v := (0 : Int32)) X0 hx hby own_d5_81 rfl rfl ?_
            exact g_retV X0 hx hby hf hlk hret own_d5_82 rfl rfl (Or.inl ⟨rfl, Or.inl rfl, _, rfl⟩) (by decide) (by decide) e0 ⟨(by simp only [own_sl2, if_neg hc1, if_neg hc8, if_neg hc19, if_neg hc30, if_neg hc50]), N0, rfl⟩
theorem own_d4_0 : decode method_4_code 0 = .ok (.iload_n 0, 1) := by decide +kernel
theorem own_d4_1 : decode method_4_code 1 = .ok (.iload_n 1, 1) := by decide +kernel
theorem own_d4_2 : decode method_4_code 2 = .ok (.invokestatic 32, 3) := by decide +kernel
theorem own_d4_5 : decode method_4_code 5 = .ok (.istore 8, 2) := by decide +kernel
theorem own_d4_7 : decode method_4_code 7 = .ok (.iload 8, 2) := by decide +kernel
theorem own_d4_9 : decode method_4_code 9 = .ok (.ifCond .ne 5, 3) := by decide +kernel
theorem own_d4_12 : decode method_4_code 12 = .ok (.lload_n 2, 1) := by decide +kernel
theorem own_d4_13 : decode method_4_code 13 = .ok (.lreturn, 1) := by decide +kernel
theorem own_d4_14 : decode method_4_code 14 = .ok (.iload 8, 2) := by decide +kernel
theorem own_d4_16 : decode method_4_code 16 = .ok (.iconst 1, 1) := by decide +kernel
theorem own_d4_17 : decode method_4_code 17 = .ok (.if_icmp .ne 6, 3) := by decide +kernel
theorem own_d4_20 : decode method_4_code 20 = .ok (.lload 4, 2) := by decide +kernel
theorem own_d4_22 : decode method_4_code 22 = .ok (.lreturn, 1) := by decide +kernel
theorem own_d4_23 : decode method_4_code 23 = .ok (.lload 6, 2) := by decide +kernel
theorem own_d4_25 : decode method_4_code 25 = .ok (.lreturn, 1) := by decide +kernel
def own_Q4_0 (Z : State) (pk : Int32) (ja : Int64) (jb : Int64) (jc : Int64) (h0 : Heap) (n0 : Nat) (v : Option Value) (h : Heap) (L : List Loc) : Prop := v = some (.long (own_pk0 pk ja jb jc)) ∧ Fr n0 L ∧ h = h0
set_option maxRecDepth 65536 in
set_option maxHeartbeats 40000000 in
theorem own_rm4_0 (l : Launch) (Z : State) (a0 : Array Value) (hw : ∀ d ∈ tables_1, d.before a0 Z = true) (ws : List Jvm.Cond) (pk : Int32) (ja : Int64) (jb : Int64) (jc : Int64) (h0 : Heap) (n0 : Nat) (Z0 : n0 ≤ h0.size) :
    Con l Z (⟨"com/example/stochastic_ray_tracer/stochasticraytracer/TextureCoordinatesVPinLaw", "pick", "(IIJJJ)J"⟩ : MethodName) method_4_code 9 (some .long) ws ({ frames := 1, cells := 0, slots := 0, locals := 13 } : Room) #[(.int pk), (.int (0 : Int32)), (.long ja), (.long jb), (.long jc)] h0 (own_Q4_0 Z pk ja jb jc h0 n0) := by
  refine Con.start #[.val (.int pk), .val (.int (0 : Int32)), .val (.long ja), .second, .val (.long jb), .second, .val (.long jc), .second, .unset] (plainFor_of_name own_pn0) (fun m => by first | (refine own_ef ?_; exact rfl) | (simp [entryFrame, mkF, argsToLocals, Value.category]; done) | rfl) ?_
  intro p e s m below meth c s₁ P X0 hx hby hml hret hlk hown hnm hZ e0 hf
  have hml : c.maxLocals = 9 := hml
  have N0 := Fr.nil n0
  refine g_iloadN (pc' := 1) X0 hx hby (v := pk) own_d4_0 rfl rfl ?_
  refine g_iloadN (pc' := 2) X0 hx hby (v := (0 : Int32)) own_d4_1 rfl rfl ?_
  refine g_callS (argsL := [(.int pk), (.int (0 : Int32))]) (pc' := 5) X0 hx hby (by rw [hml]; rfl) hZ hown e0 (own_rm5_0 l Z a0 hw [] pk  h0 n0 Z0) (hw _ (List.mem_of_getElem? (i := 23) rfl)) (hw _ (List.mem_of_getElem? (i := 24) rfl)) (hw _ (List.mem_of_getElem? (i := 18) rfl)) (hw _ (List.mem_of_getElem? (i := 25) rfl)) (by decide) own_pd5 rfl rfl (W := 0) rfl (by decide) (by decide) (by decide) (by decide) own_d4_2 rfl ?_
  intro T1 v1 L1 X1 qq1
  obtain ⟨rfl, n1, e1⟩ := qq1
  have N1 := Fr.app N0 n1
  show Gf p e below P T1 m 5 #[.val (.int pk), .val (.int (0 : Int32)), .val (.long ja), .second, .val (.long jb), .second, .val (.long jc), .second, .unset] [(.int (own_sl0 pk))]
  refine g_istore (pc' := 7) (Ls' := #[.val (.int pk), .val (.int (0 : Int32)), .val (.long ja), .second, .val (.long jb), .second, .val (.long jc), .second, .val (.int (own_sl0 pk))]) X1 hx hby own_d4_5 rfl rfl rfl ?_
  refine g_iload (pc' := 9) X1 hx hby (v := (own_sl0 pk)) own_d4_7 rfl rfl ?_
  by_cases hc9 : (own_sl0 pk) = (0 : Int32)
  · refine g_ifN (pc' := 12) X1 hx hby own_d4_9 rfl (teq hc9).2 rfl ?_
    refine g_lloadN (pc' := 13) X1 hx hby (v := ja) own_d4_12 rfl rfl ?_
    exact g_retV X1 hx hby hf hlk hret own_d4_13 rfl rfl (Or.inr (Or.inl ⟨rfl, rfl, _, rfl⟩)) (by decide) (by decide) e1 ⟨(by simp only [own_pk0, if_pos hc9]), N1, rfl⟩
  · refine g_ifY (pc' := 14) X1 hx hby own_d4_9 rfl (feq hc9).2 (by decide) (by decide) ?_
    refine g_iload (pc' := 16) X1 hx hby (v := (own_sl0 pk)) own_d4_14 rfl rfl ?_
    refine g_iconst (pc' := 17) (v := (1 : Int32)) X1 hx hby own_d4_16 rfl rfl ?_
    by_cases hc17 : (own_sl0 pk) = (1 : Int32)
    · refine g_icN (pc' := 20) X1 hx hby own_d4_17 rfl (teq hc17).2 rfl ?_
      refine g_lload (pc' := 22) X1 hx hby (v := jb) own_d4_20 rfl rfl ?_
      exact g_retV X1 hx hby hf hlk hret own_d4_22 rfl rfl (Or.inr (Or.inl ⟨rfl, rfl, _, rfl⟩)) (by decide) (by decide) e1 ⟨(by simp only [own_pk0, if_neg hc9, if_pos hc17]), N1, rfl⟩
    · refine g_icY (pc' := 23) X1 hx hby own_d4_17 rfl (feq hc17).2 (by decide) (by decide) ?_
      refine g_lload (pc' := 25) X1 hx hby (v := jc) own_d4_23 rfl rfl ?_
      exact g_retV X1 hx hby hf hlk hret own_d4_25 rfl rfl (Or.inr (Or.inl ⟨rfl, rfl, _, rfl⟩)) (by decide) (by decide) e1 ⟨(by simp only [own_pk0, if_neg hc9, if_neg hc17]), N1, rfl⟩
def own_Q4_1 (Z : State) (pk : Int32) (ja : Int64) (jb : Int64) (jc : Int64) (h0 : Heap) (n0 : Nat) (v : Option Value) (h : Heap) (L : List Loc) : Prop := v = some (.long (own_pk1 pk ja jb jc)) ∧ Fr n0 L ∧ h = h0
set_option maxRecDepth 65536 in
set_option maxHeartbeats 40000000 in
theorem own_rm4_1 (l : Launch) (Z : State) (a0 : Array Value) (hw : ∀ d ∈ tables_1, d.before a0 Z = true) (ws : List Jvm.Cond) (pk : Int32) (ja : Int64) (jb : Int64) (jc : Int64) (h0 : Heap) (n0 : Nat) (Z0 : n0 ≤ h0.size) :
    Con l Z (⟨"com/example/stochastic_ray_tracer/stochasticraytracer/TextureCoordinatesVPinLaw", "pick", "(IIJJJ)J"⟩ : MethodName) method_4_code 9 (some .long) ws ({ frames := 1, cells := 0, slots := 0, locals := 13 } : Room) #[(.int pk), (.int (1 : Int32)), (.long ja), (.long jb), (.long jc)] h0 (own_Q4_1 Z pk ja jb jc h0 n0) := by
  refine Con.start #[.val (.int pk), .val (.int (1 : Int32)), .val (.long ja), .second, .val (.long jb), .second, .val (.long jc), .second, .unset] (plainFor_of_name own_pn0) (fun m => by first | (refine own_ef ?_; exact rfl) | (simp [entryFrame, mkF, argsToLocals, Value.category]; done) | rfl) ?_
  intro p e s m below meth c s₁ P X0 hx hby hml hret hlk hown hnm hZ e0 hf
  have hml : c.maxLocals = 9 := hml
  have N0 := Fr.nil n0
  refine g_iloadN (pc' := 1) X0 hx hby (v := pk) own_d4_0 rfl rfl ?_
  refine g_iloadN (pc' := 2) X0 hx hby (v := (1 : Int32)) own_d4_1 rfl rfl ?_
  refine g_callS (argsL := [(.int pk), (.int (1 : Int32))]) (pc' := 5) X0 hx hby (by rw [hml]; rfl) hZ hown e0 (own_rm5_1 l Z a0 hw [] pk  h0 n0 Z0) (hw _ (List.mem_of_getElem? (i := 23) rfl)) (hw _ (List.mem_of_getElem? (i := 24) rfl)) (hw _ (List.mem_of_getElem? (i := 18) rfl)) (hw _ (List.mem_of_getElem? (i := 25) rfl)) (by decide) own_pd5 rfl rfl (W := 0) rfl (by decide) (by decide) (by decide) (by decide) own_d4_2 rfl ?_
  intro T1 v1 L1 X1 qq1
  obtain ⟨rfl, n1, e1⟩ := qq1
  have N1 := Fr.app N0 n1
  show Gf p e below P T1 m 5 #[.val (.int pk), .val (.int (1 : Int32)), .val (.long ja), .second, .val (.long jb), .second, .val (.long jc), .second, .unset] [(.int (own_sl1 pk))]
  refine g_istore (pc' := 7) (Ls' := #[.val (.int pk), .val (.int (1 : Int32)), .val (.long ja), .second, .val (.long jb), .second, .val (.long jc), .second, .val (.int (own_sl1 pk))]) X1 hx hby own_d4_5 rfl rfl rfl ?_
  refine g_iload (pc' := 9) X1 hx hby (v := (own_sl1 pk)) own_d4_7 rfl rfl ?_
  by_cases hc9 : (own_sl1 pk) = (0 : Int32)
  · refine g_ifN (pc' := 12) X1 hx hby own_d4_9 rfl (teq hc9).2 rfl ?_
    refine g_lloadN (pc' := 13) X1 hx hby (v := ja) own_d4_12 rfl rfl ?_
    exact g_retV X1 hx hby hf hlk hret own_d4_13 rfl rfl (Or.inr (Or.inl ⟨rfl, rfl, _, rfl⟩)) (by decide) (by decide) e1 ⟨(by simp only [own_pk1, if_pos hc9]), N1, rfl⟩
  · refine g_ifY (pc' := 14) X1 hx hby own_d4_9 rfl (feq hc9).2 (by decide) (by decide) ?_
    refine g_iload (pc' := 16) X1 hx hby (v := (own_sl1 pk)) own_d4_14 rfl rfl ?_
    refine g_iconst (pc' := 17) (v := (1 : Int32)) X1 hx hby own_d4_16 rfl rfl ?_
    by_cases hc17 : (own_sl1 pk) = (1 : Int32)
    · refine g_icN (pc' := 20) X1 hx hby own_d4_17 rfl (teq hc17).2 rfl ?_
      refine g_lload (pc' := 22) X1 hx hby (v := jb) own_d4_20 rfl rfl ?_
      exact g_retV X1 hx hby hf hlk hret own_d4_22 rfl rfl (Or.inr (Or.inl ⟨rfl, rfl, _, rfl⟩)) (by decide) (by decide) e1 ⟨(by simp only [own_pk1, if_neg hc9, if_pos hc17]), N1, rfl⟩
    · refine g_icY (pc' := 23) X1 hx hby own_d4_17 rfl (feq hc17).2 (by decide) (by decide) ?_
      refine g_lload (pc' := 25) X1 hx hby (v := jc) own_d4_23 rfl rfl ?_
      exact g_retV X1 hx hby hf hlk hret own_d4_25 rfl rfl (Or.inr (Or.inl ⟨rfl, rfl, _, rfl⟩)) (by decide) (by decide) e1 ⟨(by simp only [own_pk1, if_neg hc9, if_neg hc17]), N1, rfl⟩
def own_Q4_2 (Z : State) (pk : Int32) (ja : Int64) (jb : Int64) (jc : Int64) (h0 : Heap) (n0 : Nat) (v : Option Value) (h : Heap) (L : List Loc) : Prop := v = some (.long (own_pk2 pk ja jb jc)) ∧ Fr n0 L ∧ h = h0
set_option maxRecDepth 65536 in
set_option maxHeartbeats 40000000 in
theorem own_rm4_2 (l : Launch) (Z : State) (a0 : Array Value) (hw : ∀ d ∈ tables_1, d.before a0 Z = true) (ws : List Jvm.Cond) (pk : Int32) (ja : Int64) (jb : Int64) (jc : Int64) (h0 : Heap) (n0 : Nat) (Z0 : n0 ≤ h0.size) :
    Con l Z (⟨"com/example/stochastic_ray_tracer/stochasticraytracer/TextureCoordinatesVPinLaw", "pick", "(IIJJJ)J"⟩ : MethodName) method_4_code 9 (some .long) ws ({ frames := 1, cells := 0, slots := 0, locals := 13 } : Room) #[(.int pk), (.int (2 : Int32)), (.long ja), (.long jb), (.long jc)] h0 (own_Q4_2 Z pk ja jb jc h0 n0) := by
  refine Con.start #[.val (.int pk), .val (.int (2 : Int32)), .val (.long ja), .second, .val (.long jb), .second, .val (.long jc), .second, .unset] (plainFor_of_name own_pn0) (fun m => by first | (refine own_ef ?_; exact rfl) | (simp [entryFrame, mkF, argsToLocals, Value.category]; done) | rfl) ?_
  intro p e s m below meth c s₁ P X0 hx hby hml hret hlk hown hnm hZ e0 hf
  have hml : c.maxLocals = 9 := hml
  have N0 := Fr.nil n0
  refine g_iloadN (pc' := 1) X0 hx hby (v := pk) own_d4_0 rfl rfl ?_
  refine g_iloadN (pc' := 2) X0 hx hby (v := (2 : Int32)) own_d4_1 rfl rfl ?_
  refine g_callS (argsL := [(.int pk), (.int (2 : Int32))]) (pc' := 5) X0 hx hby (by rw [hml]; rfl) hZ hown e0 (own_rm5_2 l Z a0 hw [] pk  h0 n0 Z0) (hw _ (List.mem_of_getElem? (i := 23) rfl)) (hw _ (List.mem_of_getElem? (i := 24) rfl)) (hw _ (List.mem_of_getElem? (i := 18) rfl)) (hw _ (List.mem_of_getElem? (i := 25) rfl)) (by decide) own_pd5 rfl rfl (W := 0) rfl (by decide) (by decide) (by decide) (by decide) own_d4_2 rfl ?_
  intro T1 v1 L1 X1 qq1
  obtain ⟨rfl, n1, e1⟩ := qq1
  have N1 := Fr.app N0 n1
  show Gf p e below P T1 m 5 #[.val (.int pk), .val (.int (2 : Int32)), .val (.long ja), .second, .val (.long jb), .second, .val (.long jc), .second, .unset] [(.int (own_sl2 pk))]
  refine g_istore (pc' := 7) (Ls' := #[.val (.int pk), .val (.int (2 : Int32)), .val (.long ja), .second, .val (.long jb), .second, .val (.long jc), .second, .val (.int (own_sl2 pk))]) X1 hx hby own_d4_5 rfl rfl rfl ?_
  refine g_iload (pc' := 9) X1 hx hby (v := (own_sl2 pk)) own_d4_7 rfl rfl ?_
  by_cases hc9 : (own_sl2 pk) = (0 : Int32)
  · refine g_ifN (pc' := 12) X1 hx hby own_d4_9 rfl (teq hc9).2 rfl ?_
    refine g_lloadN (pc' := 13) X1 hx hby (v := ja) own_d4_12 rfl rfl ?_
    exact g_retV X1 hx hby hf hlk hret own_d4_13 rfl rfl (Or.inr (Or.inl ⟨rfl, rfl, _, rfl⟩)) (by decide) (by decide) e1 ⟨(by simp only [own_pk2, if_pos hc9]), N1, rfl⟩
  · refine g_ifY (pc' := 14) X1 hx hby own_d4_9 rfl (feq hc9).2 (by decide) (by decide) ?_
    refine g_iload (pc' := 16) X1 hx hby (v := (own_sl2 pk)) own_d4_14 rfl rfl ?_
    refine g_iconst (pc' := 17) (v := (1 : Int32)) X1 hx hby own_d4_16 rfl rfl ?_
    by_cases hc17 : (own_sl2 pk) = (1 : Int32)
    · refine g_icN (pc' := 20) X1 hx hby own_d4_17 rfl (teq hc17).2 rfl ?_
      refine g_lload (pc' := 22) X1 hx hby (v := jb) own_d4_20 rfl rfl ?_
      exact g_retV X1 hx hby hf hlk hret own_d4_22 rfl rfl (Or.inr (Or.inl ⟨rfl, rfl, _, rfl⟩)) (by decide) (by decide) e1 ⟨(by simp only [own_pk2, if_neg hc9, if_pos hc17]), N1, rfl⟩
    · refine g_icY (pc' := 23) X1 hx hby own_d4_17 rfl (feq hc17).2 (by decide) (by decide) ?_
      refine g_lload (pc' := 25) X1 hx hby (v := jc) own_d4_23 rfl rfl ?_
      exact g_retV X1 hx hby hf hlk hret own_d4_25 rfl rfl (Or.inr (Or.inl ⟨rfl, rfl, _, rfl⟩)) (by decide) (by decide) e1 ⟨(by simp only [own_pk2, if_neg hc9, if_neg hc17]), N1, rfl⟩
theorem own_d1_0 : decode prog_72_method_1_code 0 = .ok (.aload_n 0, 1) := by decide +kernel
theorem own_d1_1 : decode prog_72_method_1_code 1 = .ok (.invokespecial 1, 3) := by decide +kernel
theorem own_d1_4 : decode prog_72_method_1_code 4 = .ok (.aload_n 0, 1) := by decide +kernel
theorem own_d1_5 : decode prog_72_method_1_code 5 = .ok (.dload_n 1, 1) := by decide +kernel
theorem own_d1_6 : decode prog_72_method_1_code 6 = .ok (.putfield 7, 3) := by decide +kernel
theorem own_d1_9 : decode prog_72_method_1_code 9 = .ok (.aload_n 0, 1) := by decide +kernel
theorem own_d1_10 : decode prog_72_method_1_code 10 = .ok (.dload_n 3, 1) := by decide +kernel
theorem own_d1_11 : decode prog_72_method_1_code 11 = .ok (.putfield 13, 3) := by decide +kernel
theorem own_d1_14 : decode prog_72_method_1_code 14 = .ok (.aload_n 0, 1) := by decide +kernel
theorem own_d1_15 : decode prog_72_method_1_code 15 = .ok (.dload 5, 2) := by decide +kernel
theorem own_d1_17 : decode prog_72_method_1_code 17 = .ok (.putfield 16, 3) := by decide +kernel
theorem own_d1_20 : decode prog_72_method_1_code 20 = .ok (.return_, 1) := by decide +kernel
def own_Q1 (Z : State) (a : Addr) (x : UInt64) (y : UInt64) (z : UInt64) (h0 : Heap) (n0 : Nat) (v : Option Value) (h : Heap) (L : List Loc) : Prop := v = none ∧ Fr n0 L ∧ Keep h0 h [a] ∧ Exa Z h a "com/example/stochastic_ray_tracer/stochasticraytracer/Vec3" ∧ Fld Z h a "com/example/stochastic_ray_tracer/stochasticraytracer/Vec3" "x" "D" (.double x) ∧ Fld Z h a "com/example/stochastic_ray_tracer/stochasticraytracer/Vec3" "y" "D" (.double y) ∧ Fld Z h a "com/example/stochastic_ray_tracer/stochasticraytracer/Vec3" "z" "D" (.double z)
set_option maxRecDepth 65536 in
set_option maxHeartbeats 40000000 in
theorem own_rm1 (l : Launch) (Z : State) (a0 : Array Value) (hw : ∀ d ∈ tables_1, d.before a0 Z = true) (ws : List Jvm.Cond) (a : Addr) (x : UInt64) (y : UInt64) (z : UInt64) (h0 : Heap) (n0 : Nat) (Z0 : n0 ≤ h0.size) (c0 : Exa Z h0 a "com/example/stochastic_ray_tracer/stochasticraytracer/Vec3") (c1 : Fld Z h0 a "com/example/stochastic_ray_tracer/stochasticraytracer/Vec3" "x" "D" (.double (0 : UInt64))) (c2 : Fld Z h0 a "com/example/stochastic_ray_tracer/stochasticraytracer/Vec3" "y" "D" (.double (0 : UInt64))) (c3 : Fld Z h0 a "com/example/stochastic_ray_tracer/stochasticraytracer/Vec3" "z" "D" (.double (0 : UInt64))) (c4 : n0 ≤ a) :
    Con l Z (⟨"com/example/stochastic_ray_tracer/stochasticraytracer/Vec3", "<init>", "(DDD)V"⟩ : MethodName) prog_72_method_1_code 7 none ws ({ frames := 1, cells := 0, slots := 0, locals := 12 } : Room) #[(.ref a), (.double x), (.double y), (.double z)] h0 (own_Q1 Z a x y z h0 n0) := by
  refine Con.start #[.val (.ref a), .val (.double x), .second, .val (.double y), .second, .val (.double z), .second] (plainFor_of_name own_pn1) (fun m => by first | (refine own_ef ?_; exact rfl) | (simp [entryFrame, mkF, argsToLocals, Value.category]; done) | rfl) ?_
  intro p e s m below meth c s₁ P X0 hx hby hml hret hlk hown hnm hZ e0 hf
  have hml : c.maxLocals = 7 := hml
  have N0 := Fr.nil n0
  have K0 : Keep h0 h0 [a] := Keep.refl _ _
  refine g_aloadN (pc' := 1) X0 hx hby (v := (.ref a)) own_d1_0 rfl rfl rfl ?_
  refine g_initO (pc' := 4) X0 hx hby hZ hown (hw _ (List.mem_of_getElem? (i := 7) rfl)) (hw _ (List.mem_of_getElem? (i := 8) rfl)) (hw _ (List.mem_of_getElem? (i := 9) rfl)) e0 (by rw [hml]; rfl) rfl own_d1_1 rfl (by decide) (W := 0) rfl (by decide) ?_
  intro T1 X1 e1
  refine g_aloadN (pc' := 5) X1 hx hby (v := (.ref a)) own_d1_4 rfl rfl rfl ?_
  refine g_dloadN (pc' := 6) X1 hx hby (v := x) own_d1_5 rfl rfl ?_
  refine g_putF (pc' := 9) X1 hx hby hZ hown (host := "") (Or.inl (hw _ (List.mem_of_getElem? (i := 10) rfl))) Via.refl e1 c1 c0 (Or.inr ⟨(hw _ (List.mem_of_getElem? (i := 11) rfl)), rfl, hnm⟩) (hw _ (List.mem_of_getElem? (i := 2) rfl)) (ty := .double) own_fd0 rfl rfl rfl own_d1_6 rfl N0 c4 ?_
  intro T2 h2 X2 e2 W2 N2
  have f3 := c0.wr W2
  have f4 := c1.same W2
  have f5 := c2.other W2 (Or.inr (slot_ne (Or.inr (hw _ (List.mem_of_getElem? (i := 13) rfl))) (Or.inr (hw _ (List.mem_of_getElem? (i := 11) rfl))) own_nes0 own_fd0 own_fd0))
  have f6 := c3.other W2 (Or.inr (slot_ne (Or.inr (hw _ (List.mem_of_getElem? (i := 15) rfl))) (Or.inr (hw _ (List.mem_of_getElem? (i := 11) rfl))) own_nes1 own_fd0 own_fd0))
  have z2 := Nat.le_trans Z0 (Keep.of_wr W2).1
  have K2 := K0.wr W2 (Or.inl (List.mem_of_getElem? (i := 0) rfl))
  refine g_aloadN (pc' := 10) X2 hx hby (v := (.ref a)) own_d1_9 rfl rfl rfl ?_
  refine g_dloadN (pc' := 11) X2 hx hby (v := y) own_d1_10 rfl rfl ?_
  refine g_putF (pc' := 14) X2 hx hby hZ hown (host := "") (Or.inl (hw _ (List.mem_of_getElem? (i := 12) rfl))) Via.refl e2 f5 f3 (Or.inr ⟨(hw _ (List.mem_of_getElem? (i := 13) rfl)), rfl, hnm⟩) (hw _ (List.mem_of_getElem? (i := 2) rfl)) (ty := .double) own_fd0 rfl rfl rfl own_d1_11 rfl N2 c4 ?_
  intro T7 h7 X7 e7 W7 N7
  have f8 := f3.wr W7
  have f9 := f4.other W7 (Or.inr (slot_ne (Or.inr (hw _ (List.mem_of_getElem? (i := 11) rfl))) (Or.inr (hw _ (List.mem_of_getElem? (i := 13) rfl))) own_nes2 own_fd0 own_fd0))
  have f10 := f5.same W7
  have f11 := f6.other W7 (Or.inr (slot_ne (Or.inr (hw _ (List.mem_of_getElem? (i := 15) rfl))) (Or.inr (hw _ (List.mem_of_getElem? (i := 13) rfl))) own_nes3 own_fd0 own_fd0))
  have z7 := Nat.le_trans z2 (Keep.of_wr W7).1
  have K7 := K2.wr W7 (Or.inl (List.mem_of_getElem? (i := 0) rfl))
  refine g_aloadN (pc' := 15) X7 hx hby (v := (.ref a)) own_d1_14 rfl rfl rfl ?_
  refine g_dload (pc' := 17) X7 hx hby (v := z) own_d1_15 rfl rfl ?_
  refine g_putF (pc' := 20) X7 hx hby hZ hown (host := "") (Or.inl (hw _ (List.mem_of_getElem? (i := 14) rfl))) Via.refl e7 f11 f8 (Or.inr ⟨(hw _ (List.mem_of_getElem? (i := 15) rfl)), rfl, hnm⟩) (hw _ (List.mem_of_getElem? (i := 2) rfl)) (ty := .double) own_fd0 rfl rfl rfl own_d1_17 rfl N7 c4 ?_
  intro T12 h12 X12 e12 W12 N12
  have f13 := f8.wr W12
  have f14 := f9.other W12 (Or.inr (slot_ne (Or.inr (hw _ (List.mem_of_getElem? (i := 11) rfl))) (Or.inr (hw _ (List.mem_of_getElem? (i := 15) rfl))) own_nes4 own_fd0 own_fd0))
  have f15 := f10.other W12 (Or.inr (slot_ne (Or.inr (hw _ (List.mem_of_getElem? (i := 13) rfl))) (Or.inr (hw _ (List.mem_of_getElem? (i := 15) rfl))) own_nes5 own_fd0 own_fd0))
  have f16 := f11.same W12
  have z12 := Nat.le_trans z7 (Keep.of_wr W12).1
  have K12 := K7.wr W12 (Or.inl (List.mem_of_getElem? (i := 0) rfl))
  exact g_ret X12 hx hby hf hlk hret own_d1_20 rfl (by decide) (by decide) e12 ⟨rfl, N12, K12, f13, f14, f15, f16⟩
theorem own_d7_0 : decode prog_72_method_2_code 0 = .ok (.aload_n 0, 1) := by decide +kernel
theorem own_d7_1 : decode prog_72_method_2_code 1 = .ok (.getfield 7, 3) := by decide +kernel
theorem own_d7_4 : decode prog_72_method_2_code 4 = .ok (.dreturn, 1) := by decide +kernel
def own_Q7 (Z : State) (a : Addr) (w : UInt64) (h0 : Heap) (n0 : Nat) (v : Option Value) (h : Heap) (L : List Loc) : Prop := v = some (.double w) ∧ Fr n0 L ∧ h = h0
set_option maxRecDepth 65536 in
set_option maxHeartbeats 40000000 in
theorem own_rm7 (l : Launch) (Z : State) (a0 : Array Value) (hw : ∀ d ∈ tables_1, d.before a0 Z = true) (ws : List Jvm.Cond) (a : Addr) (w : UInt64) (h0 : Heap) (n0 : Nat) (Z0 : n0 ≤ h0.size) (c0 : Fld Z h0 a "com/example/stochastic_ray_tracer/stochasticraytracer/Vec3" "x" "D" (.double w)) :
    Con l Z (⟨"com/example/stochastic_ray_tracer/stochasticraytracer/Vec3", "x", "()D"⟩ : MethodName) prog_72_method_2_code 1 (some .double) ws ({ frames := 0, cells := 0, slots := 0, locals := 0 } : Room) #[(.ref a)] h0 (own_Q7 Z a w h0 n0) := by
  refine Con.start #[.val (.ref a)] (plainFor_of_name own_pn1) (fun m => by first | (refine own_ef ?_; exact rfl) | (simp [entryFrame, mkF, argsToLocals, Value.category]; done) | rfl) ?_
  intro p e s m below meth c s₁ P X0 hx hby hml hret hlk hown hnm hZ e0 hf
  have hml : c.maxLocals = 1 := hml
  have N0 := Fr.nil n0
  refine g_aloadN (pc' := 1) X0 hx hby (v := (.ref a)) own_d7_0 rfl rfl rfl ?_
  refine g_getF (pc' := 4) X0 hx hby hZ hown (host := "") (Or.inl (hw _ (List.mem_of_getElem? (i := 10) rfl))) Via.refl e0 c0 rfl own_d7_1 rfl ?_
  intro T1 X1 e1
  exact g_retV X1 hx hby hf hlk hret own_d7_4 rfl rfl (Or.inr (Or.inr (Or.inl ⟨rfl, rfl, _, rfl⟩))) (by decide) (by decide) e1 ⟨rfl, N0, rfl⟩
theorem own_d8_0 : decode prog_72_method_3_code 0 = .ok (.aload_n 0, 1) := by decide +kernel
theorem own_d8_1 : decode prog_72_method_3_code 1 = .ok (.getfield 13, 3) := by decide +kernel
theorem own_d8_4 : decode prog_72_method_3_code 4 = .ok (.dreturn, 1) := by decide +kernel
def own_Q8 (Z : State) (a : Addr) (w : UInt64) (h0 : Heap) (n0 : Nat) (v : Option Value) (h : Heap) (L : List Loc) : Prop := v = some (.double w) ∧ Fr n0 L ∧ h = h0
set_option maxRecDepth 65536 in
set_option maxHeartbeats 40000000 in
theorem own_rm8 (l : Launch) (Z : State) (a0 : Array Value) (hw : ∀ d ∈ tables_1, d.before a0 Z = true) (ws : List Jvm.Cond) (a : Addr) (w : UInt64) (h0 : Heap) (n0 : Nat) (Z0 : n0 ≤ h0.size) (c0 : Fld Z h0 a "com/example/stochastic_ray_tracer/stochasticraytracer/Vec3" "y" "D" (.double w)) :
    Con l Z (⟨"com/example/stochastic_ray_tracer/stochasticraytracer/Vec3", "y", "()D"⟩ : MethodName) prog_72_method_3_code 1 (some .double) ws ({ frames := 0, cells := 0, slots := 0, locals := 0 } : Room) #[(.ref a)] h0 (own_Q8 Z a w h0 n0) := by
  refine Con.start #[.val (.ref a)] (plainFor_of_name own_pn1) (fun m => by first | (refine own_ef ?_; exact rfl) | (simp [entryFrame, mkF, argsToLocals, Value.category]; done) | rfl) ?_
  intro p e s m below meth c s₁ P X0 hx hby hml hret hlk hown hnm hZ e0 hf
  have hml : c.maxLocals = 1 := hml
  have N0 := Fr.nil n0
  refine g_aloadN (pc' := 1) X0 hx hby (v := (.ref a)) own_d8_0 rfl rfl rfl ?_
  refine g_getF (pc' := 4) X0 hx hby hZ hown (host := "") (Or.inl (hw _ (List.mem_of_getElem? (i := 12) rfl))) Via.refl e0 c0 rfl own_d8_1 rfl ?_
  intro T1 X1 e1
  exact g_retV X1 hx hby hf hlk hret own_d8_4 rfl rfl (Or.inr (Or.inr (Or.inl ⟨rfl, rfl, _, rfl⟩))) (by decide) (by decide) e1 ⟨rfl, N0, rfl⟩
theorem own_d9_0 : decode prog_72_method_4_code 0 = .ok (.aload_n 0, 1) := by decide +kernel
theorem own_d9_1 : decode prog_72_method_4_code 1 = .ok (.getfield 16, 3) := by decide +kernel
theorem own_d9_4 : decode prog_72_method_4_code 4 = .ok (.dreturn, 1) := by decide +kernel
def own_Q9 (Z : State) (a : Addr) (w : UInt64) (h0 : Heap) (n0 : Nat) (v : Option Value) (h : Heap) (L : List Loc) : Prop := v = some (.double w) ∧ Fr n0 L ∧ h = h0
set_option maxRecDepth 65536 in
set_option maxHeartbeats 40000000 in
theorem own_rm9 (l : Launch) (Z : State) (a0 : Array Value) (hw : ∀ d ∈ tables_1, d.before a0 Z = true) (ws : List Jvm.Cond) (a : Addr) (w : UInt64) (h0 : Heap) (n0 : Nat) (Z0 : n0 ≤ h0.size) (c0 : Fld Z h0 a "com/example/stochastic_ray_tracer/stochasticraytracer/Vec3" "z" "D" (.double w)) :
    Con l Z (⟨"com/example/stochastic_ray_tracer/stochasticraytracer/Vec3", "z", "()D"⟩ : MethodName) prog_72_method_4_code 1 (some .double) ws ({ frames := 0, cells := 0, slots := 0, locals := 0 } : Room) #[(.ref a)] h0 (own_Q9 Z a w h0 n0) := by
  refine Con.start #[.val (.ref a)] (plainFor_of_name own_pn1) (fun m => by first | (refine own_ef ?_; exact rfl) | (simp [entryFrame, mkF, argsToLocals, Value.category]; done) | rfl) ?_
  intro p e s m below meth c s₁ P X0 hx hby hml hret hlk hown hnm hZ e0 hf
  have hml : c.maxLocals = 1 := hml
  have N0 := Fr.nil n0
  refine g_aloadN (pc' := 1) X0 hx hby (v := (.ref a)) own_d9_0 rfl rfl rfl ?_
  refine g_getF (pc' := 4) X0 hx hby hZ hown (host := "") (Or.inl (hw _ (List.mem_of_getElem? (i := 14) rfl))) Via.refl e0 c0 rfl own_d9_1 rfl ?_
  intro T1 X1 e1
  exact g_retV X1 hx hby hf hlk hret own_d9_4 rfl rfl (Or.inr (Or.inr (Or.inl ⟨rfl, rfl, _, rfl⟩))) (by decide) (by decide) e1 ⟨rfl, N0, rfl⟩
theorem own_d10_0 : decode prog_72_method_11_code 0 = .ok (.aload_n 0, 1) := by decide +kernel
theorem own_d10_1 : decode prog_72_method_11_code 1 = .ok (.getfield 7, 3) := by decide +kernel
theorem own_d10_4 : decode prog_72_method_11_code 4 = .ok (.aload_n 1, 1) := by decide +kernel
theorem own_d10_5 : decode prog_72_method_11_code 5 = .ok (.getfield 7, 3) := by decide +kernel
theorem own_d10_8 : decode prog_72_method_11_code 8 = .ok (.dmul, 1) := by decide +kernel
theorem own_d10_9 : decode prog_72_method_11_code 9 = .ok (.aload_n 0, 1) := by decide +kernel
theorem own_d10_10 : decode prog_72_method_11_code 10 = .ok (.getfield 13, 3) := by decide +kernel
theorem own_d10_13 : decode prog_72_method_11_code 13 = .ok (.aload_n 1, 1) := by decide +kernel
theorem own_d10_14 : decode prog_72_method_11_code 14 = .ok (.getfield 13, 3) := by decide +kernel
theorem own_d10_17 : decode prog_72_method_11_code 17 = .ok (.dmul, 1) := by decide +kernel
theorem own_d10_18 : decode prog_72_method_11_code 18 = .ok (.dadd, 1) := by decide +kernel
theorem own_d10_19 : decode prog_72_method_11_code 19 = .ok (.aload_n 0, 1) := by decide +kernel
theorem own_d10_20 : decode prog_72_method_11_code 20 = .ok (.getfield 16, 3) := by decide +kernel
theorem own_d10_23 : decode prog_72_method_11_code 23 = .ok (.aload_n 1, 1) := by decide +kernel
theorem own_d10_24 : decode prog_72_method_11_code 24 = .ok (.getfield 16, 3) := by decide +kernel
theorem own_d10_27 : decode prog_72_method_11_code 27 = .ok (.dmul, 1) := by decide +kernel
theorem own_d10_28 : decode prog_72_method_11_code 28 = .ok (.dadd, 1) := by decide +kernel
theorem own_d10_29 : decode prog_72_method_11_code 29 = .ok (.dreturn, 1) := by decide +kernel
def own_Q10 (Z : State) (a : Addr) (b : Addr) (xa : UInt64) (ya : UInt64) (za : UInt64) (xb : UInt64) (yb : UInt64) (zb : UInt64) (h0 : Heap) (n0 : Nat) (v : Option Value) (h : Heap) (L : List Loc) : Prop := v = some (.double (FP.dadd (FP.dadd (FP.dmul xa xb) (FP.dmul ya yb)) (FP.dmul za zb))) ∧ Fr n0 L ∧ h = h0
set_option maxRecDepth 65536 in
set_option maxHeartbeats 40000000 in
theorem own_rm10 (l : Launch) (Z : State) (a0 : Array Value) (hw : ∀ d ∈ tables_1, d.before a0 Z = true) (ws : List Jvm.Cond) (a : Addr) (b : Addr) (xa : UInt64) (ya : UInt64) (za : UInt64) (xb : UInt64) (yb : UInt64) (zb : UInt64) (h0 : Heap) (n0 : Nat) (Z0 : n0 ≤ h0.size) (c0 : Fld Z h0 a "com/example/stochastic_ray_tracer/stochasticraytracer/Vec3" "x" "D" (.double xa)) (c1 : Fld Z h0 a "com/example/stochastic_ray_tracer/stochasticraytracer/Vec3" "y" "D" (.double ya)) (c2 : Fld Z h0 a "com/example/stochastic_ray_tracer/stochasticraytracer/Vec3" "z" "D" (.double za)) (c3 : Fld Z h0 b "com/example/stochastic_ray_tracer/stochasticraytracer/Vec3" "x" "D" (.double xb)) (c4 : Fld Z h0 b "com/example/stochastic_ray_tracer/stochasticraytracer/Vec3" "y" "D" (.double yb)) (c5 : Fld Z h0 b "com/example/stochastic_ray_tracer/stochasticraytracer/Vec3" "z" "D" (.double zb)) (nn8 : Jvm.Free.Fl.NoNaN64 (FP.dmul xa xb)) (nn17 : Jvm.Free.Fl.NoNaN64 (FP.dmul ya yb)) (nn18 : Jvm.Free.Fl.NoNaN64 (FP.dadd (FP.dmul xa xb) (FP.dmul ya yb))) (nn27 : Jvm.Free.Fl.NoNaN64 (FP.dmul za zb)) (nn28 : Jvm.Free.Fl.NoNaN64 (FP.dadd (FP.dadd (FP.dmul xa xb) (FP.dmul ya yb)) (FP.dmul za zb))) :
    Con l Z (⟨"com/example/stochastic_ray_tracer/stochasticraytracer/Vec3", "dot", "(Lcom/example/stochastic_ray_tracer/stochasticraytracer/Vec3;)D"⟩ : MethodName) prog_72_method_11_code 2 (some .double) ws ({ frames := 0, cells := 0, slots := 0, locals := 0 } : Room) #[(.ref a), (.ref b)] h0 (own_Q10 Z a b xa ya za xb yb zb h0 n0) := by
  refine Con.start #[.val (.ref a), .val (.ref b)] (plainFor_of_name own_pn1) (fun m => by first | (refine own_ef ?_; exact rfl) | (simp [entryFrame, mkF, argsToLocals, Value.category]; done) | rfl) ?_
  intro p e s m below meth c s₁ P X0 hx hby hml hret hlk hown hnm hZ e0 hf
  have hml : c.maxLocals = 2 := hml
  have N0 := Fr.nil n0
  refine g_aloadN (pc' := 1) X0 hx hby (v := (.ref a)) own_d10_0 rfl rfl rfl ?_
  refine g_getF (pc' := 4) X0 hx hby hZ hown (host := "") (Or.inl (hw _ (List.mem_of_getElem? (i := 10) rfl))) Via.refl e0 c0 rfl own_d10_1 rfl ?_
  intro T1 X1 e1
  refine g_aloadN (pc' := 5) X1 hx hby (v := (.ref b)) own_d10_4 rfl rfl rfl ?_
  refine g_getF (pc' := 8) X1 hx hby hZ hown (host := "") (Or.inl (hw _ (List.mem_of_getElem? (i := 10) rfl))) Via.refl e1 c3 rfl own_d10_5 rfl ?_
  intro T2 X2 e2
  refine g_dmul (pc' := 9) (v := (FP.dmul xa xb)) X2 hx hby own_d10_8 rfl (nn8) rfl rfl ?_
  refine g_aloadN (pc' := 10) X2 hx hby (v := (.ref a)) own_d10_9 rfl rfl rfl ?_
  refine g_getF (pc' := 13) X2 hx hby hZ hown (host := "") (Or.inl (hw _ (List.mem_of_getElem? (i := 12) rfl))) Via.refl e2 c1 rfl own_d10_10 rfl ?_
  intro T3 X3 e3
  refine g_aloadN (pc' := 14) X3 hx hby (v := (.ref b)) own_d10_13 rfl rfl rfl ?_
  refine g_getF (pc' := 17) X3 hx hby hZ hown (host := "") (Or.inl (hw _ (List.mem_of_getElem? (i := 12) rfl))) Via.refl e3 c4 rfl own_d10_14 rfl ?_
  intro T4 X4 e4
  refine g_dmul (pc' := 18) (v := (FP.dmul ya yb)) X4 hx hby own_d10_17 rfl (nn17) rfl rfl ?_
  refine g_dadd (pc' := 19) (v := (FP.dadd (FP.dmul xa xb) (FP.dmul ya yb))) X4 hx hby own_d10_18 rfl (nn18) rfl rfl ?_
  refine g_aloadN (pc' := 20) X4 hx hby (v := (.ref a)) own_d10_19 rfl rfl rfl ?_
  refine g_getF (pc' := 23) X4 hx hby hZ hown (host := "") (Or.inl (hw _ (List.mem_of_getElem? (i := 14) rfl))) Via.refl e4 c2 rfl own_d10_20 rfl ?_
  intro T5 X5 e5
  refine g_aloadN (pc' := 24) X5 hx hby (v := (.ref b)) own_d10_23 rfl rfl rfl ?_
  refine g_getF (pc' := 27) X5 hx hby hZ hown (host := "") (Or.inl (hw _ (List.mem_of_getElem? (i := 14) rfl))) Via.refl e5 c5 rfl own_d10_24 rfl ?_
  intro T6 X6 e6
  refine g_dmul (pc' := 28) (v := (FP.dmul za zb)) X6 hx hby own_d10_27 rfl (nn27) rfl rfl ?_
  refine g_dadd (pc' := 29) (v := (FP.dadd (FP.dadd (FP.dmul xa xb) (FP.dmul ya yb)) (FP.dmul za zb))) X6 hx hby own_d10_28 rfl (nn28) rfl rfl ?_
  exact g_retV X6 hx hby hf hlk hret own_d10_29 rfl rfl (Or.inr (Or.inr (Or.inl ⟨rfl, rfl, _, rfl⟩))) (by decide) (by decide) e6 ⟨rfl, N0, rfl⟩
theorem own_d11_0 : decode prog_72_method_10_code 0 = .ok (.new 8, 3) := by decide +kernel
theorem own_d11_3 : decode prog_72_method_10_code 3 = .ok (.dup, 1) := by decide +kernel
theorem own_d11_4 : decode prog_72_method_10_code 4 = .ok (.aload_n 0, 1) := by decide +kernel
theorem own_d11_5 : decode prog_72_method_10_code 5 = .ok (.getfield 7, 3) := by decide +kernel
theorem own_d11_8 : decode prog_72_method_10_code 8 = .ok (.dload_n 1, 1) := by decide +kernel
theorem own_d11_9 : decode prog_72_method_10_code 9 = .ok (.dmul, 1) := by decide +kernel
theorem own_d11_10 : decode prog_72_method_10_code 10 = .ok (.aload_n 0, 1) := by decide +kernel
theorem own_d11_11 : decode prog_72_method_10_code 11 = .ok (.getfield 13, 3) := by decide +kernel
theorem own_d11_14 : decode prog_72_method_10_code 14 = .ok (.dload_n 1, 1) := by decide +kernel
theorem own_d11_15 : decode prog_72_method_10_code 15 = .ok (.dmul, 1) := by decide +kernel
theorem own_d11_16 : decode prog_72_method_10_code 16 = .ok (.aload_n 0, 1) := by decide +kernel
theorem own_d11_17 : decode prog_72_method_10_code 17 = .ok (.getfield 16, 3) := by decide +kernel
theorem own_d11_20 : decode prog_72_method_10_code 20 = .ok (.dload_n 1, 1) := by decide +kernel
theorem own_d11_21 : decode prog_72_method_10_code 21 = .ok (.dmul, 1) := by decide +kernel
theorem own_d11_22 : decode prog_72_method_10_code 22 = .ok (.invokespecial 34, 3) := by decide +kernel
theorem own_d11_25 : decode prog_72_method_10_code 25 = .ok (.areturn, 1) := by decide +kernel
def own_Q11 (Z : State) (a : Addr) (f : UInt64) (xa : UInt64) (ya : UInt64) (za : UInt64) (h0 : Heap) (n0 : Nat) (v : Option Value) (h : Heap) (L : List Loc) : Prop := ∃ (r : Addr), v = some (.ref r) ∧ Fr n0 L ∧ Keep h0 h [] ∧ h0.size ≤ r ∧ Exa Z h r "com/example/stochastic_ray_tracer/stochasticraytracer/Vec3" ∧ Fld Z h r "com/example/stochastic_ray_tracer/stochasticraytracer/Vec3" "x" "D" (.double (FP.dmul xa f)) ∧ Fld Z h r "com/example/stochastic_ray_tracer/stochasticraytracer/Vec3" "y" "D" (.double (FP.dmul ya f)) ∧ Fld Z h r "com/example/stochastic_ray_tracer/stochasticraytracer/Vec3" "z" "D" (.double (FP.dmul za f))
set_option maxRecDepth 65536 in
set_option maxHeartbeats 40000000 in
theorem own_rm11 (l : Launch) (Z : State) (a0 : Array Value) (hw : ∀ d ∈ tables_1, d.before a0 Z = true) (ws : List Jvm.Cond) (a : Addr) (f : UInt64) (xa : UInt64) (ya : UInt64) (za : UInt64) (h0 : Heap) (n0 : Nat) (Z0 : n0 ≤ h0.size) (c0 : Fld Z h0 a "com/example/stochastic_ray_tracer/stochasticraytracer/Vec3" "x" "D" (.double xa)) (c1 : Fld Z h0 a "com/example/stochastic_ray_tracer/stochasticraytracer/Vec3" "y" "D" (.double ya)) (c2 : Fld Z h0 a "com/example/stochastic_ray_tracer/stochasticraytracer/Vec3" "z" "D" (.double za)) (nn9 : Jvm.Free.Fl.NoNaN64 (FP.dmul xa f)) (nn15 : Jvm.Free.Fl.NoNaN64 (FP.dmul ya f)) (nn21 : Jvm.Free.Fl.NoNaN64 (FP.dmul za f)) :
    Con l Z (⟨"com/example/stochastic_ray_tracer/stochasticraytracer/Vec3", "times", "(D)Lcom/example/stochastic_ray_tracer/stochasticraytracer/Vec3;"⟩ : MethodName) prog_72_method_10_code 3 (some (.object "com/example/stochastic_ray_tracer/stochasticraytracer/Vec3")) ws ({ frames := 2, cells := 1, slots := 3, locals := 31 } : Room) #[(.ref a), (.double f)] h0 (own_Q11 Z a f xa ya za h0 n0) := by
  refine Con.start #[.val (.ref a), .val (.double f), .second] (plainFor_of_name own_pn1) (fun m => by first | (refine own_ef ?_; exact rfl) | (simp [entryFrame, mkF, argsToLocals, Value.category]; done) | rfl) ?_
  intro p e s m below meth c s₁ P X0 hx hby hml hret hlk hown hnm hZ e0 hf
  have hml : c.maxLocals = 3 := hml
  have N0 := Fr.nil n0
  have K0 : Keep h0 h0 [] := Keep.refl _ _
  refine g_new (pc' := 3) X0 hx hby hZ hown (hw _ (List.mem_of_getElem? (i := 69) rfl)) (hw _ (List.mem_of_getElem? (i := 2) rfl)) (hw _ (List.mem_of_getElem? (i := 3) rfl)) e0 own_d11_0 rfl (by decide) (by decide) ?_
  intro T1 h1 rr X1 e1 E1 A1 D1 q1
  have ne2 : a ≠ rr := by rw [q1]; exact Nat.ne_of_lt c0.lt
  have ge1 : n0 ≤ rr := by rw [q1]; exact Z0
  have kp1 : h0.size ≤ rr := by rw [q1]; exact K0.1
  have f3 := c0.ext E1
  have f4 := c1.ext E1
  have f5 := c2.ext E1
  have f6 : Fld Z h1 rr "com/example/stochastic_ray_tracer/stochasticraytracer/Vec3" "x" "D" (.double (0 : UInt64)) := D1 (Or.inr (hw _ (List.mem_of_getElem? (i := 11) rfl))) (ty := .double) own_fd0
  have f7 : Fld Z h1 rr "com/example/stochastic_ray_tracer/stochasticraytracer/Vec3" "y" "D" (.double (0 : UInt64)) := D1 (Or.inr (hw _ (List.mem_of_getElem? (i := 13) rfl))) (ty := .double) own_fd0
  have f8 : Fld Z h1 rr "com/example/stochastic_ray_tracer/stochasticraytracer/Vec3" "z" "D" (.double (0 : UInt64)) := D1 (Or.inr (hw _ (List.mem_of_getElem? (i := 15) rfl))) (ty := .double) own_fd0
  have z1 := Nat.le_trans Z0 E1.1
  have K1 := K0.ext E1
  refine g_dup (pc' := 4) X1 hx hby own_d11_3 rfl rfl rfl ?_
  refine g_aloadN (pc' := 5) X1 hx hby (v := (.ref a)) own_d11_4 rfl rfl rfl ?_
  refine g_getF (pc' := 8) X1 hx hby hZ hown (host := "") (Or.inl (hw _ (List.mem_of_getElem? (i := 10) rfl))) Via.refl e1 f3 rfl own_d11_5 rfl ?_
  intro T9 X9 e9
  refine g_dloadN (pc' := 9) X9 hx hby (v := f) own_d11_8 rfl rfl ?_
  refine g_dmul (pc' := 10) (v := (FP.dmul xa f)) X9 hx hby own_d11_9 rfl (nn9) rfl rfl ?_
  refine g_aloadN (pc' := 11) X9 hx hby (v := (.ref a)) own_d11_10 rfl rfl rfl ?_
  refine g_getF (pc' := 14) X9 hx hby hZ hown (host := "") (Or.inl (hw _ (List.mem_of_getElem? (i := 12) rfl))) Via.refl e9 f4 rfl own_d11_11 rfl ?_
  intro T10 X10 e10
  refine g_dloadN (pc' := 15) X10 hx hby (v := f) own_d11_14 rfl rfl ?_
  refine g_dmul (pc' := 16) (v := (FP.dmul ya f)) X10 hx hby own_d11_15 rfl (nn15) rfl rfl ?_
  refine g_aloadN (pc' := 17) X10 hx hby (v := (.ref a)) own_d11_16 rfl rfl rfl ?_
  refine g_getF (pc' := 20) X10 hx hby hZ hown (host := "") (Or.inl (hw _ (List.mem_of_getElem? (i := 14) rfl))) Via.refl e10 f5 rfl own_d11_17 rfl ?_
  intro T11 X11 e11
  refine g_dloadN (pc' := 21) X11 hx hby (v := f) own_d11_20 rfl rfl ?_
  refine g_dmul (pc' := 22) (v := (FP.dmul za f)) X11 hx hby own_d11_21 rfl (nn21) rfl rfl ?_
  refine g_init (argsL := [(.double (FP.dmul xa f)), (.double (FP.dmul ya f)), (.double (FP.dmul za f))]) (pc' := 25) X11 hx hby (by rw [hml]; rfl) hZ hown rfl e11 (own_rm1 l Z a0 hw [] rr (FP.dmul xa f) (FP.dmul ya f) (FP.dmul za f)  h1 n0 z1 A1 f6 f7 f8 ge1) (hw _ (List.mem_of_getElem? (i := 70) rfl)) (hw _ (List.mem_of_getElem? (i := 5) rfl)) (hw _ (List.mem_of_getElem? (i := 3) rfl)) (hw _ (List.mem_of_getElem? (i := 6) rfl)) (by decide) own_pd0 rfl rfl (W := 1) rfl (by decide) (by decide) (by decide) (by decide) own_d11_22 rfl ?_
  intro T12 v12 L12 X12 qq12
  obtain ⟨h12, e12⟩ : ∃ h, T12.heap = h := ⟨_, rfl⟩
  rw [e12] at qq12
  obtain ⟨rfl, n12, k12, p12_0, p12_1, p12_2, p12_3⟩ := qq12
  have f13 := f3.keep k12 (ninS ne2 nin0)
  have f14 := f4.keep k12 (ninS ne2 nin0)
  have f15 := f5.keep k12 (ninS ne2 nin0)
  have f16 := A1.keep k12
  have z12 := Nat.le_trans z1 k12.1
  have K12 := K1.trans k12 (allS (Or.inr kp1) all0)
  have N12 := Fr.app N0 n12
  show Gf p e below P T12 m 25 #[.val (.ref a), .val (.double f), .second] [(.ref rr)]
  exact g_retV X12 hx hby hf hlk hret own_d11_25 rfl rfl (Or.inr (Or.inr (Or.inr (Or.inr ⟨rfl, rfl, rfl⟩)))) (by decide) (by decide) e12 ⟨rr, rfl, N12, K12, kp1, p12_0, p12_1, p12_2, p12_3⟩
theorem own_d12_0 : decode prog_72_method_9_code 0 = .ok (.new 8, 3) := by decide +kernel
theorem own_d12_3 : decode prog_72_method_9_code 3 = .ok (.dup, 1) := by decide +kernel
theorem own_d12_4 : decode prog_72_method_9_code 4 = .ok (.aload_n 0, 1) := by decide +kernel
theorem own_d12_5 : decode prog_72_method_9_code 5 = .ok (.getfield 7, 3) := by decide +kernel
theorem own_d12_8 : decode prog_72_method_9_code 8 = .ok (.aload_n 1, 1) := by decide +kernel
theorem own_d12_9 : decode prog_72_method_9_code 9 = .ok (.getfield 7, 3) := by decide +kernel
theorem own_d12_12 : decode prog_72_method_9_code 12 = .ok (.dsub, 1) := by decide +kernel
theorem own_d12_13 : decode prog_72_method_9_code 13 = .ok (.aload_n 0, 1) := by decide +kernel
theorem own_d12_14 : decode prog_72_method_9_code 14 = .ok (.getfield 13, 3) := by decide +kernel
theorem own_d12_17 : decode prog_72_method_9_code 17 = .ok (.aload_n 1, 1) := by decide +kernel
theorem own_d12_18 : decode prog_72_method_9_code 18 = .ok (.getfield 13, 3) := by decide +kernel
theorem own_d12_21 : decode prog_72_method_9_code 21 = .ok (.dsub, 1) := by decide +kernel
theorem own_d12_22 : decode prog_72_method_9_code 22 = .ok (.aload_n 0, 1) := by decide +kernel
theorem own_d12_23 : decode prog_72_method_9_code 23 = .ok (.getfield 16, 3) := by decide +kernel
theorem own_d12_26 : decode prog_72_method_9_code 26 = .ok (.aload_n 1, 1) := by decide +kernel
theorem own_d12_27 : decode prog_72_method_9_code 27 = .ok (.getfield 16, 3) := by decide +kernel
theorem own_d12_30 : decode prog_72_method_9_code 30 = .ok (.dsub, 1) := by decide +kernel
theorem own_d12_31 : decode prog_72_method_9_code 31 = .ok (.invokespecial 34, 3) := by decide +kernel
theorem own_d12_34 : decode prog_72_method_9_code 34 = .ok (.areturn, 1) := by decide +kernel
def own_Q12 (Z : State) (a : Addr) (b : Addr) (xa : UInt64) (ya : UInt64) (za : UInt64) (xb : UInt64) (yb : UInt64) (zb : UInt64) (h0 : Heap) (n0 : Nat) (v : Option Value) (h : Heap) (L : List Loc) : Prop := ∃ (r : Addr), v = some (.ref r) ∧ Fr n0 L ∧ Keep h0 h [] ∧ h0.size ≤ r ∧ Exa Z h r "com/example/stochastic_ray_tracer/stochasticraytracer/Vec3" ∧ Fld Z h r "com/example/stochastic_ray_tracer/stochasticraytracer/Vec3" "x" "D" (.double (FP.dsub xa xb)) ∧ Fld Z h r "com/example/stochastic_ray_tracer/stochasticraytracer/Vec3" "y" "D" (.double (FP.dsub ya yb)) ∧ Fld Z h r "com/example/stochastic_ray_tracer/stochasticraytracer/Vec3" "z" "D" (.double (FP.dsub za zb))
set_option maxRecDepth 65536 in
set_option maxHeartbeats 40000000 in
theorem own_rm12 (l : Launch) (Z : State) (a0 : Array Value) (hw : ∀ d ∈ tables_1, d.before a0 Z = true) (ws : List Jvm.Cond) (a : Addr) (b : Addr) (xa : UInt64) (ya : UInt64) (za : UInt64) (xb : UInt64) (yb : UInt64) (zb : UInt64) (h0 : Heap) (n0 : Nat) (Z0 : n0 ≤ h0.size) (c0 : Fld Z h0 a "com/example/stochastic_ray_tracer/stochasticraytracer/Vec3" "x" "D" (.double xa)) (c1 : Fld Z h0 a "com/example/stochastic_ray_tracer/stochasticraytracer/Vec3" "y" "D" (.double ya)) (c2 : Fld Z h0 a "com/example/stochastic_ray_tracer/stochasticraytracer/Vec3" "z" "D" (.double za)) (c3 : Fld Z h0 b "com/example/stochastic_ray_tracer/stochasticraytracer/Vec3" "x" "D" (.double xb)) (c4 : Fld Z h0 b "com/example/stochastic_ray_tracer/stochasticraytracer/Vec3" "y" "D" (.double yb)) (c5 : Fld Z h0 b "com/example/stochastic_ray_tracer/stochasticraytracer/Vec3" "z" "D" (.double zb)) (nn12 : Jvm.Free.Fl.NoNaN64 (FP.dsub xa xb)) (nn21 : Jvm.Free.Fl.NoNaN64 (FP.dsub ya yb)) (nn30 : Jvm.Free.Fl.NoNaN64 (FP.dsub za zb)) :
    Con l Z (⟨"com/example/stochastic_ray_tracer/stochasticraytracer/Vec3", "minus", "(Lcom/example/stochastic_ray_tracer/stochasticraytracer/Vec3;)Lcom/example/stochastic_ray_tracer/stochasticraytracer/Vec3;"⟩ : MethodName) prog_72_method_9_code 2 (some (.object "com/example/stochastic_ray_tracer/stochasticraytracer/Vec3")) ws ({ frames := 2, cells := 1, slots := 3, locals := 31 } : Room) #[(.ref a), (.ref b)] h0 (own_Q12 Z a b xa ya za xb yb zb h0 n0) := by
  refine Con.start #[.val (.ref a), .val (.ref b)] (plainFor_of_name own_pn1) (fun m => by first | (refine own_ef ?_; exact rfl) | (simp [entryFrame, mkF, argsToLocals, Value.category]; done) | rfl) ?_
  intro p e s m below meth c s₁ P X0 hx hby hml hret hlk hown hnm hZ e0 hf
  have hml : c.maxLocals = 2 := hml
  have N0 := Fr.nil n0
  have K0 : Keep h0 h0 [] := Keep.refl _ _
  refine g_new (pc' := 3) X0 hx hby hZ hown (hw _ (List.mem_of_getElem? (i := 69) rfl)) (hw _ (List.mem_of_getElem? (i := 2) rfl)) (hw _ (List.mem_of_getElem? (i := 3) rfl)) e0 own_d12_0 rfl (by decide) (by decide) ?_
  intro T1 h1 rr X1 e1 E1 A1 D1 q1
  have ne2 : a ≠ rr := by rw [q1]; exact Nat.ne_of_lt c0.lt
  have ne3 : b ≠ rr := by rw [q1]; exact Nat.ne_of_lt c3.lt
  have ge1 : n0 ≤ rr := by rw [q1]; exact Z0
  have kp1 : h0.size ≤ rr := by rw [q1]; exact K0.1
  have f4 := c0.ext E1
  have f5 := c1.ext E1
  have f6 := c2.ext E1
  have f7 := c3.ext E1
  have f8 := c4.ext E1
  have f9 := c5.ext E1
  have f10 : Fld Z h1 rr "com/example/stochastic_ray_tracer/stochasticraytracer/Vec3" "x" "D" (.double (0 : UInt64)) := D1 (Or.inr (hw _ (List.mem_of_getElem? (i := 11) rfl))) (ty := .double) own_fd0
  have f11 : Fld Z h1 rr "com/example/stochastic_ray_tracer/stochasticraytracer/Vec3" "y" "D" (.double (0 : UInt64)) := D1 (Or.inr (hw _ (List.mem_of_getElem? (i := 13) rfl))) (ty := .double) own_fd0
  have f12 : Fld Z h1 rr "com/example/stochastic_ray_tracer/stochasticraytracer/Vec3" "z" "D" (.double (0 : UInt64)) := D1 (Or.inr (hw _ (List.mem_of_getElem? (i := 15) rfl))) (ty := .double) own_fd0
  have z1 := Nat.le_trans Z0 E1.1
  have K1 := K0.ext E1
  refine g_dup (pc' := 4) X1 hx hby own_d12_3 rfl rfl rfl ?_
  refine g_aloadN (pc' := 5) X1 hx hby (v := (.ref a)) own_d12_4 rfl rfl rfl ?_
  refine g_getF (pc' := 8) X1 hx hby hZ hown (host := "") (Or.inl (hw _ (List.mem_of_getElem? (i := 10) rfl))) Via.refl e1 f4 rfl own_d12_5 rfl ?_
  intro T13 X13 e13
  refine g_aloadN (pc' := 9) X13 hx hby (v := (.ref b)) own_d12_8 rfl rfl rfl ?_
  refine g_getF (pc' := 12) X13 hx hby hZ hown (host := "") (Or.inl (hw _ (List.mem_of_getElem? (i := 10) rfl))) Via.refl e13 f7 rfl own_d12_9 rfl ?_
  intro T14 X14 e14
  refine g_dsub (pc' := 13) (v := (FP.dsub xa xb)) X14 hx hby own_d12_12 rfl (nn12) rfl rfl ?_
  refine g_aloadN (pc' := 14) X14 hx hby (v := (.ref a)) own_d12_13 rfl rfl rfl ?_
  refine g_getF (pc' := 17) X14 hx hby hZ hown (host := "") (Or.inl (hw _ (List.mem_of_getElem? (i := 12) rfl))) Via.refl e14 f5 rfl own_d12_14 rfl ?_
  intro T15 X15 e15
  refine g_aloadN (pc' := 18) X15 hx hby (v := (.ref b)) own_d12_17 rfl rfl rfl ?_
  refine g_getF (pc' := 21) X15 hx hby hZ hown (host := "") (Or.inl (hw _ (List.mem_of_getElem? (i := 12) rfl))) Via.refl e15 f8 rfl own_d12_18 rfl ?_
  intro T16 X16 e16
  refine g_dsub (pc' := 22) (v := (FP.dsub ya yb)) X16 hx hby own_d12_21 rfl (nn21) rfl rfl ?_
  refine g_aloadN (pc' := 23) X16 hx hby (v := (.ref a)) own_d12_22 rfl rfl rfl ?_
  refine g_getF (pc' := 26) X16 hx hby hZ hown (host := "") (Or.inl (hw _ (List.mem_of_getElem? (i := 14) rfl))) Via.refl e16 f6 rfl own_d12_23 rfl ?_
  intro T17 X17 e17
  refine g_aloadN (pc' := 27) X17 hx hby (v := (.ref b)) own_d12_26 rfl rfl rfl ?_
  refine g_getF (pc' := 30) X17 hx hby hZ hown (host := "") (Or.inl (hw _ (List.mem_of_getElem? (i := 14) rfl))) Via.refl e17 f9 rfl own_d12_27 rfl ?_
  intro T18 X18 e18
  refine g_dsub (pc' := 31) (v := (FP.dsub za zb)) X18 hx hby own_d12_30 rfl (nn30) rfl rfl ?_
  refine g_init (argsL := [(.double (FP.dsub xa xb)), (.double (FP.dsub ya yb)), (.double (FP.dsub za zb))]) (pc' := 34) X18 hx hby (by rw [hml]; rfl) hZ hown rfl e18 (own_rm1 l Z a0 hw [] rr (FP.dsub xa xb) (FP.dsub ya yb) (FP.dsub za zb)  h1 n0 z1 A1 f10 f11 f12 ge1) (hw _ (List.mem_of_getElem? (i := 70) rfl)) (hw _ (List.mem_of_getElem? (i := 5) rfl)) (hw _ (List.mem_of_getElem? (i := 3) rfl)) (hw _ (List.mem_of_getElem? (i := 6) rfl)) (by decide) own_pd0 rfl rfl (W := 1) rfl (by decide) (by decide) (by decide) (by decide) own_d12_31 rfl ?_
  intro T19 v19 L19 X19 qq19
  obtain ⟨h19, e19⟩ : ∃ h, T19.heap = h := ⟨_, rfl⟩
  rw [e19] at qq19
  obtain ⟨rfl, n19, k19, p19_0, p19_1, p19_2, p19_3⟩ := qq19
  have f20 := f4.keep k19 (ninS ne2 nin0)
  have f21 := f5.keep k19 (ninS ne2 nin0)
  have f22 := f6.keep k19 (ninS ne2 nin0)
  have f23 := f7.keep k19 (ninS ne3 nin0)
  have f24 := f8.keep k19 (ninS ne3 nin0)
  have f25 := f9.keep k19 (ninS ne3 nin0)
  have f26 := A1.keep k19
  have z19 := Nat.le_trans z1 k19.1
  have K19 := K1.trans k19 (allS (Or.inr kp1) all0)
  have N19 := Fr.app N0 n19
  show Gf p e below P T19 m 34 #[.val (.ref a), .val (.ref b)] [(.ref rr)]
  exact g_retV X19 hx hby hf hlk hret own_d12_34 rfl rfl (Or.inr (Or.inr (Or.inr (Or.inr ⟨rfl, rfl, rfl⟩)))) (by decide) (by decide) e19 ⟨rr, rfl, N19, K19, kp1, p19_0, p19_1, p19_2, p19_3⟩
theorem own_d13_0 : decode prog_72_method_8_code 0 = .ok (.new 8, 3) := by decide +kernel
theorem own_d13_3 : decode prog_72_method_8_code 3 = .ok (.dup, 1) := by decide +kernel
theorem own_d13_4 : decode prog_72_method_8_code 4 = .ok (.aload_n 0, 1) := by decide +kernel
theorem own_d13_5 : decode prog_72_method_8_code 5 = .ok (.getfield 7, 3) := by decide +kernel
theorem own_d13_8 : decode prog_72_method_8_code 8 = .ok (.aload_n 1, 1) := by decide +kernel
theorem own_d13_9 : decode prog_72_method_8_code 9 = .ok (.getfield 7, 3) := by decide +kernel
theorem own_d13_12 : decode prog_72_method_8_code 12 = .ok (.dadd, 1) := by decide +kernel
theorem own_d13_13 : decode prog_72_method_8_code 13 = .ok (.aload_n 0, 1) := by decide +kernel
theorem own_d13_14 : decode prog_72_method_8_code 14 = .ok (.getfield 13, 3) := by decide +kernel
theorem own_d13_17 : decode prog_72_method_8_code 17 = .ok (.aload_n 1, 1) := by decide +kernel
theorem own_d13_18 : decode prog_72_method_8_code 18 = .ok (.getfield 13, 3) := by decide +kernel
theorem own_d13_21 : decode prog_72_method_8_code 21 = .ok (.dadd, 1) := by decide +kernel
theorem own_d13_22 : decode prog_72_method_8_code 22 = .ok (.aload_n 0, 1) := by decide +kernel
theorem own_d13_23 : decode prog_72_method_8_code 23 = .ok (.getfield 16, 3) := by decide +kernel
theorem own_d13_26 : decode prog_72_method_8_code 26 = .ok (.aload_n 1, 1) := by decide +kernel
theorem own_d13_27 : decode prog_72_method_8_code 27 = .ok (.getfield 16, 3) := by decide +kernel
theorem own_d13_30 : decode prog_72_method_8_code 30 = .ok (.dadd, 1) := by decide +kernel
theorem own_d13_31 : decode prog_72_method_8_code 31 = .ok (.invokespecial 34, 3) := by decide +kernel
theorem own_d13_34 : decode prog_72_method_8_code 34 = .ok (.areturn, 1) := by decide +kernel
def own_Q13 (Z : State) (a : Addr) (b : Addr) (xa : UInt64) (ya : UInt64) (za : UInt64) (xb : UInt64) (yb : UInt64) (zb : UInt64) (h0 : Heap) (n0 : Nat) (v : Option Value) (h : Heap) (L : List Loc) : Prop := ∃ (r : Addr), v = some (.ref r) ∧ Fr n0 L ∧ Keep h0 h [] ∧ h0.size ≤ r ∧ Exa Z h r "com/example/stochastic_ray_tracer/stochasticraytracer/Vec3" ∧ Fld Z h r "com/example/stochastic_ray_tracer/stochasticraytracer/Vec3" "x" "D" (.double (FP.dadd xa xb)) ∧ Fld Z h r "com/example/stochastic_ray_tracer/stochasticraytracer/Vec3" "y" "D" (.double (FP.dadd ya yb)) ∧ Fld Z h r "com/example/stochastic_ray_tracer/stochasticraytracer/Vec3" "z" "D" (.double (FP.dadd za zb))
set_option maxRecDepth 65536 in
set_option maxHeartbeats 40000000 in
theorem own_rm13 (l : Launch) (Z : State) (a0 : Array Value) (hw : ∀ d ∈ tables_1, d.before a0 Z = true) (ws : List Jvm.Cond) (a : Addr) (b : Addr) (xa : UInt64) (ya : UInt64) (za : UInt64) (xb : UInt64) (yb : UInt64) (zb : UInt64) (h0 : Heap) (n0 : Nat) (Z0 : n0 ≤ h0.size) (c0 : Fld Z h0 a "com/example/stochastic_ray_tracer/stochasticraytracer/Vec3" "x" "D" (.double xa)) (c1 : Fld Z h0 a "com/example/stochastic_ray_tracer/stochasticraytracer/Vec3" "y" "D" (.double ya)) (c2 : Fld Z h0 a "com/example/stochastic_ray_tracer/stochasticraytracer/Vec3" "z" "D" (.double za)) (c3 : Fld Z h0 b "com/example/stochastic_ray_tracer/stochasticraytracer/Vec3" "x" "D" (.double xb)) (c4 : Fld Z h0 b "com/example/stochastic_ray_tracer/stochasticraytracer/Vec3" "y" "D" (.double yb)) (c5 : Fld Z h0 b "com/example/stochastic_ray_tracer/stochasticraytracer/Vec3" "z" "D" (.double zb)) (nn12 : Jvm.Free.Fl.NoNaN64 (FP.dadd xa xb)) (nn21 : Jvm.Free.Fl.NoNaN64 (FP.dadd ya yb)) (nn30 : Jvm.Free.Fl.NoNaN64 (FP.dadd za zb)) :
    Con l Z (⟨"com/example/stochastic_ray_tracer/stochasticraytracer/Vec3", "plus", "(Lcom/example/stochastic_ray_tracer/stochasticraytracer/Vec3;)Lcom/example/stochastic_ray_tracer/stochasticraytracer/Vec3;"⟩ : MethodName) prog_72_method_8_code 2 (some (.object "com/example/stochastic_ray_tracer/stochasticraytracer/Vec3")) ws ({ frames := 2, cells := 1, slots := 3, locals := 31 } : Room) #[(.ref a), (.ref b)] h0 (own_Q13 Z a b xa ya za xb yb zb h0 n0) := by
  refine Con.start #[.val (.ref a), .val (.ref b)] (plainFor_of_name own_pn1) (fun m => by first | (refine own_ef ?_; exact rfl) | (simp [entryFrame, mkF, argsToLocals, Value.category]; done) | rfl) ?_
  intro p e s m below meth c s₁ P X0 hx hby hml hret hlk hown hnm hZ e0 hf
  have hml : c.maxLocals = 2 := hml
  have N0 := Fr.nil n0
  have K0 : Keep h0 h0 [] := Keep.refl _ _
  refine g_new (pc' := 3) X0 hx hby hZ hown (hw _ (List.mem_of_getElem? (i := 69) rfl)) (hw _ (List.mem_of_getElem? (i := 2) rfl)) (hw _ (List.mem_of_getElem? (i := 3) rfl)) e0 own_d13_0 rfl (by decide) (by decide) ?_
  intro T1 h1 rr X1 e1 E1 A1 D1 q1
  have ne2 : a ≠ rr := by rw [q1]; exact Nat.ne_of_lt c0.lt
  have ne3 : b ≠ rr := by rw [q1]; exact Nat.ne_of_lt c3.lt
  have ge1 : n0 ≤ rr := by rw [q1]; exact Z0
  have kp1 : h0.size ≤ rr := by rw [q1]; exact K0.1
  have f4 := c0.ext E1
  have f5 := c1.ext E1
  have f6 := c2.ext E1
  have f7 := c3.ext E1
  have f8 := c4.ext E1
  have f9 := c5.ext E1
  have f10 : Fld Z h1 rr "com/example/stochastic_ray_tracer/stochasticraytracer/Vec3" "x" "D" (.double (0 : UInt64)) := D1 (Or.inr (hw _ (List.mem_of_getElem? (i := 11) rfl))) (ty := .double) own_fd0
  have f11 : Fld Z h1 rr "com/example/stochastic_ray_tracer/stochasticraytracer/Vec3" "y" "D" (.double (0 : UInt64)) := D1 (Or.inr (hw _ (List.mem_of_getElem? (i := 13) rfl))) (ty := .double) own_fd0
  have f12 : Fld Z h1 rr "com/example/stochastic_ray_tracer/stochasticraytracer/Vec3" "z" "D" (.double (0 : UInt64)) := D1 (Or.inr (hw _ (List.mem_of_getElem? (i := 15) rfl))) (ty := .double) own_fd0
  have z1 := Nat.le_trans Z0 E1.1
  have K1 := K0.ext E1
  refine g_dup (pc' := 4) X1 hx hby own_d13_3 rfl rfl rfl ?_
  refine g_aloadN (pc' := 5) X1 hx hby (v := (.ref a)) own_d13_4 rfl rfl rfl ?_
  refine g_getF (pc' := 8) X1 hx hby hZ hown (host := "") (Or.inl (hw _ (List.mem_of_getElem? (i := 10) rfl))) Via.refl e1 f4 rfl own_d13_5 rfl ?_
  intro T13 X13 e13
  refine g_aloadN (pc' := 9) X13 hx hby (v := (.ref b)) own_d13_8 rfl rfl rfl ?_
  refine g_getF (pc' := 12) X13 hx hby hZ hown (host := "") (Or.inl (hw _ (List.mem_of_getElem? (i := 10) rfl))) Via.refl e13 f7 rfl own_d13_9 rfl ?_
  intro T14 X14 e14
  refine g_dadd (pc' := 13) (v := (FP.dadd xa xb)) X14 hx hby own_d13_12 rfl (nn12) rfl rfl ?_
  refine g_aloadN (pc' := 14) X14 hx hby (v := (.ref a)) own_d13_13 rfl rfl rfl ?_
  refine g_getF (pc' := 17) X14 hx hby hZ hown (host := "") (Or.inl (hw _ (List.mem_of_getElem? (i := 12) rfl))) Via.refl e14 f5 rfl own_d13_14 rfl ?_
  intro T15 X15 e15
  refine g_aloadN (pc' := 18) X15 hx hby (v := (.ref b)) own_d13_17 rfl rfl rfl ?_
  refine g_getF (pc' := 21) X15 hx hby hZ hown (host := "") (Or.inl (hw _ (List.mem_of_getElem? (i := 12) rfl))) Via.refl e15 f8 rfl own_d13_18 rfl ?_
  intro T16 X16 e16
  refine g_dadd (pc' := 22) (v := (FP.dadd ya yb)) X16 hx hby own_d13_21 rfl (nn21) rfl rfl ?_
  refine g_aloadN (pc' := 23) X16 hx hby (v := (.ref a)) own_d13_22 rfl rfl rfl ?_
  refine g_getF (pc' := 26) X16 hx hby hZ hown (host := "") (Or.inl (hw _ (List.mem_of_getElem? (i := 14) rfl))) Via.refl e16 f6 rfl own_d13_23 rfl ?_
  intro T17 X17 e17
  refine g_aloadN (pc' := 27) X17 hx hby (v := (.ref b)) own_d13_26 rfl rfl rfl ?_
  refine g_getF (pc' := 30) X17 hx hby hZ hown (host := "") (Or.inl (hw _ (List.mem_of_getElem? (i := 14) rfl))) Via.refl e17 f9 rfl own_d13_27 rfl ?_
  intro T18 X18 e18
  refine g_dadd (pc' := 31) (v := (FP.dadd za zb)) X18 hx hby own_d13_30 rfl (nn30) rfl rfl ?_
  refine g_init (argsL := [(.double (FP.dadd xa xb)), (.double (FP.dadd ya yb)), (.double (FP.dadd za zb))]) (pc' := 34) X18 hx hby (by rw [hml]; rfl) hZ hown rfl e18 (own_rm1 l Z a0 hw [] rr (FP.dadd xa xb) (FP.dadd ya yb) (FP.dadd za zb)  h1 n0 z1 A1 f10 f11 f12 ge1) (hw _ (List.mem_of_getElem? (i := 70) rfl)) (hw _ (List.mem_of_getElem? (i := 5) rfl)) (hw _ (List.mem_of_getElem? (i := 3) rfl)) (hw _ (List.mem_of_getElem? (i := 6) rfl)) (by decide) own_pd0 rfl rfl (W := 1) rfl (by decide) (by decide) (by decide) (by decide) own_d13_31 rfl ?_
  intro T19 v19 L19 X19 qq19
  obtain ⟨h19, e19⟩ : ∃ h, T19.heap = h := ⟨_, rfl⟩
  rw [e19] at qq19
  obtain ⟨rfl, n19, k19, p19_0, p19_1, p19_2, p19_3⟩ := qq19
  have f20 := f4.keep k19 (ninS ne2 nin0)
  have f21 := f5.keep k19 (ninS ne2 nin0)
  have f22 := f6.keep k19 (ninS ne2 nin0)
  have f23 := f7.keep k19 (ninS ne3 nin0)
  have f24 := f8.keep k19 (ninS ne3 nin0)
  have f25 := f9.keep k19 (ninS ne3 nin0)
  have f26 := A1.keep k19
  have z19 := Nat.le_trans z1 k19.1
  have K19 := K1.trans k19 (allS (Or.inr kp1) all0)
  have N19 := Fr.app N0 n19
  show Gf p e below P T19 m 34 #[.val (.ref a), .val (.ref b)] [(.ref rr)]
  exact g_retV X19 hx hby hf hlk hret own_d13_34 rfl rfl (Or.inr (Or.inr (Or.inr (Or.inr ⟨rfl, rfl, rfl⟩)))) (by decide) (by decide) e19 ⟨rr, rfl, N19, K19, kp1, p19_0, p19_1, p19_2, p19_3⟩
theorem own_d3_0 : decode method_3_code 0 = .ok (.new 8, 3) := by decide +kernel
theorem own_d3_3 : decode method_3_code 3 = .ok (.dup, 1) := by decide +kernel
theorem own_d3_4 : decode method_3_code 4 = .ok (.iload_n 0, 1) := by decide +kernel
theorem own_d3_5 : decode method_3_code 5 = .ok (.iconst 0, 1) := by decide +kernel
theorem own_d3_6 : decode method_3_code 6 = .ok (.lload_n 1, 1) := by decide +kernel
theorem own_d3_7 : decode method_3_code 7 = .ok (.lload_n 3, 1) := by decide +kernel
theorem own_d3_8 : decode method_3_code 8 = .ok (.lload 5, 2) := by decide +kernel
theorem own_d3_10 : decode method_3_code 10 = .ok (.invokestatic 24, 3) := by decide +kernel
theorem own_d3_13 : decode method_3_code 13 = .ok (.l2d, 1) := by decide +kernel
theorem own_d3_14 : decode method_3_code 14 = .ok (.iload_n 0, 1) := by decide +kernel
theorem own_d3_15 : decode method_3_code 15 = .ok (.iconst 1, 1) := by decide +kernel
theorem own_d3_16 : decode method_3_code 16 = .ok (.lload_n 1, 1) := by decide +kernel
theorem own_d3_17 : decode method_3_code 17 = .ok (.lload_n 3, 1) := by decide +kernel
theorem own_d3_18 : decode method_3_code 18 = .ok (.lload 5, 2) := by decide +kernel
theorem own_d3_20 : decode method_3_code 20 = .ok (.invokestatic 24, 3) := by decide +kernel
theorem own_d3_23 : decode method_3_code 23 = .ok (.l2d, 1) := by decide +kernel
theorem own_d3_24 : decode method_3_code 24 = .ok (.iload_n 0, 1) := by decide +kernel
theorem own_d3_25 : decode method_3_code 25 = .ok (.iconst 2, 1) := by decide +kernel
theorem own_d3_26 : decode method_3_code 26 = .ok (.lload_n 1, 1) := by decide +kernel
theorem own_d3_27 : decode method_3_code 27 = .ok (.lload_n 3, 1) := by decide +kernel
theorem own_d3_28 : decode method_3_code 28 = .ok (.lload 5, 2) := by decide +kernel
theorem own_d3_30 : decode method_3_code 30 = .ok (.invokestatic 24, 3) := by decide +kernel
theorem own_d3_33 : decode method_3_code 33 = .ok (.l2d, 1) := by decide +kernel
theorem own_d3_34 : decode method_3_code 34 = .ok (.invokespecial 10, 3) := by decide +kernel
theorem own_d3_37 : decode method_3_code 37 = .ok (.areturn, 1) := by decide +kernel
def own_Q3 (Z : State) (pk : Int32) (ja : Int64) (jb : Int64) (jc : Int64) (h0 : Heap) (n0 : Nat) (v : Option Value) (h : Heap) (L : List Loc) : Prop := ∃ (r : Addr), v = some (.ref r) ∧ Fr n0 L ∧ Keep h0 h [] ∧ h0.size ≤ r ∧ Exa Z h r "com/example/stochastic_ray_tracer/stochasticraytracer/Vec3" ∧ Fld Z h r "com/example/stochastic_ray_tracer/stochasticraytracer/Vec3" "x" "D" (.double (FP.l2d (own_pk0 pk ja jb jc))) ∧ Fld Z h r "com/example/stochastic_ray_tracer/stochasticraytracer/Vec3" "y" "D" (.double (FP.l2d (own_pk1 pk ja jb jc))) ∧ Fld Z h r "com/example/stochastic_ray_tracer/stochasticraytracer/Vec3" "z" "D" (.double (FP.l2d (own_pk2 pk ja jb jc)))
set_option maxRecDepth 65536 in
set_option maxHeartbeats 40000000 in
theorem own_rm3 (l : Launch) (Z : State) (a0 : Array Value) (hw : ∀ d ∈ tables_1, d.before a0 Z = true) (ws : List Jvm.Cond) (pk : Int32) (ja : Int64) (jb : Int64) (jc : Int64) (h0 : Heap) (n0 : Nat) (Z0 : n0 ≤ h0.size) :
    Con l Z (⟨"com/example/stochastic_ray_tracer/stochasticraytracer/TextureCoordinatesVPinLaw", "vec", "(IJJJ)Lcom/example/stochastic_ray_tracer/stochasticraytracer/Vec3;"⟩ : MethodName) method_3_code 7 (some (.object "com/example/stochastic_ray_tracer/stochasticraytracer/Vec3")) ws ({ frames := 2, cells := 1, slots := 3, locals := 39 } : Room) #[(.int pk), (.long ja), (.long jb), (.long jc)] h0 (own_Q3 Z pk ja jb jc h0 n0) := by
  refine Con.start #[.val (.int pk), .val (.long ja), .second, .val (.long jb), .second, .val (.long jc), .second] (plainFor_of_name own_pn0) (fun m => by first | (refine own_ef ?_; exact rfl) | (simp [entryFrame, mkF, argsToLocals, Value.category]; done) | rfl) ?_
  intro p e s m below meth c s₁ P X0 hx hby hml hret hlk hown hnm hZ e0 hf
  have hml : c.maxLocals = 7 := hml
  have N0 := Fr.nil n0
  have K0 : Keep h0 h0 [] := Keep.refl _ _
  refine g_new (pc' := 3) X0 hx hby hZ hown (hw _ (List.mem_of_getElem? (i := 1) rfl)) (hw _ (List.mem_of_getElem? (i := 2) rfl)) (hw _ (List.mem_of_getElem? (i := 3) rfl)) e0 own_d3_0 rfl (by decide) (by decide) ?_
  intro T1 h1 rr X1 e1 E1 A1 D1 q1
  have ge1 : n0 ≤ rr := by rw [q1]; exact Z0
  have kp1 : h0.size ≤ rr := by rw [q1]; exact K0.1
  have f2 : Fld Z h1 rr "com/example/stochastic_ray_tracer/stochasticraytracer/Vec3" "x" "D" (.double (0 : UInt64)) := D1 (Or.inr (hw _ (List.mem_of_getElem? (i := 11) rfl))) (ty := .double) own_fd0
  have f3 : Fld Z h1 rr "com/example/stochastic_ray_tracer/stochasticraytracer/Vec3" "y" "D" (.double (0 : UInt64)) := D1 (Or.inr (hw _ (List.mem_of_getElem? (i := 13) rfl))) (ty := .double) own_fd0
  have f4 : Fld Z h1 rr "com/example/stochastic_ray_tracer/stochasticraytracer/Vec3" "z" "D" (.double (0 : UInt64)) := D1 (Or.inr (hw _ (List.mem_of_getElem? (i := 15) rfl))) (ty := .double) own_fd0
  have z1 := Nat.le_trans Z0 E1.1
  have K1 := K0.ext E1
  refine g_dup (pc' := 4) X1 hx hby own_d3_3 rfl rfl rfl ?_
  refine g_iloadN (pc' := 5) X1 hx hby (v := pk) own_d3_4 rfl rfl ?_
  refine g_iconst (pc' := 6) (v := (0 : Int32)) X1 hx hby own_d3_5 rfl rfl ?_
  refine g_lloadN (pc' := 7) X1 hx hby (v := ja) own_d3_6 rfl rfl ?_
  refine g_lloadN (pc' := 8) X1 hx hby (v := jb) own_d3_7 rfl rfl ?_
  refine g_lload (pc' := 10) X1 hx hby (v := jc) own_d3_8 rfl rfl ?_
  refine g_callS (argsL := [(.int pk), (.int (0 : Int32)), (.long ja), (.long jb), (.long jc)]) (pc' := 13) X1 hx hby (by rw [hml]; rfl) hZ hown e1 (own_rm4_0 l Z a0 hw [] pk ja jb jc  h1 n0 z1) (hw _ (List.mem_of_getElem? (i := 20) rfl)) (hw _ (List.mem_of_getElem? (i := 21) rfl)) (hw _ (List.mem_of_getElem? (i := 18) rfl)) (hw _ (List.mem_of_getElem? (i := 22) rfl)) (by decide) own_pd6 rfl rfl (W := 2) rfl (by decide) (by decide) (by decide) (by decide) own_d3_10 rfl ?_
  intro T5 v5 L5 X5 qq5
  obtain ⟨rfl, n5, e5⟩ := qq5
  have N5 := Fr.app N0 n5
  show Gf p e below P T5 m 13 #[.val (.int pk), .val (.long ja), .second, .val (.long jb), .second, .val (.long jc), .second] [(.long (own_pk0 pk ja jb jc)), (.ref rr), (.ref rr)]
  refine g_l2d (pc' := 14) (v := (FP.l2d (own_pk0 pk ja jb jc))) X5 hx hby own_d3_13 rfl rfl rfl ?_
  refine g_iloadN (pc' := 15) X5 hx hby (v := pk) own_d3_14 rfl rfl ?_
  refine g_iconst (pc' := 16) (v := (1 : Int32)) X5 hx hby own_d3_15 rfl rfl ?_
  refine g_lloadN (pc' := 17) X5 hx hby (v := ja) own_d3_16 rfl rfl ?_
  refine g_lloadN (pc' := 18) X5 hx hby (v := jb) own_d3_17 rfl rfl ?_
  refine g_lload (pc' := 20) X5 hx hby (v := jc) own_d3_18 rfl rfl ?_
  refine g_callS (argsL := [(.int pk), (.int (1 : Int32)), (.long ja), (.long jb), (.long jc)]) (pc' := 23) X5 hx hby (by rw [hml]; rfl) hZ hown e5 (own_rm4_1 l Z a0 hw [] pk ja jb jc  h1 n0 z1) (hw _ (List.mem_of_getElem? (i := 20) rfl)) (hw _ (List.mem_of_getElem? (i := 21) rfl)) (hw _ (List.mem_of_getElem? (i := 18) rfl)) (hw _ (List.mem_of_getElem? (i := 22) rfl)) (by decide) own_pd6 rfl rfl (W := 4) rfl (by decide) (by decide) (by decide) (by decide) own_d3_20 rfl ?_
  intro T6 v6 L6 X6 qq6
  obtain ⟨rfl, n6, e6⟩ := qq6
  have N6 := Fr.app N5 n6
  show Gf p e below P T6 m 23 #[.val (.int pk), .val (.long ja), .second, .val (.long jb), .second, .val (.long jc), .second] [(.long (own_pk1 pk ja jb jc)), (.double (FP.l2d (own_pk0 pk ja jb jc))), (.ref rr), (.ref rr)]
  refine g_l2d (pc' := 24) (v := (FP.l2d (own_pk1 pk ja jb jc))) X6 hx hby own_d3_23 rfl rfl rfl ?_
  refine g_iloadN (pc' := 25) X6 hx hby (v := pk) own_d3_24 rfl rfl ?_
  refine g_iconst (pc' := 26) (v := (2 : Int32)) X6 hx hby own_d3_25 rfl rfl ?_
  refine g_lloadN (pc' := 27) X6 hx hby (v := ja) own_d3_26 rfl rfl ?_
  refine g_lloadN (pc' := 28) X6 hx hby (v := jb) own_d3_27 rfl rfl ?_
  refine g_lload (pc' := 30) X6 hx hby (v := jc) own_d3_28 rfl rfl ?_
  refine g_callS (argsL := [(.int pk), (.int (2 : Int32)), (.long ja), (.long jb), (.long jc)]) (pc' := 33) X6 hx hby (by rw [hml]; rfl) hZ hown e6 (own_rm4_2 l Z a0 hw [] pk ja jb jc  h1 n0 z1) (hw _ (List.mem_of_getElem? (i := 20) rfl)) (hw _ (List.mem_of_getElem? (i := 21) rfl)) (hw _ (List.mem_of_getElem? (i := 18) rfl)) (hw _ (List.mem_of_getElem? (i := 22) rfl)) (by decide) own_pd6 rfl rfl (W := 6) rfl (by decide) (by decide) (by decide) (by decide) own_d3_30 rfl ?_
  intro T7 v7 L7 X7 qq7
  obtain ⟨rfl, n7, e7⟩ := qq7
  have N7 := Fr.app N6 n7
  show Gf p e below P T7 m 33 #[.val (.int pk), .val (.long ja), .second, .val (.long jb), .second, .val (.long jc), .second] [(.long (own_pk2 pk ja jb jc)), (.double (FP.l2d (own_pk1 pk ja jb jc))), (.double (FP.l2d (own_pk0 pk ja jb jc))), (.ref rr), (.ref rr)]
  refine g_l2d (pc' := 34) (v := (FP.l2d (own_pk2 pk ja jb jc))) X7 hx hby own_d3_33 rfl rfl rfl ?_
  refine g_init (argsL := [(.double (FP.l2d (own_pk0 pk ja jb jc))), (.double (FP.l2d (own_pk1 pk ja jb jc))), (.double (FP.l2d (own_pk2 pk ja jb jc)))]) (pc' := 37) X7 hx hby (by rw [hml]; rfl) hZ hown rfl e7 (own_rm1 l Z a0 hw [] rr (FP.l2d (own_pk0 pk ja jb jc)) (FP.l2d (own_pk1 pk ja jb jc)) (FP.l2d (own_pk2 pk ja jb jc))  h1 n0 z1 A1 f2 f3 f4 ge1) (hw _ (List.mem_of_getElem? (i := 4) rfl)) (hw _ (List.mem_of_getElem? (i := 5) rfl)) (hw _ (List.mem_of_getElem? (i := 3) rfl)) (hw _ (List.mem_of_getElem? (i := 6) rfl)) (by decide) own_pd0 rfl rfl (W := 1) rfl (by decide) (by decide) (by decide) (by decide) own_d3_34 rfl ?_
  intro T8 v8 L8 X8 qq8
  obtain ⟨h8, e8⟩ : ∃ h, T8.heap = h := ⟨_, rfl⟩
  rw [e8] at qq8
  obtain ⟨rfl, n8, k8, p8_0, p8_1, p8_2, p8_3⟩ := qq8
  have f9 := A1.keep k8
  have z8 := Nat.le_trans z1 k8.1
  have K8 := K1.trans k8 (allS (Or.inr kp1) all0)
  have N8 := Fr.app N7 n8
  show Gf p e below P T8 m 37 #[.val (.int pk), .val (.long ja), .second, .val (.long jb), .second, .val (.long jc), .second] [(.ref rr)]
  exact g_retV X8 hx hby hf hlk hret own_d3_37 rfl rfl (Or.inr (Or.inr (Or.inr (Or.inr ⟨rfl, rfl, rfl⟩)))) (by decide) (by decide) e8 ⟨rr, rfl, N8, K8, kp1, p8_0, p8_1, p8_2, p8_3⟩
theorem own_d6_0 : decode prog_68_method_1_code 0 = .ok (.aload_n 0, 1) := by decide +kernel
theorem own_d6_1 : decode prog_68_method_1_code 1 = .ok (.invokespecial 1, 3) := by decide +kernel
theorem own_d6_4 : decode prog_68_method_1_code 4 = .ok (.aload_n 0, 1) := by decide +kernel
theorem own_d6_5 : decode prog_68_method_1_code 5 = .ok (.aload_n 1, 1) := by decide +kernel
theorem own_d6_6 : decode prog_68_method_1_code 6 = .ok (.invokevirtual 7, 3) := by decide +kernel
theorem own_d6_9 : decode prog_68_method_1_code 9 = .ok (.putfield 13, 3) := by decide +kernel
theorem own_d6_12 : decode prog_68_method_1_code 12 = .ok (.aload_n 0, 1) := by decide +kernel
theorem own_d6_13 : decode prog_68_method_1_code 13 = .ok (.aload_n 1, 1) := by decide +kernel
theorem own_d6_14 : decode prog_68_method_1_code 14 = .ok (.invokevirtual 19, 3) := by decide +kernel
theorem own_d6_17 : decode prog_68_method_1_code 17 = .ok (.putfield 22, 3) := by decide +kernel
theorem own_d6_20 : decode prog_68_method_1_code 20 = .ok (.aload_n 0, 1) := by decide +kernel
theorem own_d6_21 : decode prog_68_method_1_code 21 = .ok (.aload_n 1, 1) := by decide +kernel
theorem own_d6_22 : decode prog_68_method_1_code 22 = .ok (.invokevirtual 25, 3) := by decide +kernel
theorem own_d6_25 : decode prog_68_method_1_code 25 = .ok (.putfield 28, 3) := by decide +kernel
theorem own_d6_28 : decode prog_68_method_1_code 28 = .ok (.aload_n 0, 1) := by decide +kernel
theorem own_d6_29 : decode prog_68_method_1_code 29 = .ok (.aload 4, 2) := by decide +kernel
theorem own_d6_31 : decode prog_68_method_1_code 31 = .ok (.iconst 0, 1) := by decide +kernel
theorem own_d6_32 : decode prog_68_method_1_code 32 = .ok (.daload, 1) := by decide +kernel
theorem own_d6_33 : decode prog_68_method_1_code 33 = .ok (.putfield 31, 3) := by decide +kernel
theorem own_d6_36 : decode prog_68_method_1_code 36 = .ok (.aload_n 0, 1) := by decide +kernel
theorem own_d6_37 : decode prog_68_method_1_code 37 = .ok (.aload 4, 2) := by decide +kernel
theorem own_d6_39 : decode prog_68_method_1_code 39 = .ok (.iconst 1, 1) := by decide +kernel
theorem own_d6_40 : decode prog_68_method_1_code 40 = .ok (.daload, 1) := by decide +kernel
theorem own_d6_41 : decode prog_68_method_1_code 41 = .ok (.putfield 34, 3) := by decide +kernel
theorem own_d6_44 : decode prog_68_method_1_code 44 = .ok (.aload_n 2, 1) := by decide +kernel
theorem own_d6_45 : decode prog_68_method_1_code 45 = .ok (.aload_n 2, 1) := by decide +kernel
theorem own_d6_46 : decode prog_68_method_1_code 46 = .ok (.invokevirtual 37, 3) := by decide +kernel
theorem own_d6_49 : decode prog_68_method_1_code 49 = .ok (.dstore 5, 2) := by decide +kernel
theorem own_d6_51 : decode prog_68_method_1_code 51 = .ok (.aload_n 2, 1) := by decide +kernel
theorem own_d6_52 : decode prog_68_method_1_code 52 = .ok (.aload_n 3, 1) := by decide +kernel
theorem own_d6_53 : decode prog_68_method_1_code 53 = .ok (.invokevirtual 37, 3) := by decide +kernel
theorem own_d6_56 : decode prog_68_method_1_code 56 = .ok (.dstore 7, 2) := by decide +kernel
theorem own_d6_58 : decode prog_68_method_1_code 58 = .ok (.aload_n 3, 1) := by decide +kernel
theorem own_d6_59 : decode prog_68_method_1_code 59 = .ok (.aload_n 3, 1) := by decide +kernel
theorem own_d6_60 : decode prog_68_method_1_code 60 = .ok (.invokevirtual 37, 3) := by decide +kernel
theorem own_d6_63 : decode prog_68_method_1_code 63 = .ok (.dstore 9, 2) := by decide +kernel
theorem own_d6_65 : decode prog_68_method_1_code 65 = .ok (.dconst 1, 1) := by decide +kernel
theorem own_d6_66 : decode prog_68_method_1_code 66 = .ok (.dload 5, 2) := by decide +kernel
theorem own_d6_68 : decode prog_68_method_1_code 68 = .ok (.dload 9, 2) := by decide +kernel
theorem own_d6_70 : decode prog_68_method_1_code 70 = .ok (.dmul, 1) := by decide +kernel
theorem own_d6_71 : decode prog_68_method_1_code 71 = .ok (.dload 7, 2) := by decide +kernel
theorem own_d6_73 : decode prog_68_method_1_code 73 = .ok (.dload 7, 2) := by decide +kernel
theorem own_d6_75 : decode prog_68_method_1_code 75 = .ok (.dmul, 1) := by decide +kernel
theorem own_d6_76 : decode prog_68_method_1_code 76 = .ok (.dsub, 1) := by decide +kernel
theorem own_d6_77 : decode prog_68_method_1_code 77 = .ok (.ddiv, 1) := by decide +kernel
theorem own_d6_78 : decode prog_68_method_1_code 78 = .ok (.dstore 11, 2) := by decide +kernel
theorem own_d6_80 : decode prog_68_method_1_code 80 = .ok (.aload_n 2, 1) := by decide +kernel
theorem own_d6_81 : decode prog_68_method_1_code 81 = .ok (.dload 9, 2) := by decide +kernel
theorem own_d6_83 : decode prog_68_method_1_code 83 = .ok (.dload 11, 2) := by decide +kernel
theorem own_d6_85 : decode prog_68_method_1_code 85 = .ok (.dmul, 1) := by decide +kernel
theorem own_d6_86 : decode prog_68_method_1_code 86 = .ok (.invokevirtual 41, 3) := by decide +kernel
theorem own_d6_89 : decode prog_68_method_1_code 89 = .ok (.aload_n 3, 1) := by decide +kernel
theorem own_d6_90 : decode prog_68_method_1_code 90 = .ok (.dload 7, 2) := by decide +kernel
theorem own_d6_92 : decode prog_68_method_1_code 92 = .ok (.dload 11, 2) := by decide +kernel
theorem own_d6_94 : decode prog_68_method_1_code 94 = .ok (.dmul, 1) := by decide +kernel
theorem own_d6_95 : decode prog_68_method_1_code 95 = .ok (.invokevirtual 41, 3) := by decide +kernel
theorem own_d6_98 : decode prog_68_method_1_code 98 = .ok (.invokevirtual 45, 3) := by decide +kernel
theorem own_d6_101 : decode prog_68_method_1_code 101 = .ok (.astore 13, 2) := by decide +kernel
theorem own_d6_103 : decode prog_68_method_1_code 103 = .ok (.aload_n 3, 1) := by decide +kernel
theorem own_d6_104 : decode prog_68_method_1_code 104 = .ok (.dload 5, 2) := by decide +kernel
theorem own_d6_106 : decode prog_68_method_1_code 106 = .ok (.dload 11, 2) := by decide +kernel
theorem own_d6_108 : decode prog_68_method_1_code 108 = .ok (.dmul, 1) := by decide +kernel
theorem own_d6_109 : decode prog_68_method_1_code 109 = .ok (.invokevirtual 41, 3) := by decide +kernel
theorem own_d6_112 : decode prog_68_method_1_code 112 = .ok (.aload_n 2, 1) := by decide +kernel
theorem own_d6_113 : decode prog_68_method_1_code 113 = .ok (.dload 7, 2) := by decide +kernel
theorem own_d6_115 : decode prog_68_method_1_code 115 = .ok (.dload 11, 2) := by decide +kernel
theorem own_d6_117 : decode prog_68_method_1_code 117 = .ok (.dmul, 1) := by decide +kernel
theorem own_d6_118 : decode prog_68_method_1_code 118 = .ok (.invokevirtual 41, 3) := by decide +kernel
theorem own_d6_121 : decode prog_68_method_1_code 121 = .ok (.invokevirtual 45, 3) := by decide +kernel
theorem own_d6_124 : decode prog_68_method_1_code 124 = .ok (.astore 14, 2) := by decide +kernel
theorem own_d6_126 : decode prog_68_method_1_code 126 = .ok (.aload 13, 2) := by decide +kernel
theorem own_d6_128 : decode prog_68_method_1_code 128 = .ok (.aload 4, 2) := by decide +kernel
theorem own_d6_130 : decode prog_68_method_1_code 130 = .ok (.iconst 2, 1) := by decide +kernel
theorem own_d6_131 : decode prog_68_method_1_code 131 = .ok (.daload, 1) := by decide +kernel
theorem own_d6_132 : decode prog_68_method_1_code 132 = .ok (.aload 4, 2) := by decide +kernel
theorem own_d6_134 : decode prog_68_method_1_code 134 = .ok (.iconst 0, 1) := by decide +kernel
theorem own_d6_135 : decode prog_68_method_1_code 135 = .ok (.daload, 1) := by decide +kernel
theorem own_d6_136 : decode prog_68_method_1_code 136 = .ok (.dsub, 1) := by decide +kernel
theorem own_d6_137 : decode prog_68_method_1_code 137 = .ok (.invokevirtual 41, 3) := by decide +kernel
theorem own_d6_140 : decode prog_68_method_1_code 140 = .ok (.aload 14, 2) := by decide +kernel
theorem own_d6_142 : decode prog_68_method_1_code 142 = .ok (.aload 4, 2) := by decide +kernel
theorem own_d6_144 : decode prog_68_method_1_code 144 = .ok (.iconst 4, 1) := by decide +kernel
theorem own_d6_145 : decode prog_68_method_1_code 145 = .ok (.daload, 1) := by decide +kernel
theorem own_d6_146 : decode prog_68_method_1_code 146 = .ok (.aload 4, 2) := by decide +kernel
theorem own_d6_148 : decode prog_68_method_1_code 148 = .ok (.iconst 0, 1) := by decide +kernel
theorem own_d6_149 : decode prog_68_method_1_code 149 = .ok (.daload, 1) := by decide +kernel
theorem own_d6_150 : decode prog_68_method_1_code 150 = .ok (.dsub, 1) := by decide +kernel
theorem own_d6_151 : decode prog_68_method_1_code 151 = .ok (.invokevirtual 41, 3) := by decide +kernel
theorem own_d6_154 : decode prog_68_method_1_code 154 = .ok (.invokevirtual 49, 3) := by decide +kernel
theorem own_d6_157 : decode prog_68_method_1_code 157 = .ok (.astore 15, 2) := by decide +kernel
theorem own_d6_159 : decode prog_68_method_1_code 159 = .ok (.aload 13, 2) := by decide +kernel
theorem own_d6_161 : decode prog_68_method_1_code 161 = .ok (.aload 4, 2) := by decide +kernel
theorem own_d6_163 : decode prog_68_method_1_code 163 = .ok (.iconst 3, 1) := by decide +kernel
theorem own_d6_164 : decode prog_68_method_1_code 164 = .ok (.daload, 1) := by decide +kernel
theorem own_d6_165 : decode prog_68_method_1_code 165 = .ok (.aload 4, 2) := by decide +kernel
theorem own_d6_167 : decode prog_68_method_1_code 167 = .ok (.iconst 1, 1) := by decide +kernel
theorem own_d6_168 : decode prog_68_method_1_code 168 = .ok (.daload, 1) := by decide +kernel
theorem own_d6_169 : decode prog_68_method_1_code 169 = .ok (.dsub, 1) := by decide +kernel
theorem own_d6_170 : decode prog_68_method_1_code 170 = .ok (.invokevirtual 41, 3) := by decide +kernel
theorem own_d6_173 : decode prog_68_method_1_code 173 = .ok (.aload 14, 2) := by decide +kernel
theorem own_d6_175 : decode prog_68_method_1_code 175 = .ok (.aload 4, 2) := by decide +kernel
theorem own_d6_177 : decode prog_68_method_1_code 177 = .ok (.iconst 5, 1) := by decide +kernel
theorem own_d6_178 : decode prog_68_method_1_code 178 = .ok (.daload, 1) := by decide +kernel
theorem own_d6_179 : decode prog_68_method_1_code 179 = .ok (.aload 4, 2) := by decide +kernel
theorem own_d6_181 : decode prog_68_method_1_code 181 = .ok (.iconst 1, 1) := by decide +kernel
theorem own_d6_182 : decode prog_68_method_1_code 182 = .ok (.daload, 1) := by decide +kernel
theorem own_d6_183 : decode prog_68_method_1_code 183 = .ok (.dsub, 1) := by decide +kernel
theorem own_d6_184 : decode prog_68_method_1_code 184 = .ok (.invokevirtual 41, 3) := by decide +kernel
theorem own_d6_187 : decode prog_68_method_1_code 187 = .ok (.invokevirtual 49, 3) := by decide +kernel
theorem own_d6_190 : decode prog_68_method_1_code 190 = .ok (.astore 16, 2) := by decide +kernel
theorem own_d6_192 : decode prog_68_method_1_code 192 = .ok (.aload_n 0, 1) := by decide +kernel
theorem own_d6_193 : decode prog_68_method_1_code 193 = .ok (.aload 15, 2) := by decide +kernel
theorem own_d6_195 : decode prog_68_method_1_code 195 = .ok (.invokevirtual 7, 3) := by decide +kernel
theorem own_d6_198 : decode prog_68_method_1_code 198 = .ok (.putfield 52, 3) := by decide +kernel
theorem own_d6_201 : decode prog_68_method_1_code 201 = .ok (.aload_n 0, 1) := by decide +kernel
theorem own_d6_202 : decode prog_68_method_1_code 202 = .ok (.aload 15, 2) := by decide +kernel
theorem own_d6_204 : decode prog_68_method_1_code 204 = .ok (.invokevirtual 19, 3) := by decide +kernel
theorem own_d6_207 : decode prog_68_method_1_code 207 = .ok (.putfield 55, 3) := by decide +kernel
theorem own_d6_210 : decode prog_68_method_1_code 210 = .ok (.aload_n 0, 1) := by decide +kernel
theorem own_d6_211 : decode prog_68_method_1_code 211 = .ok (.aload 15, 2) := by decide +kernel
theorem own_d6_213 : decode prog_68_method_1_code 213 = .ok (.invokevirtual 25, 3) := by decide +kernel
theorem own_d6_216 : decode prog_68_method_1_code 216 = .ok (.putfield 58, 3) := by decide +kernel
theorem own_d6_219 : decode prog_68_method_1_code 219 = .ok (.aload_n 0, 1) := by decide +kernel
theorem own_d6_220 : decode prog_68_method_1_code 220 = .ok (.aload 16, 2) := by decide +kernel
theorem own_d6_222 : decode prog_68_method_1_code 222 = .ok (.invokevirtual 7, 3) := by decide +kernel
theorem own_d6_225 : decode prog_68_method_1_code 225 = .ok (.putfield 61, 3) := by decide +kernel
theorem own_d6_228 : decode prog_68_method_1_code 228 = .ok (.aload_n 0, 1) := by decide +kernel
theorem own_d6_229 : decode prog_68_method_1_code 229 = .ok (.aload 16, 2) := by decide +kernel
theorem own_d6_231 : decode prog_68_method_1_code 231 = .ok (.invokevirtual 19, 3) := by decide +kernel
theorem own_d6_234 : decode prog_68_method_1_code 234 = .ok (.putfield 64, 3) := by decide +kernel
theorem own_d6_237 : decode prog_68_method_1_code 237 = .ok (.aload_n 0, 1) := by decide +kernel
theorem own_d6_238 : decode prog_68_method_1_code 238 = .ok (.aload 16, 2) := by decide +kernel
theorem own_d6_240 : decode prog_68_method_1_code 240 = .ok (.invokevirtual 25, 3) := by decide +kernel
theorem own_d6_243 : decode prog_68_method_1_code 243 = .ok (.putfield 67, 3) := by decide +kernel
theorem own_d6_246 : decode prog_68_method_1_code 246 = .ok (.return_, 1) := by decide +kernel
def own_Q6 (Z : State) (a : Addr) (f : Addr) (ea : Addr) (eb : Addr) (uv : Addr) (fx : UInt64) (fy : UInt64) (fz : UInt64) (xa : UInt64) (ya : UInt64) (za : UInt64) (xb : UInt64) (yb : UInt64) (zb : UInt64) (u0 : UInt64) (u1 : UInt64) (u2 : UInt64) (u3 : UInt64) (u4 : UInt64) (u5 : UInt64) (kA : ClassId) (av : UInt64) (bv : UInt64) (cv : UInt64) (iv : UInt64) (ck : UInt64) (bk : UInt64) (ak : UInt64) (sx : UInt64) (sy : UInt64) (sz : UInt64) (tx : UInt64) (ty : UInt64) (tz : UInt64) (du2 : UInt64) (du3 : UInt64) (dv2 : UInt64) (dv3 : UInt64) (gx : UInt64) (gy : UInt64) (gz : UInt64) (wx : UInt64) (wy : UInt64) (wz : UInt64) (h0 : Heap) (n0 : Nat) (v : Option Value) (h : Heap) (L : List Loc) : Prop := v = none ∧ Fr n0 L ∧ Keep h0 h [a] ∧ Exa Z h a "com/example/stochastic_ray_tracer/stochasticraytracer/TextureCoordinates" ∧ Fld Z h a "com/example/stochastic_ray_tracer/stochasticraytracer/TextureCoordinates" "cornerX" "D" (.double fx) ∧ Fld Z h a "com/example/stochastic_ray_tracer/stochasticraytracer/TextureCoordinates" "cornerY" "D" (.double fy) ∧ Fld Z h a "com/example/stochastic_ray_tracer/stochasticraytracer/TextureCoordinates" "cornerZ" "D" (.double fz) ∧ Fld Z h a "com/example/stochastic_ray_tracer/stochasticraytracer/TextureCoordinates" "cornerU" "D" (.double u0) ∧ Fld Z h a "com/example/stochastic_ray_tracer/stochasticraytracer/TextureCoordinates" "cornerV" "D" (.double u1) ∧ Fld Z h a "com/example/stochastic_ray_tracer/stochasticraytracer/TextureCoordinates" "uGradientX" "D" (.double gx) ∧ Fld Z h a "com/example/stochastic_ray_tracer/stochasticraytracer/TextureCoordinates" "uGradientY" "D" (.double gy) ∧ Fld Z h a "com/example/stochastic_ray_tracer/stochasticraytracer/TextureCoordinates" "uGradientZ" "D" (.double gz) ∧ Fld Z h a "com/example/stochastic_ray_tracer/stochasticraytracer/TextureCoordinates" "vGradientX" "D" (.double wx) ∧ Fld Z h a "com/example/stochastic_ray_tracer/stochasticraytracer/TextureCoordinates" "vGradientY" "D" (.double wy) ∧ Fld Z h a "com/example/stochastic_ray_tracer/stochasticraytracer/TextureCoordinates" "vGradientZ" "D" (.double wz)
set_option maxRecDepth 65536 in
set_option maxHeartbeats 40000000 in
theorem own_rm6 (l : Launch) (Z : State) (a0 : Array Value) (hw : ∀ d ∈ tables_1, d.before a0 Z = true) (ws : List Jvm.Cond) (a : Addr) (f : Addr) (ea : Addr) (eb : Addr) (uv : Addr) (fx : UInt64) (fy : UInt64) (fz : UInt64) (xa : UInt64) (ya : UInt64) (za : UInt64) (xb : UInt64) (yb : UInt64) (zb : UInt64) (u0 : UInt64) (u1 : UInt64) (u2 : UInt64) (u3 : UInt64) (u4 : UInt64) (u5 : UInt64) (kA : ClassId) (av : UInt64) (bv : UInt64) (cv : UInt64) (iv : UInt64) (ck : UInt64) (bk : UInt64) (ak : UInt64) (sx : UInt64) (sy : UInt64) (sz : UInt64) (tx : UInt64) (ty : UInt64) (tz : UInt64) (du2 : UInt64) (du3 : UInt64) (dv2 : UInt64) (dv3 : UInt64) (gx : UInt64) (gy : UInt64) (gz : UInt64) (wx : UInt64) (wy : UInt64) (wz : UInt64) (h0 : Heap) (n0 : Nat) (Z0 : n0 ≤ h0.size) (c0 : Exa Z h0 a "com/example/stochastic_ray_tracer/stochasticraytracer/TextureCoordinates") (c1 : Fld Z h0 a "com/example/stochastic_ray_tracer/stochasticraytracer/TextureCoordinates" "cornerX" "D" (.double (0 : UInt64))) (c2 : Fld Z h0 a "com/example/stochastic_ray_tracer/stochasticraytracer/TextureCoordinates" "cornerY" "D" (.double (0 : UInt64))) (c3 : Fld Z h0 a "com/example/stochastic_ray_tracer/stochasticraytracer/TextureCoordinates" "cornerZ" "D" (.double (0 : UInt64))) (c4 : Fld Z h0 a "com/example/stochastic_ray_tracer/stochasticraytracer/TextureCoordinates" "cornerU" "D" (.double (0 : UInt64))) (c5 : Fld Z h0 a "com/example/stochastic_ray_tracer/stochasticraytracer/TextureCoordinates" "cornerV" "D" (.double (0 : UInt64))) (c6 : Fld Z h0 a "com/example/stochastic_ray_tracer/stochasticraytracer/TextureCoordinates" "uGradientX" "D" (.double (0 : UInt64))) (c7 : Fld Z h0 a "com/example/stochastic_ray_tracer/stochasticraytracer/TextureCoordinates" "uGradientY" "D" (.double (0 : UInt64))) (c8 : Fld Z h0 a "com/example/stochastic_ray_tracer/stochasticraytracer/TextureCoordinates" "uGradientZ" "D" (.double (0 : UInt64))) (c9 : Fld Z h0 a "com/example/stochastic_ray_tracer/stochasticraytracer/TextureCoordinates" "vGradientX" "D" (.double (0 : UInt64))) (c10 : Fld Z h0 a "com/example/stochastic_ray_tracer/stochasticraytracer/TextureCoordinates" "vGradientY" "D" (.double (0 : UInt64))) (c11 : Fld Z h0 a "com/example/stochastic_ray_tracer/stochasticraytracer/TextureCoordinates" "vGradientZ" "D" (.double (0 : UInt64))) (c12 : n0 ≤ a) (c13 : Exa Z h0 f "com/example/stochastic_ray_tracer/stochasticraytracer/Vec3") (c14 : Exa Z h0 ea "com/example/stochastic_ray_tracer/stochasticraytracer/Vec3") (c15 : Exa Z h0 eb "com/example/stochastic_ray_tracer/stochasticraytracer/Vec3") (c16 : Fld Z h0 f "com/example/stochastic_ray_tracer/stochasticraytracer/Vec3" "x" "D" (.double fx)) (c17 : Fld Z h0 f "com/example/stochastic_ray_tracer/stochasticraytracer/Vec3" "y" "D" (.double fy)) (c18 : Fld Z h0 f "com/example/stochastic_ray_tracer/stochasticraytracer/Vec3" "z" "D" (.double fz)) (c19 : Fld Z h0 ea "com/example/stochastic_ray_tracer/stochasticraytracer/Vec3" "x" "D" (.double xa)) (c20 : Fld Z h0 ea "com/example/stochastic_ray_tracer/stochasticraytracer/Vec3" "y" "D" (.double ya)) (c21 : Fld Z h0 ea "com/example/stochastic_ray_tracer/stochasticraytracer/Vec3" "z" "D" (.double za)) (c22 : Fld Z h0 eb "com/example/stochastic_ray_tracer/stochasticraytracer/Vec3" "x" "D" (.double xb)) (c23 : Fld Z h0 eb "com/example/stochastic_ray_tracer/stochasticraytracer/Vec3" "y" "D" (.double yb)) (c24 : Fld Z h0 eb "com/example/stochastic_ray_tracer/stochasticraytracer/Vec3" "z" "D" (.double zb)) (c25 : Arv Z h0 uv kA .double (6 : Int32) [(.double u0), (.double u1), (.double u2), (.double u3), (.double u4), (.double u5)] (.double (0 : UInt64))) (ne_f : f ≠ a) (ne_ea : ea ≠ a) (ne_eb : eb ≠ a) (ne_uv : uv ≠ a) (E_av : (FP.dadd (FP.dadd (FP.dmul xa xa) (FP.dmul ya ya)) (FP.dmul za za)) = av) (E_bv : (FP.dadd (FP.dadd (FP.dmul xa xb) (FP.dmul ya yb)) (FP.dmul za zb)) = bv) (E_cv : (FP.dadd (FP.dadd (FP.dmul xb xb) (FP.dmul yb yb)) (FP.dmul zb zb)) = cv) (E_iv : (FP.ddiv (4607182418800017408 : UInt64) (FP.dsub (FP.dmul av cv) (FP.dmul bv bv))) = iv) (E_ck : (FP.dmul cv iv) = ck) (E_bk : (FP.dmul bv iv) = bk) (E_ak : (FP.dmul av iv) = ak) (E_sx : (FP.dsub (FP.dmul xa ck) (FP.dmul xb bk)) = sx) (E_sy : (FP.dsub (FP.dmul ya ck) (FP.dmul yb bk)) = sy) (E_sz : (FP.dsub (FP.dmul za ck) (FP.dmul zb bk)) = sz) (E_tx : (FP.dsub (FP.dmul xb ak) (FP.dmul xa bk)) = tx) (E_ty : (FP.dsub (FP.dmul yb ak) (FP.dmul ya bk)) = ty) (E_tz : (FP.dsub (FP.dmul zb ak) (FP.dmul za bk)) = tz) (E_du2 : (FP.dsub u2 u0) = du2) (E_du3 : (FP.dsub u4 u0) = du3) (E_dv2 : (FP.dsub u3 u1) = dv2) (E_dv3 : (FP.dsub u5 u1) = dv3) (E_gx : (FP.dadd (FP.dmul sx du2) (FP.dmul tx du3)) = gx) (E_gy : (FP.dadd (FP.dmul sy du2) (FP.dmul ty du3)) = gy) (E_gz : (FP.dadd (FP.dmul sz du2) (FP.dmul tz du3)) = gz) (E_wx : (FP.dadd (FP.dmul sx dv2) (FP.dmul tx dv3)) = wx) (E_wy : (FP.dadd (FP.dmul sy dv2) (FP.dmul ty dv3)) = wy) (E_wz : (FP.dadd (FP.dmul sz dv2) (FP.dmul tz dv3)) = wz) (nn46_nn8 : Jvm.Free.Fl.NoNaN64 (FP.dmul xa xa)) (nn46_nn17 : Jvm.Free.Fl.NoNaN64 (FP.dmul ya ya)) (nn46_nn18 : Jvm.Free.Fl.NoNaN64 (FP.dadd (FP.dmul xa xa) (FP.dmul ya ya))) (nn46_nn27 : Jvm.Free.Fl.NoNaN64 (FP.dmul za za)) (nn46_nn28 : Jvm.Free.Fl.NoNaN64 (FP.dadd (FP.dadd (FP.dmul xa xa) (FP.dmul ya ya)) (FP.dmul za za))) (nn53_nn8 : Jvm.Free.Fl.NoNaN64 (FP.dmul xa xb)) (nn53_nn17 : Jvm.Free.Fl.NoNaN64 (FP.dmul ya yb)) (nn53_nn18 : Jvm.Free.Fl.NoNaN64 (FP.dadd (FP.dmul xa xb) (FP.dmul ya yb))) (nn53_nn27 : Jvm.Free.Fl.NoNaN64 (FP.dmul za zb)) (nn53_nn28 : Jvm.Free.Fl.NoNaN64 (FP.dadd (FP.dadd (FP.dmul xa xb) (FP.dmul ya yb)) (FP.dmul za zb))) (nn60_nn8 : Jvm.Free.Fl.NoNaN64 (FP.dmul xb xb)) (nn60_nn17 : Jvm.Free.Fl.NoNaN64 (FP.dmul yb yb)) (nn60_nn18 : Jvm.Free.Fl.NoNaN64 (FP.dadd (FP.dmul xb xb) (FP.dmul yb yb))) (nn60_nn27 : Jvm.Free.Fl.NoNaN64 (FP.dmul zb zb)) (nn60_nn28 : Jvm.Free.Fl.NoNaN64 (FP.dadd (FP.dadd (FP.dmul xb xb) (FP.dmul yb yb)) (FP.dmul zb zb))) (nn70 : Jvm.Free.Fl.NoNaN64 (FP.dmul av cv)) (nn75 : Jvm.Free.Fl.NoNaN64 (FP.dmul bv bv)) (nn76 : Jvm.Free.Fl.NoNaN64 (FP.dsub (FP.dmul av cv) (FP.dmul bv bv))) (nn77 : Jvm.Free.Fl.NoNaN64 (FP.ddiv (4607182418800017408 : UInt64) (FP.dsub (FP.dmul av cv) (FP.dmul bv bv)))) (nn85 : Jvm.Free.Fl.NoNaN64 (FP.dmul cv iv)) (nn86_nn9 : Jvm.Free.Fl.NoNaN64 (FP.dmul xa ck)) (nn86_nn15 : Jvm.Free.Fl.NoNaN64 (FP.dmul ya ck)) (nn86_nn21 : Jvm.Free.Fl.NoNaN64 (FP.dmul za ck)) (nn94 : Jvm.Free.Fl.NoNaN64 (FP.dmul bv iv)) (nn95_nn9 : Jvm.Free.Fl.NoNaN64 (FP.dmul xb bk)) (nn95_nn15 : Jvm.Free.Fl.NoNaN64 (FP.dmul yb bk)) (nn95_nn21 : Jvm.Free.Fl.NoNaN64 (FP.dmul zb bk)) (nn98_nn12 : Jvm.Free.Fl.NoNaN64 (FP.dsub (FP.dmul xa ck) (FP.dmul xb bk))) (nn98_nn21 : Jvm.Free.Fl.NoNaN64 (FP.dsub (FP.dmul ya ck) (FP.dmul yb bk))) (nn98_nn30 : Jvm.Free.Fl.NoNaN64 (FP.dsub (FP.dmul za ck) (FP.dmul zb bk))) (nn108 : Jvm.Free.Fl.NoNaN64 (FP.dmul av iv)) (nn109_nn9 : Jvm.Free.Fl.NoNaN64 (FP.dmul xb ak)) (nn109_nn15 : Jvm.Free.Fl.NoNaN64 (FP.dmul yb ak)) (nn109_nn21 : Jvm.Free.Fl.NoNaN64 (FP.dmul zb ak)) (nn117 : Jvm.Free.Fl.NoNaN64 (FP.dmul bv iv)) (nn118_nn9 : Jvm.Free.Fl.NoNaN64 (FP.dmul xa bk)) (nn118_nn15 : Jvm.Free.Fl.NoNaN64 (FP.dmul ya bk)) (nn118_nn21 : Jvm.Free.Fl.NoNaN64 (FP.dmul za bk)) (nn121_nn12 : Jvm.Free.Fl.NoNaN64 (FP.dsub (FP.dmul xb ak) (FP.dmul xa bk))) (nn121_nn21 : Jvm.Free.Fl.NoNaN64 (FP.dsub (FP.dmul yb ak) (FP.dmul ya bk))) (nn121_nn30 : Jvm.Free.Fl.NoNaN64 (FP.dsub (FP.dmul zb ak) (FP.dmul za bk))) (nn136 : Jvm.Free.Fl.NoNaN64 (FP.dsub u2 u0)) (nn137_nn9 : Jvm.Free.Fl.NoNaN64 (FP.dmul sx du2)) (nn137_nn15 : Jvm.Free.Fl.NoNaN64 (FP.dmul sy du2)) (nn137_nn21 : Jvm.Free.Fl.NoNaN64 (FP.dmul sz du2)) (nn150 : Jvm.Free.Fl.NoNaN64 (FP.dsub u4 u0)) (nn151_nn9 : Jvm.Free.Fl.NoNaN64 (FP.dmul tx du3)) (nn151_nn15 : Jvm.Free.Fl.NoNaN64 (FP.dmul ty du3)) (nn151_nn21 : Jvm.Free.Fl.NoNaN64 (FP.dmul tz du3)) (nn154_nn12 : Jvm.Free.Fl.NoNaN64 (FP.dadd (FP.dmul sx du2) (FP.dmul tx du3))) (nn154_nn21 : Jvm.Free.Fl.NoNaN64 (FP.dadd (FP.dmul sy du2) (FP.dmul ty du3))) (nn154_nn30 : Jvm.Free.Fl.NoNaN64 (FP.dadd (FP.dmul sz du2) (FP.dmul tz du3))) (nn169 : Jvm.Free.Fl.NoNaN64 (FP.dsub u3 u1)) (nn170_nn9 : Jvm.Free.Fl.NoNaN64 (FP.dmul sx dv2)) (nn170_nn15 : Jvm.Free.Fl.NoNaN64 (FP.dmul sy dv2)) (nn170_nn21 : Jvm.Free.Fl.NoNaN64 (FP.dmul sz dv2)) (nn183 : Jvm.Free.Fl.NoNaN64 (FP.dsub u5 u1)) (nn184_nn9 : Jvm.Free.Fl.NoNaN64 (FP.dmul tx dv3)) (nn184_nn15 : Jvm.Free.Fl.NoNaN64 (FP.dmul ty dv3)) (nn184_nn21 : Jvm.Free.Fl.NoNaN64 (FP.dmul tz dv3)) (nn187_nn12 : Jvm.Free.Fl.NoNaN64 (FP.dadd (FP.dmul sx dv2) (FP.dmul tx dv3))) (nn187_nn21 : Jvm.Free.Fl.NoNaN64 (FP.dadd (FP.dmul sy dv2) (FP.dmul ty dv3))) (nn187_nn30 : Jvm.Free.Fl.NoNaN64 (FP.dadd (FP.dmul sz dv2) (FP.dmul tz dv3))) :
    Con l Z (⟨"com/example/stochastic_ray_tracer/stochasticraytracer/TextureCoordinates", "<init>", "(Lcom/example/stochastic_ray_tracer/stochasticraytracer/Vec3;Lcom/example/stochastic_ray_tracer/stochasticraytracer/Vec3;Lcom/example/stochastic_ray_tracer/stochasticraytracer/Vec3;[D)V"⟩ : MethodName) prog_68_method_1_code 17 none ws ({ frames := 3, cells := 12, slots := 36, locals := 46 } : Room) #[(.ref a), (.ref f), (.ref ea), (.ref eb), (.ref uv)] h0 (own_Q6 Z a f ea eb uv fx fy fz xa ya za xb yb zb u0 u1 u2 u3 u4 u5 kA av bv cv iv ck bk ak sx sy sz tx ty tz du2 du3 dv2 dv3 gx gy gz wx wy wz h0 n0) := by
  refine Con.start #[.val (.ref a), .val (.ref f), .val (.ref ea), .val (.ref eb), .val (.ref uv), .unset, .unset, .unset, .unset, .unset, .unset, .unset, .unset, .unset, .unset, .unset, .unset] (plainFor_of_name own_pn2) (fun m => by first | (refine own_ef ?_; exact rfl) | (simp [entryFrame, mkF, argsToLocals, Value.category]; done) | rfl) ?_
  intro p e s m below meth c s₁ P X0 hx hby hml hret hlk hown hnm hZ e0 hf
  have hml : c.maxLocals = 17 := hml
  have N0 := Fr.nil n0
  have K0 : Keep h0 h0 [a] := Keep.refl _ _
  refine g_aloadN (pc' := 1) X0 hx hby (v := (.ref a)) own_d6_0 rfl rfl rfl ?_
  refine g_initO (pc' := 4) X0 hx hby hZ hown (hw _ (List.mem_of_getElem? (i := 33) rfl)) (hw _ (List.mem_of_getElem? (i := 8) rfl)) (hw _ (List.mem_of_getElem? (i := 9) rfl)) e0 (by rw [hml]; rfl) rfl own_d6_1 rfl (by decide) (W := 0) rfl (by decide) ?_
  intro T1 X1 e1
  refine g_aloadN (pc' := 5) X1 hx hby (v := (.ref a)) own_d6_4 rfl rfl rfl ?_
  refine g_aloadN (pc' := 6) X1 hx hby (v := (.ref f)) own_d6_5 rfl rfl rfl ?_
  refine g_virt (argsL := []) (pc' := 9) X1 hx hby (by rw [hml]; rfl) hZ hown e1 (own_rm7 l Z a0 hw [] f fx h0 n0 Z0 c16) (hw _ (List.mem_of_getElem? (i := 34) rfl)) (hw _ (List.mem_of_getElem? (i := 35) rfl)) (hw _ (List.mem_of_getElem? (i := 37) rfl)) (hw _ (List.mem_of_getElem? (i := 36) rfl)) (hw _ (List.mem_of_getElem? (i := 3) rfl)) (hw _ (List.mem_of_getElem? (i := 38) rfl)) (by decide) c13 own_pd1 rfl rfl (W := 1) rfl (by decide) (by decide) (by decide) (by decide) own_d6_6 rfl ?_
  intro T2 v2 L2 X2 qq2
  obtain ⟨rfl, n2, e2⟩ := qq2
  have N2 := Fr.app N0 n2
  show Gf p e below P T2 m 9 #[.val (.ref a), .val (.ref f), .val (.ref ea), .val (.ref eb), .val (.ref uv), .unset, .unset, .unset, .unset, .unset, .unset, .unset, .unset, .unset, .unset, .unset, .unset] [(.double fx), (.ref a)]
  refine g_putF (pc' := 12) X2 hx hby hZ hown (host := "") (Or.inl (hw _ (List.mem_of_getElem? (i := 39) rfl))) Via.refl e2 c1 c0 (Or.inr ⟨(hw _ (List.mem_of_getElem? (i := 40) rfl)), rfl, hnm⟩) (hw _ (List.mem_of_getElem? (i := 28) rfl)) (ty := .double) own_fd0 rfl rfl rfl own_d6_9 rfl N2 c12 ?_
  intro T3 h3 X3 e3 W3 N3
  have f4 := c0.wr W3
  have f5 := c1.same W3
  have f6 := c2.other W3 (Or.inr (slot_ne (Or.inr (hw _ (List.mem_of_getElem? (i := 47) rfl))) (Or.inr (hw _ (List.mem_of_getElem? (i := 40) rfl))) own_nes6 own_fd0 own_fd0))
  have f7 := c3.other W3 (Or.inr (slot_ne (Or.inr (hw _ (List.mem_of_getElem? (i := 54) rfl))) (Or.inr (hw _ (List.mem_of_getElem? (i := 40) rfl))) own_nes7 own_fd0 own_fd0))
  have f8 := c4.other W3 (Or.inr (slot_ne (Or.inr (hw _ (List.mem_of_getElem? (i := 56) rfl))) (Or.inr (hw _ (List.mem_of_getElem? (i := 40) rfl))) own_nes8 own_fd0 own_fd0))
  have f9 := c5.other W3 (Or.inr (slot_ne (Or.inr (hw _ (List.mem_of_getElem? (i := 58) rfl))) (Or.inr (hw _ (List.mem_of_getElem? (i := 40) rfl))) own_nes9 own_fd0 own_fd0))
  have f10 := c6.other W3 (Or.inr (slot_ne (Or.inr (hw _ (List.mem_of_getElem? (i := 82) rfl))) (Or.inr (hw _ (List.mem_of_getElem? (i := 40) rfl))) own_nes10 own_fd0 own_fd0))
  have f11 := c7.other W3 (Or.inr (slot_ne (Or.inr (hw _ (List.mem_of_getElem? (i := 84) rfl))) (Or.inr (hw _ (List.mem_of_getElem? (i := 40) rfl))) own_nes11 own_fd0 own_fd0))
  have f12 := c8.other W3 (Or.inr (slot_ne (Or.inr (hw _ (List.mem_of_getElem? (i := 86) rfl))) (Or.inr (hw _ (List.mem_of_getElem? (i := 40) rfl))) own_nes12 own_fd0 own_fd0))
  have f13 := c9.other W3 (Or.inr (slot_ne (Or.inr (hw _ (List.mem_of_getElem? (i := 88) rfl))) (Or.inr (hw _ (List.mem_of_getElem? (i := 40) rfl))) own_nes13 own_fd0 own_fd0))
  have f14 := c10.other W3 (Or.inr (slot_ne (Or.inr (hw _ (List.mem_of_getElem? (i := 90) rfl))) (Or.inr (hw _ (List.mem_of_getElem? (i := 40) rfl))) own_nes14 own_fd0 own_fd0))
  have f15 := c11.other W3 (Or.inr (slot_ne (Or.inr (hw _ (List.mem_of_getElem? (i := 92) rfl))) (Or.inr (hw _ (List.mem_of_getElem? (i := 40) rfl))) own_nes15 own_fd0 own_fd0))
  have f16 := c13.wr W3
  have f17 := c14.wr W3
  have f18 := c15.wr W3
  have f19 := c16.other W3 (Or.inl ne_f)
  have f20 := c17.other W3 (Or.inl ne_f)
  have f21 := c18.other W3 (Or.inl ne_f)
  have f22 := c19.other W3 (Or.inl ne_ea)
  have f23 := c20.other W3 (Or.inl ne_ea)
  have f24 := c21.other W3 (Or.inl ne_ea)
  have f25 := c22.other W3 (Or.inl ne_eb)
  have f26 := c23.other W3 (Or.inl ne_eb)
  have f27 := c24.other W3 (Or.inl ne_eb)
  have f28 := c25.other W3 ne_uv
  have z3 := Nat.le_trans Z0 (Keep.of_wr W3).1
  have K3 := K0.wr W3 (Or.inl (List.mem_of_getElem? (i := 0) rfl))
  refine g_aloadN (pc' := 13) X3 hx hby (v := (.ref a)) own_d6_12 rfl rfl rfl ?_
  refine g_aloadN (pc' := 14) X3 hx hby (v := (.ref f)) own_d6_13 rfl rfl rfl ?_
  refine g_virt (argsL := []) (pc' := 17) X3 hx hby (by rw [hml]; rfl) hZ hown e3 (own_rm8 l Z a0 hw [] f fy h3 n0 z3 f20) (hw _ (List.mem_of_getElem? (i := 41) rfl)) (hw _ (List.mem_of_getElem? (i := 42) rfl)) (hw _ (List.mem_of_getElem? (i := 44) rfl)) (hw _ (List.mem_of_getElem? (i := 43) rfl)) (hw _ (List.mem_of_getElem? (i := 3) rfl)) (hw _ (List.mem_of_getElem? (i := 45) rfl)) (by decide) f16 own_pd1 rfl rfl (W := 1) rfl (by decide) (by decide) (by decide) (by decide) own_d6_14 rfl ?_
  intro T29 v29 L29 X29 qq29
  obtain ⟨rfl, n29, e29⟩ := qq29
  have N29 := Fr.app N3 n29
  show Gf p e below P T29 m 17 #[.val (.ref a), .val (.ref f), .val (.ref ea), .val (.ref eb), .val (.ref uv), .unset, .unset, .unset, .unset, .unset, .unset, .unset, .unset, .unset, .unset, .unset, .unset] [(.double fy), (.ref a)]
  refine g_putF (pc' := 20) X29 hx hby hZ hown (host := "") (Or.inl (hw _ (List.mem_of_getElem? (i := 46) rfl))) Via.refl e29 f6 f4 (Or.inr ⟨(hw _ (List.mem_of_getElem? (i := 47) rfl)), rfl, hnm⟩) (hw _ (List.mem_of_getElem? (i := 28) rfl)) (ty := .double) own_fd0 rfl rfl rfl own_d6_17 rfl N29 c12 ?_
  intro T30 h30 X30 e30 W30 N30
  have f31 := f4.wr W30
  have f32 := f5.other W30 (Or.inr (slot_ne (Or.inr (hw _ (List.mem_of_getElem? (i := 40) rfl))) (Or.inr (hw _ (List.mem_of_getElem? (i := 47) rfl))) own_nes16 own_fd0 own_fd0))
  have f33 := f6.same W30
  have f34 := f7.other W30 (Or.inr (slot_ne (Or.inr (hw _ (List.mem_of_getElem? (i := 54) rfl))) (Or.inr (hw _ (List.mem_of_getElem? (i := 47) rfl))) own_nes17 own_fd0 own_fd0))
  have f35 := f8.other W30 (Or.inr (slot_ne (Or.inr (hw _ (List.mem_of_getElem? (i := 56) rfl))) (Or.inr (hw _ (List.mem_of_getElem? (i := 47) rfl))) own_nes18 own_fd0 own_fd0))
  have f36 := f9.other W30 (Or.inr (slot_ne (Or.inr (hw _ (List.mem_of_getElem? (i := 58) rfl))) (Or.inr (hw _ (List.mem_of_getElem? (i := 47) rfl))) own_nes19 own_fd0 own_fd0))
  have f37 := f10.other W30 (Or.inr (slot_ne (Or.inr (hw _ (List.mem_of_getElem? (i := 82) rfl))) (Or.inr (hw _ (List.mem_of_getElem? (i := 47) rfl))) own_nes20 own_fd0 own_fd0))
  have f38 := f11.other W30 (Or.inr (slot_ne (Or.inr (hw _ (List.mem_of_getElem? (i := 84) rfl))) (Or.inr (hw _ (List.mem_of_getElem? (i := 47) rfl))) own_nes21 own_fd0 own_fd0))
  have f39 := f12.other W30 (Or.inr (slot_ne (Or.inr (hw _ (List.mem_of_getElem? (i := 86) rfl))) (Or.inr (hw _ (List.mem_of_getElem? (i := 47) rfl))) own_nes22 own_fd0 own_fd0))
  have f40 := f13.other W30 (Or.inr (slot_ne (Or.inr (hw _ (List.mem_of_getElem? (i := 88) rfl))) (Or.inr (hw _ (List.mem_of_getElem? (i := 47) rfl))) own_nes23 own_fd0 own_fd0))
  have f41 := f14.other W30 (Or.inr (slot_ne (Or.inr (hw _ (List.mem_of_getElem? (i := 90) rfl))) (Or.inr (hw _ (List.mem_of_getElem? (i := 47) rfl))) own_nes24 own_fd0 own_fd0))
  have f42 := f15.other W30 (Or.inr (slot_ne (Or.inr (hw _ (List.mem_of_getElem? (i := 92) rfl))) (Or.inr (hw _ (List.mem_of_getElem? (i := 47) rfl))) own_nes25 own_fd0 own_fd0))
  have f43 := f16.wr W30
  have f44 := f17.wr W30
  have f45 := f18.wr W30
  have f46 := f19.other W30 (Or.inl ne_f)
  have f47 := f20.other W30 (Or.inl ne_f)
  have f48 := f21.other W30 (Or.inl ne_f)
  have f49 := f22.other W30 (Or.inl ne_ea)
  have f50 := f23.other W30 (Or.inl ne_ea)
  have f51 := f24.other W30 (Or.inl ne_ea)
  have f52 := f25.other W30 (Or.inl ne_eb)
  have f53 := f26.other W30 (Or.inl ne_eb)
  have f54 := f27.other W30 (Or.inl ne_eb)
  have f55 := f28.other W30 ne_uv
  have z30 := Nat.le_trans z3 (Keep.of_wr W30).1
  have K30 := K3.wr W30 (Or.inl (List.mem_of_getElem? (i := 0) rfl))
  refine g_aloadN (pc' := 21) X30 hx hby (v := (.ref a)) own_d6_20 rfl rfl rfl ?_
  refine g_aloadN (pc' := 22) X30 hx hby (v := (.ref f)) own_d6_21 rfl rfl rfl ?_
  refine g_virt (argsL := []) (pc' := 25) X30 hx hby (by rw [hml]; rfl) hZ hown e30 (own_rm9 l Z a0 hw [] f fz h30 n0 z30 f48) (hw _ (List.mem_of_getElem? (i := 48) rfl)) (hw _ (List.mem_of_getElem? (i := 49) rfl)) (hw _ (List.mem_of_getElem? (i := 51) rfl)) (hw _ (List.mem_of_getElem? (i := 50) rfl)) (hw _ (List.mem_of_getElem? (i := 3) rfl)) (hw _ (List.mem_of_getElem? (i := 52) rfl)) (by decide) f43 own_pd1 rfl rfl (W := 1) rfl (by decide) (by decide) (by decide) (by decide) own_d6_22 rfl ?_
  intro T56 v56 L56 X56 qq56
  obtain ⟨rfl, n56, e56⟩ := qq56
  have N56 := Fr.app N30 n56
  show Gf p e below P T56 m 25 #[.val (.ref a), .val (.ref f), .val (.ref ea), .val (.ref eb), .val (.ref uv), .unset, .unset, .unset, .unset, .unset, .unset, .unset, .unset, .unset, .unset, .unset, .unset] [(.double fz), (.ref a)]
  refine g_putF (pc' := 28) X56 hx hby hZ hown (host := "") (Or.inl (hw _ (List.mem_of_getElem? (i := 53) rfl))) Via.refl e56 f34 f31 (Or.inr ⟨(hw _ (List.mem_of_getElem? (i := 54) rfl)), rfl, hnm⟩) (hw _ (List.mem_of_getElem? (i := 28) rfl)) (ty := .double) own_fd0 rfl rfl rfl own_d6_25 rfl N56 c12 ?_
  intro T57 h57 X57 e57 W57 N57
  have f58 := f31.wr W57
  have f59 := f32.other W57 (Or.inr (slot_ne (Or.inr (hw _ (List.mem_of_getElem? (i := 40) rfl))) (Or.inr (hw _ (List.mem_of_getElem? (i := 54) rfl))) own_nes26 own_fd0 own_fd0))
  have f60 := f33.other W57 (Or.inr (slot_ne (Or.inr (hw _ (List.mem_of_getElem? (i := 47) rfl))) (Or.inr (hw _ (List.mem_of_getElem? (i := 54) rfl))) own_nes27 own_fd0 own_fd0))
  have f61 := f34.same W57
  have f62 := f35.other W57 (Or.inr (slot_ne (Or.inr (hw _ (List.mem_of_getElem? (i := 56) rfl))) (Or.inr (hw _ (List.mem_of_getElem? (i := 54) rfl))) own_nes28 own_fd0 own_fd0))
  have f63 := f36.other W57 (Or.inr (slot_ne (Or.inr (hw _ (List.mem_of_getElem? (i := 58) rfl))) (Or.inr (hw _ (List.mem_of_getElem? (i := 54) rfl))) own_nes29 own_fd0 own_fd0))
  have f64 := f37.other W57 (Or.inr (slot_ne (Or.inr (hw _ (List.mem_of_getElem? (i := 82) rfl))) (Or.inr (hw _ (List.mem_of_getElem? (i := 54) rfl))) own_nes30 own_fd0 own_fd0))
  have f65 := f38.other W57 (Or.inr (slot_ne (Or.inr (hw _ (List.mem_of_getElem? (i := 84) rfl))) (Or.inr (hw _ (List.mem_of_getElem? (i := 54) rfl))) own_nes31 own_fd0 own_fd0))
  have f66 := f39.other W57 (Or.inr (slot_ne (Or.inr (hw _ (List.mem_of_getElem? (i := 86) rfl))) (Or.inr (hw _ (List.mem_of_getElem? (i := 54) rfl))) own_nes32 own_fd0 own_fd0))
  have f67 := f40.other W57 (Or.inr (slot_ne (Or.inr (hw _ (List.mem_of_getElem? (i := 88) rfl))) (Or.inr (hw _ (List.mem_of_getElem? (i := 54) rfl))) own_nes33 own_fd0 own_fd0))
  have f68 := f41.other W57 (Or.inr (slot_ne (Or.inr (hw _ (List.mem_of_getElem? (i := 90) rfl))) (Or.inr (hw _ (List.mem_of_getElem? (i := 54) rfl))) own_nes34 own_fd0 own_fd0))
  have f69 := f42.other W57 (Or.inr (slot_ne (Or.inr (hw _ (List.mem_of_getElem? (i := 92) rfl))) (Or.inr (hw _ (List.mem_of_getElem? (i := 54) rfl))) own_nes35 own_fd0 own_fd0))
  have f70 := f43.wr W57
  have f71 := f44.wr W57
  have f72 := f45.wr W57
  have f73 := f46.other W57 (Or.inl ne_f)
  have f74 := f47.other W57 (Or.inl ne_f)
  have f75 := f48.other W57 (Or.inl ne_f)
  have f76 := f49.other W57 (Or.inl ne_ea)
  have f77 := f50.other W57 (Or.inl ne_ea)
  have f78 := f51.other W57 (Or.inl ne_ea)
  have f79 := f52.other W57 (Or.inl ne_eb)
  have f80 := f53.other W57 (Or.inl ne_eb)
  have f81 := f54.other W57 (Or.inl ne_eb)
  have f82 := f55.other W57 ne_uv
  have z57 := Nat.le_trans z30 (Keep.of_wr W57).1
  have K57 := K30.wr W57 (Or.inl (List.mem_of_getElem? (i := 0) rfl))
  refine g_aloadN (pc' := 29) X57 hx hby (v := (.ref a)) own_d6_28 rfl rfl rfl ?_
  refine g_aload (pc' := 31) X57 hx hby (v := (.ref uv)) own_d6_29 rfl rfl rfl ?_
  refine g_iconst (pc' := 32) (v := (0 : Int32)) X57 hx hby own_d6_31 rfl rfl ?_
  refine g_ldD (pc' := 33) X57 hx hby hZ (v := u0) e57 f82 ⟨by decide, by decide⟩ rfl rfl own_d6_32 rfl ?_
  refine g_putF (pc' := 36) X57 hx hby hZ hown (host := "") (Or.inl (hw _ (List.mem_of_getElem? (i := 55) rfl))) Via.refl e57 f62 f58 (Or.inr ⟨(hw _ (List.mem_of_getElem? (i := 56) rfl)), rfl, hnm⟩) (hw _ (List.mem_of_getElem? (i := 28) rfl)) (ty := .double) own_fd0 rfl rfl rfl own_d6_33 rfl N57 c12 ?_
  intro T83 h83 X83 e83 W83 N83
  have f84 := f58.wr W83
  have f85 := f59.other W83 (Or.inr (slot_ne (Or.inr (hw _ (List.mem_of_getElem? (i := 40) rfl))) (Or.inr (hw _ (List.mem_of_getElem? (i := 56) rfl))) own_nes36 own_fd0 own_fd0))
  have f86 := f60.other W83 (Or.inr (slot_ne (Or.inr (hw _ (List.mem_of_getElem? (i := 47) rfl))) (Or.inr (hw _ (List.mem_of_getElem? (i := 56) rfl))) own_nes37 own_fd0 own_fd0))
  have f87 := f61.other W83 (Or.inr (slot_ne (Or.inr (hw _ (List.mem_of_getElem? (i := 54) rfl))) (Or.inr (hw _ (List.mem_of_getElem? (i := 56) rfl))) own_nes38 own_fd0 own_fd0))
  have f88 := f62.same W83
  have f89 := f63.other W83 (Or.inr (slot_ne (Or.inr (hw _ (List.mem_of_getElem? (i := 58) rfl))) (Or.inr (hw _ (List.mem_of_getElem? (i := 56) rfl))) own_nes39 own_fd0 own_fd0))
  have f90 := f64.other W83 (Or.inr (slot_ne (Or.inr (hw _ (List.mem_of_getElem? (i := 82) rfl))) (Or.inr (hw _ (List.mem_of_getElem? (i := 56) rfl))) own_nes40 own_fd0 own_fd0))
  have f91 := f65.other W83 (Or.inr (slot_ne (Or.inr (hw _ (List.mem_of_getElem? (i := 84) rfl))) (Or.inr (hw _ (List.mem_of_getElem? (i := 56) rfl))) own_nes41 own_fd0 own_fd0))
  have f92 := f66.other W83 (Or.inr (slot_ne (Or.inr (hw _ (List.mem_of_getElem? (i := 86) rfl))) (Or.inr (hw _ (List.mem_of_getElem? (i := 56) rfl))) own_nes42 own_fd0 own_fd0))
  have f93 := f67.other W83 (Or.inr (slot_ne (Or.inr (hw _ (List.mem_of_getElem? (i := 88) rfl))) (Or.inr (hw _ (List.mem_of_getElem? (i := 56) rfl))) own_nes43 own_fd0 own_fd0))
  have f94 := f68.other W83 (Or.inr (slot_ne (Or.inr (hw _ (List.mem_of_getElem? (i := 90) rfl))) (Or.inr (hw _ (List.mem_of_getElem? (i := 56) rfl))) own_nes44 own_fd0 own_fd0))
  have f95 := f69.other W83 (Or.inr (slot_ne (Or.inr (hw _ (List.mem_of_getElem? (i := 92) rfl))) (Or.inr (hw _ (List.mem_of_getElem? (i := 56) rfl))) own_nes45 own_fd0 own_fd0))
  have f96 := f70.wr W83
  have f97 := f71.wr W83
  have f98 := f72.wr W83
  have f99 := f73.other W83 (Or.inl ne_f)
  have f100 := f74.other W83 (Or.inl ne_f)
  have f101 := f75.other W83 (Or.inl ne_f)
  have f102 := f76.other W83 (Or.inl ne_ea)
  have f103 := f77.other W83 (Or.inl ne_ea)
  have f104 := f78.other W83 (Or.inl ne_ea)
  have f105 := f79.other W83 (Or.inl ne_eb)
  have f106 := f80.other W83 (Or.inl ne_eb)
  have f107 := f81.other W83 (Or.inl ne_eb)
  have f108 := f82.other W83 ne_uv
  have z83 := Nat.le_trans z57 (Keep.of_wr W83).1
  have K83 := K57.wr W83 (Or.inl (List.mem_of_getElem? (i := 0) rfl))
  refine g_aloadN (pc' := 37) X83 hx hby (v := (.ref a)) own_d6_36 rfl rfl rfl ?_
  refine g_aload (pc' := 39) X83 hx hby (v := (.ref uv)) own_d6_37 rfl rfl rfl ?_
  refine g_iconst (pc' := 40) (v := (1 : Int32)) X83 hx hby own_d6_39 rfl rfl ?_
  refine g_ldD (pc' := 41) X83 hx hby hZ (v := u1) e83 f108 ⟨by decide, by decide⟩ rfl rfl own_d6_40 rfl ?_
  refine g_putF (pc' := 44) X83 hx hby hZ hown (host := "") (Or.inl (hw _ (List.mem_of_getElem? (i := 57) rfl))) Via.refl e83 f89 f84 (Or.inr ⟨(hw _ (List.mem_of_getElem? (i := 58) rfl)), rfl, hnm⟩) (hw _ (List.mem_of_getElem? (i := 28) rfl)) (ty := .double) own_fd0 rfl rfl rfl own_d6_41 rfl N83 c12 ?_
  intro T109 h109 X109 e109 W109 N109
  have f110 := f84.wr W109
  have f111 := f85.other W109 (Or.inr (slot_ne (Or.inr (hw _ (List.mem_of_getElem? (i := 40) rfl))) (Or.inr (hw _ (List.mem_of_getElem? (i := 58) rfl))) own_nes46 own_fd0 own_fd0))
  have f112 := f86.other W109 (Or.inr (slot_ne (Or.inr (hw _ (List.mem_of_getElem? (i := 47) rfl))) (Or.inr (hw _ (List.mem_of_getElem? (i := 58) rfl))) own_nes47 own_fd0 own_fd0))
  have f113 := f87.other W109 (Or.inr (slot_ne (Or.inr (hw _ (List.mem_of_getElem? (i := 54) rfl))) (Or.inr (hw _ (List.mem_of_getElem? (i := 58) rfl))) own_nes48 own_fd0 own_fd0))
  have f114 := f88.other W109 (Or.inr (slot_ne (Or.inr (hw _ (List.mem_of_getElem? (i := 56) rfl))) (Or.inr (hw _ (List.mem_of_getElem? (i := 58) rfl))) own_nes49 own_fd0 own_fd0))
  have f115 := f89.same W109
  have f116 := f90.other W109 (Or.inr (slot_ne (Or.inr (hw _ (List.mem_of_getElem? (i := 82) rfl))) (Or.inr (hw _ (List.mem_of_getElem? (i := 58) rfl))) own_nes50 own_fd0 own_fd0))
  have f117 := f91.other W109 (Or.inr (slot_ne (Or.inr (hw _ (List.mem_of_getElem? (i := 84) rfl))) (Or.inr (hw _ (List.mem_of_getElem? (i := 58) rfl))) own_nes51 own_fd0 own_fd0))
  have f118 := f92.other W109 (Or.inr (slot_ne (Or.inr (hw _ (List.mem_of_getElem? (i := 86) rfl))) (Or.inr (hw _ (List.mem_of_getElem? (i := 58) rfl))) own_nes52 own_fd0 own_fd0))
  have f119 := f93.other W109 (Or.inr (slot_ne (Or.inr (hw _ (List.mem_of_getElem? (i := 88) rfl))) (Or.inr (hw _ (List.mem_of_getElem? (i := 58) rfl))) own_nes53 own_fd0 own_fd0))
  have f120 := f94.other W109 (Or.inr (slot_ne (Or.inr (hw _ (List.mem_of_getElem? (i := 90) rfl))) (Or.inr (hw _ (List.mem_of_getElem? (i := 58) rfl))) own_nes54 own_fd0 own_fd0))
  have f121 := f95.other W109 (Or.inr (slot_ne (Or.inr (hw _ (List.mem_of_getElem? (i := 92) rfl))) (Or.inr (hw _ (List.mem_of_getElem? (i := 58) rfl))) own_nes55 own_fd0 own_fd0))
  have f122 := f96.wr W109
  have f123 := f97.wr W109
  have f124 := f98.wr W109
  have f125 := f99.other W109 (Or.inl ne_f)
  have f126 := f100.other W109 (Or.inl ne_f)
  have f127 := f101.other W109 (Or.inl ne_f)
  have f128 := f102.other W109 (Or.inl ne_ea)
  have f129 := f103.other W109 (Or.inl ne_ea)
  have f130 := f104.other W109 (Or.inl ne_ea)
  have f131 := f105.other W109 (Or.inl ne_eb)
  have f132 := f106.other W109 (Or.inl ne_eb)
  have f133 := f107.other W109 (Or.inl ne_eb)
  have f134 := f108.other W109 ne_uv
  have z109 := Nat.le_trans z83 (Keep.of_wr W109).1
  have K109 := K83.wr W109 (Or.inl (List.mem_of_getElem? (i := 0) rfl))
  refine g_aloadN (pc' := 45) X109 hx hby (v := (.ref ea)) own_d6_44 rfl rfl rfl ?_
  refine g_aloadN (pc' := 46) X109 hx hby (v := (.ref ea)) own_d6_45 rfl rfl rfl ?_
  refine g_virt (argsL := [(.ref ea)]) (pc' := 49) X109 hx hby (by rw [hml]; rfl) hZ hown e109 (own_rm10 l Z a0 hw [] ea ea xa ya za xa ya za h109 n0 z109 f128 f129 f130 f128 f129 f130 nn46_nn8 nn46_nn17 nn46_nn18 nn46_nn27 nn46_nn28) (hw _ (List.mem_of_getElem? (i := 59) rfl)) (hw _ (List.mem_of_getElem? (i := 60) rfl)) (hw _ (List.mem_of_getElem? (i := 62) rfl)) (hw _ (List.mem_of_getElem? (i := 61) rfl)) (hw _ (List.mem_of_getElem? (i := 3) rfl)) (hw _ (List.mem_of_getElem? (i := 63) rfl)) (by decide) f123 own_pd2 rfl rfl (W := 0) rfl (by decide) (by decide) (by decide) (by decide) own_d6_46 rfl ?_
  intro T135 v135 L135 X135 qq135
  obtain ⟨rfl, n135, e135⟩ := qq135
  have N135 := Fr.app N109 n135
  rw [E_av]
  show Gf p e below P T135 m 49 #[.val (.ref a), .val (.ref f), .val (.ref ea), .val (.ref eb), .val (.ref uv), .unset, .unset, .unset, .unset, .unset, .unset, .unset, .unset, .unset, .unset, .unset, .unset] [(.double av)]
  refine g_dstore (pc' := 51) (Ls' := #[.val (.ref a), .val (.ref f), .val (.ref ea), .val (.ref eb), .val (.ref uv), .val (.double av), .second, .unset, .unset, .unset, .unset, .unset, .unset, .unset, .unset, .unset, .unset]) X135 hx hby own_d6_49 rfl rfl rfl ?_
  refine g_aloadN (pc' := 52) X135 hx hby (v := (.ref ea)) own_d6_51 rfl rfl rfl ?_
  refine g_aloadN (pc' := 53) X135 hx hby (v := (.ref eb)) own_d6_52 rfl rfl rfl ?_
  refine g_virt (argsL := [(.ref eb)]) (pc' := 56) X135 hx hby (by rw [hml]; rfl) hZ hown e135 (own_rm10 l Z a0 hw [] ea eb xa ya za xb yb zb h109 n0 z109 f128 f129 f130 f131 f132 f133 nn53_nn8 nn53_nn17 nn53_nn18 nn53_nn27 nn53_nn28) (hw _ (List.mem_of_getElem? (i := 59) rfl)) (hw _ (List.mem_of_getElem? (i := 60) rfl)) (hw _ (List.mem_of_getElem? (i := 62) rfl)) (hw _ (List.mem_of_getElem? (i := 61) rfl)) (hw _ (List.mem_of_getElem? (i := 3) rfl)) (hw _ (List.mem_of_getElem? (i := 63) rfl)) (by decide) f123 own_pd2 rfl rfl (W := 0) rfl (by decide) (by decide) (by decide) (by decide) own_d6_53 rfl ?_
  intro T136 v136 L136 X136 qq136
  obtain ⟨rfl, n136, e136⟩ := qq136
  have N136 := Fr.app N135 n136
  rw [E_bv]
  show Gf p e below P T136 m 56 #[.val (.ref a), .val (.ref f), .val (.ref ea), .val (.ref eb), .val (.ref uv), .val (.double av), .second, .unset, .unset, .unset, .unset, .unset, .unset, .unset, .unset, .unset, .unset] [(.double bv)]
  refine g_dstore (pc' := 58) (Ls' := #[.val (.ref a), .val (.ref f), .val (.ref ea), .val (.ref eb), .val (.ref uv), .val (.double av), .second, .val (.double bv), .second, .unset, .unset, .unset, .unset, .unset, .unset, .unset, .unset]) X136 hx hby own_d6_56 rfl rfl rfl ?_
  refine g_aloadN (pc' := 59) X136 hx hby (v := (.ref eb)) own_d6_58 rfl rfl rfl ?_
  refine g_aloadN (pc' := 60) X136 hx hby (v := (.ref eb)) own_d6_59 rfl rfl rfl ?_
  refine g_virt (argsL := [(.ref eb)]) (pc' := 63) X136 hx hby (by rw [hml]; rfl) hZ hown e136 (own_rm10 l Z a0 hw [] eb eb xb yb zb xb yb zb h109 n0 z109 f131 f132 f133 f131 f132 f133 nn60_nn8 nn60_nn17 nn60_nn18 nn60_nn27 nn60_nn28) (hw _ (List.mem_of_getElem? (i := 59) rfl)) (hw _ (List.mem_of_getElem? (i := 60) rfl)) (hw _ (List.mem_of_getElem? (i := 62) rfl)) (hw _ (List.mem_of_getElem? (i := 61) rfl)) (hw _ (List.mem_of_getElem? (i := 3) rfl)) (hw _ (List.mem_of_getElem? (i := 63) rfl)) (by decide) f124 own_pd2 rfl rfl (W := 0) rfl (by decide) (by decide) (by decide) (by decide) own_d6_60 rfl ?_
  intro T137 v137 L137 X137 qq137
  obtain ⟨rfl, n137, e137⟩ := qq137
  have N137 := Fr.app N136 n137
  rw [E_cv]
  show Gf p e below P T137 m 63 #[.val (.ref a), .val (.ref f), .val (.ref ea), .val (.ref eb), .val (.ref uv), .val (.double av), .second, .val (.double bv), .second, .unset, .unset, .unset, .unset, .unset, .unset, .unset, .unset] [(.double cv)]
  refine g_dstore (pc' := 65) (Ls' := #[.val (.ref a), .val (.ref f), .val (.ref ea), .val (.ref eb), .val (.ref uv), .val (.double av), .second, .val (.double bv), .second, .val (.double cv), .second, .unset, .unset, .unset, .unset, .unset, .unset]) X137 hx hby own_d6_63 rfl rfl rfl ?_
  refine g_dconst1 (pc' := 66) (v := (4607182418800017408 : UInt64)) X137 hx hby own_d6_65 rfl rfl ?_
  refine g_dload (pc' := 68) X137 hx hby (v := av) own_d6_66 rfl rfl ?_
  refine g_dload (pc' := 70) X137 hx hby (v := cv) own_d6_68 rfl rfl ?_
  refine g_dmul (pc' := 71) (v := (FP.dmul av cv)) X137 hx hby own_d6_70 rfl (nn70) rfl rfl ?_
  refine g_dload (pc' := 73) X137 hx hby (v := bv) own_d6_71 rfl rfl ?_
  refine g_dload (pc' := 75) X137 hx hby (v := bv) own_d6_73 rfl rfl ?_
  refine g_dmul (pc' := 76) (v := (FP.dmul bv bv)) X137 hx hby own_d6_75 rfl (nn75) rfl rfl ?_
  refine g_dsub (pc' := 77) (v := (FP.dsub (FP.dmul av cv) (FP.dmul bv bv))) X137 hx hby own_d6_76 rfl (nn76) rfl rfl ?_
  refine g_ddiv (pc' := 78) (v := iv) X137 hx hby own_d6_77 rfl (nn77) E_iv rfl ?_
  refine g_dstore (pc' := 80) (Ls' := #[.val (.ref a), .val (.ref f), .val (.ref ea), .val (.ref eb), .val (.ref uv), .val (.double av), .second, .val (.double bv), .second, .val (.double cv), .second, .val (.double iv), .second, .unset, .unset, .unset, .unset]) X137 hx hby own_d6_78 rfl rfl rfl ?_
  refine g_aloadN (pc' := 81) X137 hx hby (v := (.ref ea)) own_d6_80 rfl rfl rfl ?_
  refine g_dload (pc' := 83) X137 hx hby (v := cv) own_d6_81 rfl rfl ?_
  refine g_dload (pc' := 85) X137 hx hby (v := iv) own_d6_83 rfl rfl ?_
  refine g_dmul (pc' := 86) (v := ck) X137 hx hby own_d6_85 rfl (nn85) E_ck rfl ?_
  refine g_virt (argsL := [(.double ck)]) (pc' := 89) X137 hx hby (by rw [hml]; rfl) hZ hown e137 (own_rm11 l Z a0 hw [] ea ck xa ya za h109 n0 z109 f128 f129 f130 nn86_nn9 nn86_nn15 nn86_nn21) (hw _ (List.mem_of_getElem? (i := 64) rfl)) (hw _ (List.mem_of_getElem? (i := 65) rfl)) (hw _ (List.mem_of_getElem? (i := 67) rfl)) (hw _ (List.mem_of_getElem? (i := 66) rfl)) (hw _ (List.mem_of_getElem? (i := 3) rfl)) (hw _ (List.mem_of_getElem? (i := 68) rfl)) (by decide) f123 own_pd3 rfl rfl (W := 0) rfl (by decide) (by decide) (by decide) (by decide) own_d6_86 rfl ?_
  intro T138 v138 L138 X138 qq138
  obtain ⟨h138, e138⟩ : ∃ h, T138.heap = h := ⟨_, rfl⟩
  rw [e138] at qq138
  obtain ⟨ta, rfl, n138, k138, p138_0, p138_1, p138_2, p138_3, p138_4⟩ := qq138
  have f139 := f110.keep k138
  have f140 := f111.keep k138 nin0
  have f141 := f112.keep k138 nin0
  have f142 := f113.keep k138 nin0
  have f143 := f114.keep k138 nin0
  have f144 := f115.keep k138 nin0
  have f145 := f116.keep k138 nin0
  have f146 := f117.keep k138 nin0
  have f147 := f118.keep k138 nin0
  have f148 := f119.keep k138 nin0
  have f149 := f120.keep k138 nin0
  have f150 := f121.keep k138 nin0
  have f151 := f123.keep k138
  have f152 := f124.keep k138
  have f153 := f128.keep k138 nin0
  have f154 := f129.keep k138 nin0
  have f155 := f130.keep k138 nin0
  have f156 := f131.keep k138 nin0
  have f157 := f132.keep k138 nin0
  have f158 := f133.keep k138 nin0
  have f159 := f134.keep k138 nin0
  have ge160 : n0 ≤ ta := Nat.le_trans z109 p138_0
  have ne161 : a ≠ ta := Nat.ne_of_lt (Nat.lt_of_lt_of_le f110.lt p138_0)
  have ne162 : ea ≠ ta := Nat.ne_of_lt (Nat.lt_of_lt_of_le f123.lt p138_0)
  have ne163 : eb ≠ ta := Nat.ne_of_lt (Nat.lt_of_lt_of_le f124.lt p138_0)
  have ne164 : uv ≠ ta := Nat.ne_of_lt (Nat.lt_of_lt_of_le f134.lt p138_0)
  have kp165 : h0.size ≤ ta := Nat.le_trans K109.1 p138_0
  have z138 := Nat.le_trans z109 k138.1
  have K138 := K109.trans k138 all0
  have N138 := Fr.app N137 n138
  show Gf p e below P T138 m 89 #[.val (.ref a), .val (.ref f), .val (.ref ea), .val (.ref eb), .val (.ref uv), .val (.double av), .second, .val (.double bv), .second, .val (.double cv), .second, .val (.double iv), .second, .unset, .unset, .unset, .unset] [(.ref ta)]
  refine g_aloadN (pc' := 90) X138 hx hby (v := (.ref eb)) own_d6_89 rfl rfl rfl ?_
  refine g_dload (pc' := 92) X138 hx hby (v := bv) own_d6_90 rfl rfl ?_
  refine g_dload (pc' := 94) X138 hx hby (v := iv) own_d6_92 rfl rfl ?_
  refine g_dmul (pc' := 95) (v := bk) X138 hx hby own_d6_94 rfl (nn94) E_bk rfl ?_
  refine g_virt (argsL := [(.double bk)]) (pc' := 98) X138 hx hby (by rw [hml]; rfl) hZ hown e138 (own_rm11 l Z a0 hw [] eb bk xb yb zb h138 n0 z138 f156 f157 f158 nn95_nn9 nn95_nn15 nn95_nn21) (hw _ (List.mem_of_getElem? (i := 64) rfl)) (hw _ (List.mem_of_getElem? (i := 65) rfl)) (hw _ (List.mem_of_getElem? (i := 67) rfl)) (hw _ (List.mem_of_getElem? (i := 66) rfl)) (hw _ (List.mem_of_getElem? (i := 3) rfl)) (hw _ (List.mem_of_getElem? (i := 68) rfl)) (by decide) f152 own_pd3 rfl rfl (W := 1) rfl (by decide) (by decide) (by decide) (by decide) own_d6_95 rfl ?_
  intro T166 v166 L166 X166 qq166
  obtain ⟨h166, e166⟩ : ∃ h, T166.heap = h := ⟨_, rfl⟩
  rw [e166] at qq166
  obtain ⟨tb, rfl, n166, k166, p166_0, p166_1, p166_2, p166_3, p166_4⟩ := qq166
  have f167 := f139.keep k166
  have f168 := f140.keep k166 nin0
  have f169 := f141.keep k166 nin0
  have f170 := f142.keep k166 nin0
  have f171 := f143.keep k166 nin0
  have f172 := f144.keep k166 nin0
  have f173 := f145.keep k166 nin0
  have f174 := f146.keep k166 nin0
  have f175 := f147.keep k166 nin0
  have f176 := f148.keep k166 nin0
  have f177 := f149.keep k166 nin0
  have f178 := f150.keep k166 nin0
  have f179 := f151.keep k166
  have f180 := f152.keep k166
  have f181 := f153.keep k166 nin0
  have f182 := f154.keep k166 nin0
  have f183 := f155.keep k166 nin0
  have f184 := f156.keep k166 nin0
  have f185 := f157.keep k166 nin0
  have f186 := f158.keep k166 nin0
  have f187 := f159.keep k166 nin0
  have f188 := p138_1.keep k166
  have f189 := p138_2.keep k166 nin0
  have f190 := p138_3.keep k166 nin0
  have f191 := p138_4.keep k166 nin0
  have ge192 : n0 ≤ tb := Nat.le_trans z138 p166_0
  have ne193 : a ≠ tb := Nat.ne_of_lt (Nat.lt_of_lt_of_le f139.lt p166_0)
  have ne194 : ea ≠ tb := Nat.ne_of_lt (Nat.lt_of_lt_of_le f151.lt p166_0)
  have ne195 : eb ≠ tb := Nat.ne_of_lt (Nat.lt_of_lt_of_le f152.lt p166_0)
  have ne196 : ta ≠ tb := Nat.ne_of_lt (Nat.lt_of_lt_of_le p138_1.lt p166_0)
  have ne197 : uv ≠ tb := Nat.ne_of_lt (Nat.lt_of_lt_of_le f159.lt p166_0)
  have kp198 : h0.size ≤ tb := Nat.le_trans K138.1 p166_0
  have z166 := Nat.le_trans z138 k166.1
  have K166 := K138.trans k166 all0
  have N166 := Fr.app N138 n166
  show Gf p e below P T166 m 98 #[.val (.ref a), .val (.ref f), .val (.ref ea), .val (.ref eb), .val (.ref uv), .val (.double av), .second, .val (.double bv), .second, .val (.double cv), .second, .val (.double iv), .second, .unset, .unset, .unset, .unset] [(.ref tb), (.ref ta)]
  refine g_virt (argsL := [(.ref tb)]) (pc' := 101) X166 hx hby (by rw [hml]; rfl) hZ hown e166 (own_rm12 l Z a0 hw [] ta tb (FP.dmul xa ck) (FP.dmul ya ck) (FP.dmul za ck) (FP.dmul xb bk) (FP.dmul yb bk) (FP.dmul zb bk) h166 n0 z166 f189 f190 f191 p166_2 p166_3 p166_4 nn98_nn12 nn98_nn21 nn98_nn30) (hw _ (List.mem_of_getElem? (i := 71) rfl)) (hw _ (List.mem_of_getElem? (i := 72) rfl)) (hw _ (List.mem_of_getElem? (i := 74) rfl)) (hw _ (List.mem_of_getElem? (i := 73) rfl)) (hw _ (List.mem_of_getElem? (i := 3) rfl)) (hw _ (List.mem_of_getElem? (i := 75) rfl)) (by decide) f188 own_pd4 rfl rfl (W := 0) rfl (by decide) (by decide) (by decide) (by decide) own_d6_98 rfl ?_
  intro T199 v199 L199 X199 qq199
  obtain ⟨h199, e199⟩ : ∃ h, T199.heap = h := ⟨_, rfl⟩
  rw [e199] at qq199
  obtain ⟨sec, rfl, n199, k199, p199_0, p199_1, p199_2, p199_3, p199_4⟩ := qq199
  have f200 := f167.keep k199
  have f201 := f168.keep k199 nin0
  have f202 := f169.keep k199 nin0
  have f203 := f170.keep k199 nin0
  have f204 := f171.keep k199 nin0
  have f205 := f172.keep k199 nin0
  have f206 := f173.keep k199 nin0
  have f207 := f174.keep k199 nin0
  have f208 := f175.keep k199 nin0
  have f209 := f176.keep k199 nin0
  have f210 := f177.keep k199 nin0
  have f211 := f178.keep k199 nin0
  have f212 := f179.keep k199
  have f213 := f180.keep k199
  have f214 := f181.keep k199 nin0
  have f215 := f182.keep k199 nin0
  have f216 := f183.keep k199 nin0
  have f217 := f184.keep k199 nin0
  have f218 := f185.keep k199 nin0
  have f219 := f186.keep k199 nin0
  have f220 := f187.keep k199 nin0
  have f221 := f188.keep k199
  have f222 := f189.keep k199 nin0
  have f223 := f190.keep k199 nin0
  have f224 := f191.keep k199 nin0
  have f225 := p166_1.keep k199
  have f226 := p166_2.keep k199 nin0
  have f227 := p166_3.keep k199 nin0
  have f228 := p166_4.keep k199 nin0
  have ge229 : n0 ≤ sec := Nat.le_trans z166 p199_0
  have ne230 : a ≠ sec := Nat.ne_of_lt (Nat.lt_of_lt_of_le f167.lt p199_0)
  have ne231 : ea ≠ sec := Nat.ne_of_lt (Nat.lt_of_lt_of_le f179.lt p199_0)
  have ne232 : eb ≠ sec := Nat.ne_of_lt (Nat.lt_of_lt_of_le f180.lt p199_0)
  have ne233 : ta ≠ sec := Nat.ne_of_lt (Nat.lt_of_lt_of_le f188.lt p199_0)
  have ne234 : tb ≠ sec := Nat.ne_of_lt (Nat.lt_of_lt_of_le p166_1.lt p199_0)
  have ne235 : uv ≠ sec := Nat.ne_of_lt (Nat.lt_of_lt_of_le f187.lt p199_0)
  have kp236 : h0.size ≤ sec := Nat.le_trans K166.1 p199_0
  have z199 := Nat.le_trans z166 k199.1
  have K199 := K166.trans k199 all0
  have N199 := Fr.app N166 n199
  show Gf p e below P T199 m 101 #[.val (.ref a), .val (.ref f), .val (.ref ea), .val (.ref eb), .val (.ref uv), .val (.double av), .second, .val (.double bv), .second, .val (.double cv), .second, .val (.double iv), .second, .unset, .unset, .unset, .unset] [(.ref sec)]
  rw [E_sx] at p199_2
  rw [E_sy] at p199_3
  rw [E_sz] at p199_4
  refine g_astore (pc' := 103) (Ls' := #[.val (.ref a), .val (.ref f), .val (.ref ea), .val (.ref eb), .val (.ref uv), .val (.double av), .second, .val (.double bv), .second, .val (.double cv), .second, .val (.double iv), .second, .val (.ref sec), .unset, .unset, .unset]) X199 hx hby own_d6_101 rfl rfl rfl rfl ?_
  refine g_aloadN (pc' := 104) X199 hx hby (v := (.ref eb)) own_d6_103 rfl rfl rfl ?_
  refine g_dload (pc' := 106) X199 hx hby (v := av) own_d6_104 rfl rfl ?_
  refine g_dload (pc' := 108) X199 hx hby (v := iv) own_d6_106 rfl rfl ?_
  refine g_dmul (pc' := 109) (v := ak) X199 hx hby own_d6_108 rfl (nn108) E_ak rfl ?_
  refine g_virt (argsL := [(.double ak)]) (pc' := 112) X199 hx hby (by rw [hml]; rfl) hZ hown e199 (own_rm11 l Z a0 hw [] eb ak xb yb zb h199 n0 z199 f217 f218 f219 nn109_nn9 nn109_nn15 nn109_nn21) (hw _ (List.mem_of_getElem? (i := 64) rfl)) (hw _ (List.mem_of_getElem? (i := 65) rfl)) (hw _ (List.mem_of_getElem? (i := 67) rfl)) (hw _ (List.mem_of_getElem? (i := 66) rfl)) (hw _ (List.mem_of_getElem? (i := 3) rfl)) (hw _ (List.mem_of_getElem? (i := 68) rfl)) (by decide) f213 own_pd3 rfl rfl (W := 0) rfl (by decide) (by decide) (by decide) (by decide) own_d6_109 rfl ?_
  intro T237 v237 L237 X237 qq237
  obtain ⟨h237, e237⟩ : ∃ h, T237.heap = h := ⟨_, rfl⟩
  rw [e237] at qq237
  obtain ⟨tcc, rfl, n237, k237, p237_0, p237_1, p237_2, p237_3, p237_4⟩ := qq237
  have f238 := f200.keep k237
  have f239 := f201.keep k237 nin0
  have f240 := f202.keep k237 nin0
  have f241 := f203.keep k237 nin0
  have f242 := f204.keep k237 nin0
  have f243 := f205.keep k237 nin0
  have f244 := f206.keep k237 nin0
  have f245 := f207.keep k237 nin0
  have f246 := f208.keep k237 nin0
  have f247 := f209.keep k237 nin0
  have f248 := f210.keep k237 nin0
  have f249 := f211.keep k237 nin0
  have f250 := f212.keep k237
  have f251 := f213.keep k237
  have f252 := f214.keep k237 nin0
  have f253 := f215.keep k237 nin0
  have f254 := f216.keep k237 nin0
  have f255 := f217.keep k237 nin0
  have f256 := f218.keep k237 nin0
  have f257 := f219.keep k237 nin0
  have f258 := f220.keep k237 nin0
  have f259 := p199_1.keep k237
  have f260 := p199_2.keep k237 nin0
  have f261 := p199_3.keep k237 nin0
  have f262 := p199_4.keep k237 nin0
  have ge263 : n0 ≤ tcc := Nat.le_trans z199 p237_0
  have ne264 : a ≠ tcc := Nat.ne_of_lt (Nat.lt_of_lt_of_le f200.lt p237_0)
  have ne265 : ea ≠ tcc := Nat.ne_of_lt (Nat.lt_of_lt_of_le f212.lt p237_0)
  have ne266 : eb ≠ tcc := Nat.ne_of_lt (Nat.lt_of_lt_of_le f213.lt p237_0)
  have ne267 : sec ≠ tcc := Nat.ne_of_lt (Nat.lt_of_lt_of_le p199_1.lt p237_0)
  have ne268 : uv ≠ tcc := Nat.ne_of_lt (Nat.lt_of_lt_of_le f220.lt p237_0)
  have kp269 : h0.size ≤ tcc := Nat.le_trans K199.1 p237_0
  have z237 := Nat.le_trans z199 k237.1
  have K237 := K199.trans k237 all0
  have N237 := Fr.app N199 n237
  show Gf p e below P T237 m 112 #[.val (.ref a), .val (.ref f), .val (.ref ea), .val (.ref eb), .val (.ref uv), .val (.double av), .second, .val (.double bv), .second, .val (.double cv), .second, .val (.double iv), .second, .val (.ref sec), .unset, .unset, .unset] [(.ref tcc)]
  refine g_aloadN (pc' := 113) X237 hx hby (v := (.ref ea)) own_d6_112 rfl rfl rfl ?_
  refine g_dload (pc' := 115) X237 hx hby (v := bv) own_d6_113 rfl rfl ?_
  refine g_dload (pc' := 117) X237 hx hby (v := iv) own_d6_115 rfl rfl ?_
  refine g_dmul (pc' := 118) (v := bk) X237 hx hby own_d6_117 rfl (nn117) E_bk rfl ?_
  refine g_virt (argsL := [(.double bk)]) (pc' := 121) X237 hx hby (by rw [hml]; rfl) hZ hown e237 (own_rm11 l Z a0 hw [] ea bk xa ya za h237 n0 z237 f252 f253 f254 nn118_nn9 nn118_nn15 nn118_nn21) (hw _ (List.mem_of_getElem? (i := 64) rfl)) (hw _ (List.mem_of_getElem? (i := 65) rfl)) (hw _ (List.mem_of_getElem? (i := 67) rfl)) (hw _ (List.mem_of_getElem? (i := 66) rfl)) (hw _ (List.mem_of_getElem? (i := 3) rfl)) (hw _ (List.mem_of_getElem? (i := 68) rfl)) (by decide) f250 own_pd3 rfl rfl (W := 1) rfl (by decide) (by decide) (by decide) (by decide) own_d6_118 rfl ?_
  intro T270 v270 L270 X270 qq270
  obtain ⟨h270, e270⟩ : ∃ h, T270.heap = h := ⟨_, rfl⟩
  rw [e270] at qq270
  obtain ⟨td, rfl, n270, k270, p270_0, p270_1, p270_2, p270_3, p270_4⟩ := qq270
  have f271 := f238.keep k270
  have f272 := f239.keep k270 nin0
  have f273 := f240.keep k270 nin0
  have f274 := f241.keep k270 nin0
  have f275 := f242.keep k270 nin0
  have f276 := f243.keep k270 nin0
  have f277 := f244.keep k270 nin0
  have f278 := f245.keep k270 nin0
  have f279 := f246.keep k270 nin0
  have f280 := f247.keep k270 nin0
  have f281 := f248.keep k270 nin0
  have f282 := f249.keep k270 nin0
  have f283 := f250.keep k270
  have f284 := f251.keep k270
  have f285 := f252.keep k270 nin0
  have f286 := f253.keep k270 nin0
  have f287 := f254.keep k270 nin0
  have f288 := f255.keep k270 nin0
  have f289 := f256.keep k270 nin0
  have f290 := f257.keep k270 nin0
  have f291 := f258.keep k270 nin0
  have f292 := f259.keep k270
  have f293 := f260.keep k270 nin0
  have f294 := f261.keep k270 nin0
  have f295 := f262.keep k270 nin0
  have f296 := p237_1.keep k270
  have f297 := p237_2.keep k270 nin0
  have f298 := p237_3.keep k270 nin0
  have f299 := p237_4.keep k270 nin0
  have ge300 : n0 ≤ td := Nat.le_trans z237 p270_0
  have ne301 : a ≠ td := Nat.ne_of_lt (Nat.lt_of_lt_of_le f238.lt p270_0)
  have ne302 : ea ≠ td := Nat.ne_of_lt (Nat.lt_of_lt_of_le f250.lt p270_0)
  have ne303 : eb ≠ td := Nat.ne_of_lt (Nat.lt_of_lt_of_le f251.lt p270_0)
  have ne304 : sec ≠ td := Nat.ne_of_lt (Nat.lt_of_lt_of_le f259.lt p270_0)
  have ne305 : tcc ≠ td := Nat.ne_of_lt (Nat.lt_of_lt_of_le p237_1.lt p270_0)
  have ne306 : uv ≠ td := Nat.ne_of_lt (Nat.lt_of_lt_of_le f258.lt p270_0)
  have kp307 : h0.size ≤ td := Nat.le_trans K237.1 p270_0
  have z270 := Nat.le_trans z237 k270.1
  have K270 := K237.trans k270 all0
  have N270 := Fr.app N237 n270
  show Gf p e below P T270 m 121 #[.val (.ref a), .val (.ref f), .val (.ref ea), .val (.ref eb), .val (.ref uv), .val (.double av), .second, .val (.double bv), .second, .val (.double cv), .second, .val (.double iv), .second, .val (.ref sec), .unset, .unset, .unset] [(.ref td), (.ref tcc)]
  refine g_virt (argsL := [(.ref td)]) (pc' := 124) X270 hx hby (by rw [hml]; rfl) hZ hown e270 (own_rm12 l Z a0 hw [] tcc td (FP.dmul xb ak) (FP.dmul yb ak) (FP.dmul zb ak) (FP.dmul xa bk) (FP.dmul ya bk) (FP.dmul za bk) h270 n0 z270 f297 f298 f299 p270_2 p270_3 p270_4 nn121_nn12 nn121_nn21 nn121_nn30) (hw _ (List.mem_of_getElem? (i := 71) rfl)) (hw _ (List.mem_of_getElem? (i := 72) rfl)) (hw _ (List.mem_of_getElem? (i := 74) rfl)) (hw _ (List.mem_of_getElem? (i := 73) rfl)) (hw _ (List.mem_of_getElem? (i := 3) rfl)) (hw _ (List.mem_of_getElem? (i := 75) rfl)) (by decide) f296 own_pd4 rfl rfl (W := 0) rfl (by decide) (by decide) (by decide) (by decide) own_d6_121 rfl ?_
  intro T308 v308 L308 X308 qq308
  obtain ⟨h308, e308⟩ : ∃ h, T308.heap = h := ⟨_, rfl⟩
  rw [e308] at qq308
  obtain ⟨thi, rfl, n308, k308, p308_0, p308_1, p308_2, p308_3, p308_4⟩ := qq308
  have f309 := f271.keep k308
  have f310 := f272.keep k308 nin0
  have f311 := f273.keep k308 nin0
  have f312 := f274.keep k308 nin0
  have f313 := f275.keep k308 nin0
  have f314 := f276.keep k308 nin0
  have f315 := f277.keep k308 nin0
  have f316 := f278.keep k308 nin0
  have f317 := f279.keep k308 nin0
  have f318 := f280.keep k308 nin0
  have f319 := f281.keep k308 nin0
  have f320 := f282.keep k308 nin0
  have f321 := f283.keep k308
  have f322 := f284.keep k308
  have f323 := f285.keep k308 nin0
  have f324 := f286.keep k308 nin0
  have f325 := f287.keep k308 nin0
  have f326 := f288.keep k308 nin0
  have f327 := f289.keep k308 nin0
  have f328 := f290.keep k308 nin0
  have f329 := f291.keep k308 nin0
  have f330 := f292.keep k308
  have f331 := f293.keep k308 nin0
  have f332 := f294.keep k308 nin0
  have f333 := f295.keep k308 nin0
  have f334 := f296.keep k308
  have f335 := f297.keep k308 nin0
  have f336 := f298.keep k308 nin0
  have f337 := f299.keep k308 nin0
  have f338 := p270_1.keep k308
  have f339 := p270_2.keep k308 nin0
  have f340 := p270_3.keep k308 nin0
  have f341 := p270_4.keep k308 nin0
  have ge342 : n0 ≤ thi := Nat.le_trans z270 p308_0
  have ne343 : a ≠ thi := Nat.ne_of_lt (Nat.lt_of_lt_of_le f271.lt p308_0)
  have ne344 : ea ≠ thi := Nat.ne_of_lt (Nat.lt_of_lt_of_le f283.lt p308_0)
  have ne345 : eb ≠ thi := Nat.ne_of_lt (Nat.lt_of_lt_of_le f284.lt p308_0)
  have ne346 : sec ≠ thi := Nat.ne_of_lt (Nat.lt_of_lt_of_le f292.lt p308_0)
  have ne347 : tcc ≠ thi := Nat.ne_of_lt (Nat.lt_of_lt_of_le f296.lt p308_0)
  have ne348 : td ≠ thi := Nat.ne_of_lt (Nat.lt_of_lt_of_le p270_1.lt p308_0)
  have ne349 : uv ≠ thi := Nat.ne_of_lt (Nat.lt_of_lt_of_le f291.lt p308_0)
  have kp350 : h0.size ≤ thi := Nat.le_trans K270.1 p308_0
  have z308 := Nat.le_trans z270 k308.1
  have K308 := K270.trans k308 all0
  have N308 := Fr.app N270 n308
  show Gf p e below P T308 m 124 #[.val (.ref a), .val (.ref f), .val (.ref ea), .val (.ref eb), .val (.ref uv), .val (.double av), .second, .val (.double bv), .second, .val (.double cv), .second, .val (.double iv), .second, .val (.ref sec), .unset, .unset, .unset] [(.ref thi)]
  rw [E_tx] at p308_2
  rw [E_ty] at p308_3
  rw [E_tz] at p308_4
  refine g_astore (pc' := 126) (Ls' := #[.val (.ref a), .val (.ref f), .val (.ref ea), .val (.ref eb), .val (.ref uv), .val (.double av), .second, .val (.double bv), .second, .val (.double cv), .second, .val (.double iv), .second, .val (.ref sec), .val (.ref thi), .unset, .unset]) X308 hx hby own_d6_124 rfl rfl rfl rfl ?_
  refine g_aload (pc' := 128) X308 hx hby (v := (.ref sec)) own_d6_126 rfl rfl rfl ?_
  refine g_aload (pc' := 130) X308 hx hby (v := (.ref uv)) own_d6_128 rfl rfl rfl ?_
  refine g_iconst (pc' := 131) (v := (2 : Int32)) X308 hx hby own_d6_130 rfl rfl ?_
  refine g_ldD (pc' := 132) X308 hx hby hZ (v := u2) e308 f329 ⟨by decide, by decide⟩ rfl rfl own_d6_131 rfl ?_
  refine g_aload (pc' := 134) X308 hx hby (v := (.ref uv)) own_d6_132 rfl rfl rfl ?_
  refine g_iconst (pc' := 135) (v := (0 : Int32)) X308 hx hby own_d6_134 rfl rfl ?_
  refine g_ldD (pc' := 136) X308 hx hby hZ (v := u0) e308 f329 ⟨by decide, by decide⟩ rfl rfl own_d6_135 rfl ?_
  refine g_dsub (pc' := 137) (v := du2) X308 hx hby own_d6_136 rfl (nn136) E_du2 rfl ?_
  refine g_virt (argsL := [(.double du2)]) (pc' := 140) X308 hx hby (by rw [hml]; rfl) hZ hown e308 (own_rm11 l Z a0 hw [] sec du2 sx sy sz h308 n0 z308 f331 f332 f333 nn137_nn9 nn137_nn15 nn137_nn21) (hw _ (List.mem_of_getElem? (i := 64) rfl)) (hw _ (List.mem_of_getElem? (i := 65) rfl)) (hw _ (List.mem_of_getElem? (i := 67) rfl)) (hw _ (List.mem_of_getElem? (i := 66) rfl)) (hw _ (List.mem_of_getElem? (i := 3) rfl)) (hw _ (List.mem_of_getElem? (i := 68) rfl)) (by decide) f330 own_pd3 rfl rfl (W := 0) rfl (by decide) (by decide) (by decide) (by decide) own_d6_137 rfl ?_
  intro T351 v351 L351 X351 qq351
  obtain ⟨h351, e351⟩ : ∃ h, T351.heap = h := ⟨_, rfl⟩
  rw [e351] at qq351
  obtain ⟨te, rfl, n351, k351, p351_0, p351_1, p351_2, p351_3, p351_4⟩ := qq351
  have f352 := f309.keep k351
  have f353 := f310.keep k351 nin0
  have f354 := f311.keep k351 nin0
  have f355 := f312.keep k351 nin0
  have f356 := f313.keep k351 nin0
  have f357 := f314.keep k351 nin0
  have f358 := f315.keep k351 nin0
  have f359 := f316.keep k351 nin0
  have f360 := f317.keep k351 nin0
  have f361 := f318.keep k351 nin0
  have f362 := f319.keep k351 nin0
  have f363 := f320.keep k351 nin0
  have f364 := f329.keep k351 nin0
  have f365 := f330.keep k351
  have f366 := f331.keep k351 nin0
  have f367 := f332.keep k351 nin0
  have f368 := f333.keep k351 nin0
  have f369 := p308_1.keep k351
  have f370 := p308_2.keep k351 nin0
  have f371 := p308_3.keep k351 nin0
  have f372 := p308_4.keep k351 nin0
  have ge373 : n0 ≤ te := Nat.le_trans z308 p351_0
  have ne374 : a ≠ te := Nat.ne_of_lt (Nat.lt_of_lt_of_le f309.lt p351_0)
  have ne375 : sec ≠ te := Nat.ne_of_lt (Nat.lt_of_lt_of_le f330.lt p351_0)
  have ne376 : thi ≠ te := Nat.ne_of_lt (Nat.lt_of_lt_of_le p308_1.lt p351_0)
  have ne377 : uv ≠ te := Nat.ne_of_lt (Nat.lt_of_lt_of_le f329.lt p351_0)
  have kp378 : h0.size ≤ te := Nat.le_trans K308.1 p351_0
  have z351 := Nat.le_trans z308 k351.1
  have K351 := K308.trans k351 all0
  have N351 := Fr.app N308 n351
  show Gf p e below P T351 m 140 #[.val (.ref a), .val (.ref f), .val (.ref ea), .val (.ref eb), .val (.ref uv), .val (.double av), .second, .val (.double bv), .second, .val (.double cv), .second, .val (.double iv), .second, .val (.ref sec), .val (.ref thi), .unset, .unset] [(.ref te)]
  refine g_aload (pc' := 142) X351 hx hby (v := (.ref thi)) own_d6_140 rfl rfl rfl ?_
  refine g_aload (pc' := 144) X351 hx hby (v := (.ref uv)) own_d6_142 rfl rfl rfl ?_
  refine g_iconst (pc' := 145) (v := (4 : Int32)) X351 hx hby own_d6_144 rfl rfl ?_
  refine g_ldD (pc' := 146) X351 hx hby hZ (v := u4) e351 f364 ⟨by decide, by decide⟩ rfl rfl own_d6_145 rfl ?_
  refine g_aload (pc' := 148) X351 hx hby (v := (.ref uv)) own_d6_146 rfl rfl rfl ?_
  refine g_iconst (pc' := 149) (v := (0 : Int32)) X351 hx hby own_d6_148 rfl rfl ?_
  refine g_ldD (pc' := 150) X351 hx hby hZ (v := u0) e351 f364 ⟨by decide, by decide⟩ rfl rfl own_d6_149 rfl ?_
  refine g_dsub (pc' := 151) (v := du3) X351 hx hby own_d6_150 rfl (nn150) E_du3 rfl ?_
  refine g_virt (argsL := [(.double du3)]) (pc' := 154) X351 hx hby (by rw [hml]; rfl) hZ hown e351 (own_rm11 l Z a0 hw [] thi du3 tx ty tz h351 n0 z351 f370 f371 f372 nn151_nn9 nn151_nn15 nn151_nn21) (hw _ (List.mem_of_getElem? (i := 64) rfl)) (hw _ (List.mem_of_getElem? (i := 65) rfl)) (hw _ (List.mem_of_getElem? (i := 67) rfl)) (hw _ (List.mem_of_getElem? (i := 66) rfl)) (hw _ (List.mem_of_getElem? (i := 3) rfl)) (hw _ (List.mem_of_getElem? (i := 68) rfl)) (by decide) f369 own_pd3 rfl rfl (W := 1) rfl (by decide) (by decide) (by decide) (by decide) own_d6_151 rfl ?_
  intro T379 v379 L379 X379 qq379
  obtain ⟨h379, e379⟩ : ∃ h, T379.heap = h := ⟨_, rfl⟩
  rw [e379] at qq379
  obtain ⟨tf, rfl, n379, k379, p379_0, p379_1, p379_2, p379_3, p379_4⟩ := qq379
  have f380 := f352.keep k379
  have f381 := f353.keep k379 nin0
  have f382 := f354.keep k379 nin0
  have f383 := f355.keep k379 nin0
  have f384 := f356.keep k379 nin0
  have f385 := f357.keep k379 nin0
  have f386 := f358.keep k379 nin0
  have f387 := f359.keep k379 nin0
  have f388 := f360.keep k379 nin0
  have f389 := f361.keep k379 nin0
  have f390 := f362.keep k379 nin0
  have f391 := f363.keep k379 nin0
  have f392 := f364.keep k379 nin0
  have f393 := f365.keep k379
  have f394 := f366.keep k379 nin0
  have f395 := f367.keep k379 nin0
  have f396 := f368.keep k379 nin0
  have f397 := f369.keep k379
  have f398 := f370.keep k379 nin0
  have f399 := f371.keep k379 nin0
  have f400 := f372.keep k379 nin0
  have f401 := p351_1.keep k379
  have f402 := p351_2.keep k379 nin0
  have f403 := p351_3.keep k379 nin0
  have f404 := p351_4.keep k379 nin0
  have ge405 : n0 ≤ tf := Nat.le_trans z351 p379_0
  have ne406 : a ≠ tf := Nat.ne_of_lt (Nat.lt_of_lt_of_le f352.lt p379_0)
  have ne407 : sec ≠ tf := Nat.ne_of_lt (Nat.lt_of_lt_of_le f365.lt p379_0)
  have ne408 : te ≠ tf := Nat.ne_of_lt (Nat.lt_of_lt_of_le p351_1.lt p379_0)
  have ne409 : thi ≠ tf := Nat.ne_of_lt (Nat.lt_of_lt_of_le f369.lt p379_0)
  have ne410 : uv ≠ tf := Nat.ne_of_lt (Nat.lt_of_lt_of_le f364.lt p379_0)
  have kp411 : h0.size ≤ tf := Nat.le_trans K351.1 p379_0
  have z379 := Nat.le_trans z351 k379.1
  have K379 := K351.trans k379 all0
  have N379 := Fr.app N351 n379
  show Gf p e below P T379 m 154 #[.val (.ref a), .val (.ref f), .val (.ref ea), .val (.ref eb), .val (.ref uv), .val (.double av), .second, .val (.double bv), .second, .val (.double cv), .second, .val (.double iv), .second, .val (.ref sec), .val (.ref thi), .unset, .unset] [(.ref tf), (.ref te)]
  refine g_virt (argsL := [(.ref tf)]) (pc' := 157) X379 hx hby (by rw [hml]; rfl) hZ hown e379 (own_rm13 l Z a0 hw [] te tf (FP.dmul sx du2) (FP.dmul sy du2) (FP.dmul sz du2) (FP.dmul tx du3) (FP.dmul ty du3) (FP.dmul tz du3) h379 n0 z379 f402 f403 f404 p379_2 p379_3 p379_4 nn154_nn12 nn154_nn21 nn154_nn30) (hw _ (List.mem_of_getElem? (i := 76) rfl)) (hw _ (List.mem_of_getElem? (i := 77) rfl)) (hw _ (List.mem_of_getElem? (i := 79) rfl)) (hw _ (List.mem_of_getElem? (i := 78) rfl)) (hw _ (List.mem_of_getElem? (i := 3) rfl)) (hw _ (List.mem_of_getElem? (i := 80) rfl)) (by decide) f401 own_pd4 rfl rfl (W := 0) rfl (by decide) (by decide) (by decide) (by decide) own_d6_154 rfl ?_
  intro T412 v412 L412 X412 qq412
  obtain ⟨h412, e412⟩ : ∃ h, T412.heap = h := ⟨_, rfl⟩
  rw [e412] at qq412
  obtain ⟨ugr, rfl, n412, k412, p412_0, p412_1, p412_2, p412_3, p412_4⟩ := qq412
  have f413 := f380.keep k412
  have f414 := f381.keep k412 nin0
  have f415 := f382.keep k412 nin0
  have f416 := f383.keep k412 nin0
  have f417 := f384.keep k412 nin0
  have f418 := f385.keep k412 nin0
  have f419 := f386.keep k412 nin0
  have f420 := f387.keep k412 nin0
  have f421 := f388.keep k412 nin0
  have f422 := f389.keep k412 nin0
  have f423 := f390.keep k412 nin0
  have f424 := f391.keep k412 nin0
  have f425 := f392.keep k412 nin0
  have f426 := f393.keep k412
  have f427 := f394.keep k412 nin0
  have f428 := f395.keep k412 nin0
  have f429 := f396.keep k412 nin0
  have f430 := f397.keep k412
  have f431 := f398.keep k412 nin0
  have f432 := f399.keep k412 nin0
  have f433 := f400.keep k412 nin0
  have f434 := f401.keep k412
  have f435 := f402.keep k412 nin0
  have f436 := f403.keep k412 nin0
  have f437 := f404.keep k412 nin0
  have f438 := p379_1.keep k412
  have f439 := p379_2.keep k412 nin0
  have f440 := p379_3.keep k412 nin0
  have f441 := p379_4.keep k412 nin0
  have ge442 : n0 ≤ ugr := Nat.le_trans z379 p412_0
  have ne443 : a ≠ ugr := Nat.ne_of_lt (Nat.lt_of_lt_of_le f380.lt p412_0)
  have ne444 : sec ≠ ugr := Nat.ne_of_lt (Nat.lt_of_lt_of_le f393.lt p412_0)
  have ne445 : te ≠ ugr := Nat.ne_of_lt (Nat.lt_of_lt_of_le f401.lt p412_0)
  have ne446 : tf ≠ ugr := Nat.ne_of_lt (Nat.lt_of_lt_of_le p379_1.lt p412_0)
  have ne447 : thi ≠ ugr := Nat.ne_of_lt (Nat.lt_of_lt_of_le f397.lt p412_0)
  have ne448 : uv ≠ ugr := Nat.ne_of_lt (Nat.lt_of_lt_of_le f392.lt p412_0)
  have kp449 : h0.size ≤ ugr := Nat.le_trans K379.1 p412_0
  have z412 := Nat.le_trans z379 k412.1
  have K412 := K379.trans k412 all0
  have N412 := Fr.app N379 n412
  show Gf p e below P T412 m 157 #[.val (.ref a), .val (.ref f), .val (.ref ea), .val (.ref eb), .val (.ref uv), .val (.double av), .second, .val (.double bv), .second, .val (.double cv), .second, .val (.double iv), .second, .val (.ref sec), .val (.ref thi), .unset, .unset] [(.ref ugr)]
  rw [E_gx] at p412_2
  rw [E_gy] at p412_3
  rw [E_gz] at p412_4
  refine g_astore (pc' := 159) (Ls' := #[.val (.ref a), .val (.ref f), .val (.ref ea), .val (.ref eb), .val (.ref uv), .val (.double av), .second, .val (.double bv), .second, .val (.double cv), .second, .val (.double iv), .second, .val (.ref sec), .val (.ref thi), .val (.ref ugr), .unset]) X412 hx hby own_d6_157 rfl rfl rfl rfl ?_
  refine g_aload (pc' := 161) X412 hx hby (v := (.ref sec)) own_d6_159 rfl rfl rfl ?_
  refine g_aload (pc' := 163) X412 hx hby (v := (.ref uv)) own_d6_161 rfl rfl rfl ?_
  refine g_iconst (pc' := 164) (v := (3 : Int32)) X412 hx hby own_d6_163 rfl rfl ?_
  refine g_ldD (pc' := 165) X412 hx hby hZ (v := u3) e412 f425 ⟨by decide, by decide⟩ rfl rfl own_d6_164 rfl ?_
  refine g_aload (pc' := 167) X412 hx hby (v := (.ref uv)) own_d6_165 rfl rfl rfl ?_
  refine g_iconst (pc' := 168) (v := (1 : Int32)) X412 hx hby own_d6_167 rfl rfl ?_
  refine g_ldD (pc' := 169) X412 hx hby hZ (v := u1) e412 f425 ⟨by decide, by decide⟩ rfl rfl own_d6_168 rfl ?_
  refine g_dsub (pc' := 170) (v := dv2) X412 hx hby own_d6_169 rfl (nn169) E_dv2 rfl ?_
  refine g_virt (argsL := [(.double dv2)]) (pc' := 173) X412 hx hby (by rw [hml]; rfl) hZ hown e412 (own_rm11 l Z a0 hw [] sec dv2 sx sy sz h412 n0 z412 f427 f428 f429 nn170_nn9 nn170_nn15 nn170_nn21) (hw _ (List.mem_of_getElem? (i := 64) rfl)) (hw _ (List.mem_of_getElem? (i := 65) rfl)) (hw _ (List.mem_of_getElem? (i := 67) rfl)) (hw _ (List.mem_of_getElem? (i := 66) rfl)) (hw _ (List.mem_of_getElem? (i := 3) rfl)) (hw _ (List.mem_of_getElem? (i := 68) rfl)) (by decide) f426 own_pd3 rfl rfl (W := 0) rfl (by decide) (by decide) (by decide) (by decide) own_d6_170 rfl ?_
  intro T450 v450 L450 X450 qq450
  obtain ⟨h450, e450⟩ : ∃ h, T450.heap = h := ⟨_, rfl⟩
  rw [e450] at qq450
  obtain ⟨tg, rfl, n450, k450, p450_0, p450_1, p450_2, p450_3, p450_4⟩ := qq450
  have f451 := f413.keep k450
  have f452 := f414.keep k450 nin0
  have f453 := f415.keep k450 nin0
  have f454 := f416.keep k450 nin0
  have f455 := f417.keep k450 nin0
  have f456 := f418.keep k450 nin0
  have f457 := f419.keep k450 nin0
  have f458 := f420.keep k450 nin0
  have f459 := f421.keep k450 nin0
  have f460 := f422.keep k450 nin0
  have f461 := f423.keep k450 nin0
  have f462 := f424.keep k450 nin0
  have f463 := f425.keep k450 nin0
  have f464 := f426.keep k450
  have f465 := f427.keep k450 nin0
  have f466 := f428.keep k450 nin0
  have f467 := f429.keep k450 nin0
  have f468 := f430.keep k450
  have f469 := f431.keep k450 nin0
  have f470 := f432.keep k450 nin0
  have f471 := f433.keep k450 nin0
  have f472 := p412_1.keep k450
  have f473 := p412_2.keep k450 nin0
  have f474 := p412_3.keep k450 nin0
  have f475 := p412_4.keep k450 nin0
  have ge476 : n0 ≤ tg := Nat.le_trans z412 p450_0
  have ne477 : a ≠ tg := Nat.ne_of_lt (Nat.lt_of_lt_of_le f413.lt p450_0)
  have ne478 : sec ≠ tg := Nat.ne_of_lt (Nat.lt_of_lt_of_le f426.lt p450_0)
  have ne479 : thi ≠ tg := Nat.ne_of_lt (Nat.lt_of_lt_of_le f430.lt p450_0)
  have ne480 : ugr ≠ tg := Nat.ne_of_lt (Nat.lt_of_lt_of_le p412_1.lt p450_0)
  have ne481 : uv ≠ tg := Nat.ne_of_lt (Nat.lt_of_lt_of_le f425.lt p450_0)
  have kp482 : h0.size ≤ tg := Nat.le_trans K412.1 p450_0
  have z450 := Nat.le_trans z412 k450.1
  have K450 := K412.trans k450 all0
  have N450 := Fr.app N412 n450
  show Gf p e below P T450 m 173 #[.val (.ref a), .val (.ref f), .val (.ref ea), .val (.ref eb), .val (.ref uv), .val (.double av), .second, .val (.double bv), .second, .val (.double cv), .second, .val (.double iv), .second, .val (.ref sec), .val (.ref thi), .val (.ref ugr), .unset] [(.ref tg)]
  refine g_aload (pc' := 175) X450 hx hby (v := (.ref thi)) own_d6_173 rfl rfl rfl ?_
  refine g_aload (pc' := 177) X450 hx hby (v := (.ref uv)) own_d6_175 rfl rfl rfl ?_
  refine g_iconst (pc' := 178) (v := (5 : Int32)) X450 hx hby own_d6_177 rfl rfl ?_
  refine g_ldD (pc' := 179) X450 hx hby hZ (v := u5) e450 f463 ⟨by decide, by decide⟩ rfl rfl own_d6_178 rfl ?_
  refine g_aload (pc' := 181) X450 hx hby (v := (.ref uv)) own_d6_179 rfl rfl rfl ?_
  refine g_iconst (pc' := 182) (v := (1 : Int32)) X450 hx hby own_d6_181 rfl rfl ?_
  refine g_ldD (pc' := 183) X450 hx hby hZ (v := u1) e450 f463 ⟨by decide, by decide⟩ rfl rfl own_d6_182 rfl ?_
  refine g_dsub (pc' := 184) (v := dv3) X450 hx hby own_d6_183 rfl (nn183) E_dv3 rfl ?_
  refine g_virt (argsL := [(.double dv3)]) (pc' := 187) X450 hx hby (by rw [hml]; rfl) hZ hown e450 (own_rm11 l Z a0 hw [] thi dv3 tx ty tz h450 n0 z450 f469 f470 f471 nn184_nn9 nn184_nn15 nn184_nn21) (hw _ (List.mem_of_getElem? (i := 64) rfl)) (hw _ (List.mem_of_getElem? (i := 65) rfl)) (hw _ (List.mem_of_getElem? (i := 67) rfl)) (hw _ (List.mem_of_getElem? (i := 66) rfl)) (hw _ (List.mem_of_getElem? (i := 3) rfl)) (hw _ (List.mem_of_getElem? (i := 68) rfl)) (by decide) f468 own_pd3 rfl rfl (W := 1) rfl (by decide) (by decide) (by decide) (by decide) own_d6_184 rfl ?_
  intro T483 v483 L483 X483 qq483
  obtain ⟨h483, e483⟩ : ∃ h, T483.heap = h := ⟨_, rfl⟩
  rw [e483] at qq483
  obtain ⟨th, rfl, n483, k483, p483_0, p483_1, p483_2, p483_3, p483_4⟩ := qq483
  have f484 := f451.keep k483
  have f485 := f452.keep k483 nin0
  have f486 := f453.keep k483 nin0
  have f487 := f454.keep k483 nin0
  have f488 := f455.keep k483 nin0
  have f489 := f456.keep k483 nin0
  have f490 := f457.keep k483 nin0
  have f491 := f458.keep k483 nin0
  have f492 := f459.keep k483 nin0
  have f493 := f460.keep k483 nin0
  have f494 := f461.keep k483 nin0
  have f495 := f462.keep k483 nin0
  have f496 := f463.keep k483 nin0
  have f497 := f464.keep k483
  have f498 := f465.keep k483 nin0
  have f499 := f466.keep k483 nin0
  have f500 := f467.keep k483 nin0
  have f501 := f468.keep k483
  have f502 := f469.keep k483 nin0
  have f503 := f470.keep k483 nin0
  have f504 := f471.keep k483 nin0
  have f505 := f472.keep k483
  have f506 := f473.keep k483 nin0
  have f507 := f474.keep k483 nin0
  have f508 := f475.keep k483 nin0
  have f509 := p450_1.keep k483
  have f510 := p450_2.keep k483 nin0
  have f511 := p450_3.keep k483 nin0
  have f512 := p450_4.keep k483 nin0
  have ge513 : n0 ≤ th := Nat.le_trans z450 p483_0
  have ne514 : a ≠ th := Nat.ne_of_lt (Nat.lt_of_lt_of_le f451.lt p483_0)
  have ne515 : sec ≠ th := Nat.ne_of_lt (Nat.lt_of_lt_of_le f464.lt p483_0)
  have ne516 : tg ≠ th := Nat.ne_of_lt (Nat.lt_of_lt_of_le p450_1.lt p483_0)
  have ne517 : thi ≠ th := Nat.ne_of_lt (Nat.lt_of_lt_of_le f468.lt p483_0)
  have ne518 : ugr ≠ th := Nat.ne_of_lt (Nat.lt_of_lt_of_le f472.lt p483_0)
  have ne519 : uv ≠ th := Nat.ne_of_lt (Nat.lt_of_lt_of_le f463.lt p483_0)
  have kp520 : h0.size ≤ th := Nat.le_trans K450.1 p483_0
  have z483 := Nat.le_trans z450 k483.1
  have K483 := K450.trans k483 all0
  have N483 := Fr.app N450 n483
  show Gf p e below P T483 m 187 #[.val (.ref a), .val (.ref f), .val (.ref ea), .val (.ref eb), .val (.ref uv), .val (.double av), .second, .val (.double bv), .second, .val (.double cv), .second, .val (.double iv), .second, .val (.ref sec), .val (.ref thi), .val (.ref ugr), .unset] [(.ref th), (.ref tg)]
  refine g_virt (argsL := [(.ref th)]) (pc' := 190) X483 hx hby (by rw [hml]; rfl) hZ hown e483 (own_rm13 l Z a0 hw [] tg th (FP.dmul sx dv2) (FP.dmul sy dv2) (FP.dmul sz dv2) (FP.dmul tx dv3) (FP.dmul ty dv3) (FP.dmul tz dv3) h483 n0 z483 f510 f511 f512 p483_2 p483_3 p483_4 nn187_nn12 nn187_nn21 nn187_nn30) (hw _ (List.mem_of_getElem? (i := 76) rfl)) (hw _ (List.mem_of_getElem? (i := 77) rfl)) (hw _ (List.mem_of_getElem? (i := 79) rfl)) (hw _ (List.mem_of_getElem? (i := 78) rfl)) (hw _ (List.mem_of_getElem? (i := 3) rfl)) (hw _ (List.mem_of_getElem? (i := 80) rfl)) (by decide) f509 own_pd4 rfl rfl (W := 0) rfl (by decide) (by decide) (by decide) (by decide) own_d6_187 rfl ?_
  intro T521 v521 L521 X521 qq521
  obtain ⟨h521, e521⟩ : ∃ h, T521.heap = h := ⟨_, rfl⟩
  rw [e521] at qq521
  obtain ⟨vgr, rfl, n521, k521, p521_0, p521_1, p521_2, p521_3, p521_4⟩ := qq521
  have f522 := f484.keep k521
  have f523 := f485.keep k521 nin0
  have f524 := f486.keep k521 nin0
  have f525 := f487.keep k521 nin0
  have f526 := f488.keep k521 nin0
  have f527 := f489.keep k521 nin0
  have f528 := f490.keep k521 nin0
  have f529 := f491.keep k521 nin0
  have f530 := f492.keep k521 nin0
  have f531 := f493.keep k521 nin0
  have f532 := f494.keep k521 nin0
  have f533 := f495.keep k521 nin0
  have f534 := f496.keep k521 nin0
  have f535 := f497.keep k521
  have f536 := f498.keep k521 nin0
  have f537 := f499.keep k521 nin0
  have f538 := f500.keep k521 nin0
  have f539 := f501.keep k521
  have f540 := f502.keep k521 nin0
  have f541 := f503.keep k521 nin0
  have f542 := f504.keep k521 nin0
  have f543 := f505.keep k521
  have f544 := f506.keep k521 nin0
  have f545 := f507.keep k521 nin0
  have f546 := f508.keep k521 nin0
  have f547 := f509.keep k521
  have f548 := f510.keep k521 nin0
  have f549 := f511.keep k521 nin0
  have f550 := f512.keep k521 nin0
  have f551 := p483_1.keep k521
  have f552 := p483_2.keep k521 nin0
  have f553 := p483_3.keep k521 nin0
  have f554 := p483_4.keep k521 nin0
  have ge555 : n0 ≤ vgr := Nat.le_trans z483 p521_0
  have ne556 : a ≠ vgr := Nat.ne_of_lt (Nat.lt_of_lt_of_le f484.lt p521_0)
  have ne557 : sec ≠ vgr := Nat.ne_of_lt (Nat.lt_of_lt_of_le f497.lt p521_0)
  have ne558 : tg ≠ vgr := Nat.ne_of_lt (Nat.lt_of_lt_of_le f509.lt p521_0)
  have ne559 : th ≠ vgr := Nat.ne_of_lt (Nat.lt_of_lt_of_le p483_1.lt p521_0)
  have ne560 : thi ≠ vgr := Nat.ne_of_lt (Nat.lt_of_lt_of_le f501.lt p521_0)
  have ne561 : ugr ≠ vgr := Nat.ne_of_lt (Nat.lt_of_lt_of_le f505.lt p521_0)
  have ne562 : uv ≠ vgr := Nat.ne_of_lt (Nat.lt_of_lt_of_le f496.lt p521_0)
  have kp563 : h0.size ≤ vgr := Nat.le_trans K483.1 p521_0
  have z521 := Nat.le_trans z483 k521.1
  have K521 := K483.trans k521 all0
  have N521 := Fr.app N483 n521
  show Gf p e below P T521 m 190 #[.val (.ref a), .val (.ref f), .val (.ref ea), .val (.ref eb), .val (.ref uv), .val (.double av), .second, .val (.double bv), .second, .val (.double cv), .second, .val (.double iv), .second, .val (.ref sec), .val (.ref thi), .val (.ref ugr), .unset] [(.ref vgr)]
  rw [E_wx] at p521_2
  rw [E_wy] at p521_3
  rw [E_wz] at p521_4
  refine g_astore (pc' := 192) (Ls' := #[.val (.ref a), .val (.ref f), .val (.ref ea), .val (.ref eb), .val (.ref uv), .val (.double av), .second, .val (.double bv), .second, .val (.double cv), .second, .val (.double iv), .second, .val (.ref sec), .val (.ref thi), .val (.ref ugr), .val (.ref vgr)]) X521 hx hby own_d6_190 rfl rfl rfl rfl ?_
  refine g_aloadN (pc' := 193) X521 hx hby (v := (.ref a)) own_d6_192 rfl rfl rfl ?_
  refine g_aload (pc' := 195) X521 hx hby (v := (.ref ugr)) own_d6_193 rfl rfl rfl ?_
  refine g_virt (argsL := []) (pc' := 198) X521 hx hby (by rw [hml]; rfl) hZ hown e521 (own_rm7 l Z a0 hw [] ugr gx h521 n0 z521 f544) (hw _ (List.mem_of_getElem? (i := 34) rfl)) (hw _ (List.mem_of_getElem? (i := 35) rfl)) (hw _ (List.mem_of_getElem? (i := 37) rfl)) (hw _ (List.mem_of_getElem? (i := 36) rfl)) (hw _ (List.mem_of_getElem? (i := 3) rfl)) (hw _ (List.mem_of_getElem? (i := 38) rfl)) (by decide) f543 own_pd1 rfl rfl (W := 1) rfl (by decide) (by decide) (by decide) (by decide) own_d6_195 rfl ?_
  intro T564 v564 L564 X564 qq564
  obtain ⟨rfl, n564, e564⟩ := qq564
  have N564 := Fr.app N521 n564
  show Gf p e below P T564 m 198 #[.val (.ref a), .val (.ref f), .val (.ref ea), .val (.ref eb), .val (.ref uv), .val (.double av), .second, .val (.double bv), .second, .val (.double cv), .second, .val (.double iv), .second, .val (.ref sec), .val (.ref thi), .val (.ref ugr), .val (.ref vgr)] [(.double gx), (.ref a)]
  refine g_putF (pc' := 201) X564 hx hby hZ hown (host := "") (Or.inl (hw _ (List.mem_of_getElem? (i := 81) rfl))) Via.refl e564 f528 f522 (Or.inr ⟨(hw _ (List.mem_of_getElem? (i := 82) rfl)), rfl, hnm⟩) (hw _ (List.mem_of_getElem? (i := 28) rfl)) (ty := .double) own_fd0 rfl rfl rfl own_d6_198 rfl N564 c12 ?_
  intro T565 h565 X565 e565 W565 N565
  have f566 := f522.wr W565
  have f567 := f523.other W565 (Or.inr (slot_ne (Or.inr (hw _ (List.mem_of_getElem? (i := 40) rfl))) (Or.inr (hw _ (List.mem_of_getElem? (i := 82) rfl))) own_nes56 own_fd0 own_fd0))
  have f568 := f524.other W565 (Or.inr (slot_ne (Or.inr (hw _ (List.mem_of_getElem? (i := 47) rfl))) (Or.inr (hw _ (List.mem_of_getElem? (i := 82) rfl))) own_nes57 own_fd0 own_fd0))
  have f569 := f525.other W565 (Or.inr (slot_ne (Or.inr (hw _ (List.mem_of_getElem? (i := 54) rfl))) (Or.inr (hw _ (List.mem_of_getElem? (i := 82) rfl))) own_nes58 own_fd0 own_fd0))
  have f570 := f526.other W565 (Or.inr (slot_ne (Or.inr (hw _ (List.mem_of_getElem? (i := 56) rfl))) (Or.inr (hw _ (List.mem_of_getElem? (i := 82) rfl))) own_nes59 own_fd0 own_fd0))
  have f571 := f527.other W565 (Or.inr (slot_ne (Or.inr (hw _ (List.mem_of_getElem? (i := 58) rfl))) (Or.inr (hw _ (List.mem_of_getElem? (i := 82) rfl))) own_nes60 own_fd0 own_fd0))
  have f572 := f528.same W565
  have f573 := f529.other W565 (Or.inr (slot_ne (Or.inr (hw _ (List.mem_of_getElem? (i := 84) rfl))) (Or.inr (hw _ (List.mem_of_getElem? (i := 82) rfl))) own_nes61 own_fd0 own_fd0))
  have f574 := f530.other W565 (Or.inr (slot_ne (Or.inr (hw _ (List.mem_of_getElem? (i := 86) rfl))) (Or.inr (hw _ (List.mem_of_getElem? (i := 82) rfl))) own_nes62 own_fd0 own_fd0))
  have f575 := f531.other W565 (Or.inr (slot_ne (Or.inr (hw _ (List.mem_of_getElem? (i := 88) rfl))) (Or.inr (hw _ (List.mem_of_getElem? (i := 82) rfl))) own_nes63 own_fd0 own_fd0))
  have f576 := f532.other W565 (Or.inr (slot_ne (Or.inr (hw _ (List.mem_of_getElem? (i := 90) rfl))) (Or.inr (hw _ (List.mem_of_getElem? (i := 82) rfl))) own_nes64 own_fd0 own_fd0))
  have f577 := f533.other W565 (Or.inr (slot_ne (Or.inr (hw _ (List.mem_of_getElem? (i := 92) rfl))) (Or.inr (hw _ (List.mem_of_getElem? (i := 82) rfl))) own_nes65 own_fd0 own_fd0))
  have f578 := f543.wr W565
  have f579 := f544.other W565 (Or.inl (Ne.symm ne443))
  have f580 := f545.other W565 (Or.inl (Ne.symm ne443))
  have f581 := f546.other W565 (Or.inl (Ne.symm ne443))
  have f582 := p521_1.wr W565
  have f583 := p521_2.other W565 (Or.inl (Ne.symm ne556))
  have f584 := p521_3.other W565 (Or.inl (Ne.symm ne556))
  have f585 := p521_4.other W565 (Or.inl (Ne.symm ne556))
  have z565 := Nat.le_trans z521 (Keep.of_wr W565).1
  have K565 := K521.wr W565 (Or.inl (List.mem_of_getElem? (i := 0) rfl))
  refine g_aloadN (pc' := 202) X565 hx hby (v := (.ref a)) own_d6_201 rfl rfl rfl ?_
  refine g_aload (pc' := 204) X565 hx hby (v := (.ref ugr)) own_d6_202 rfl rfl rfl ?_
  refine g_virt (argsL := []) (pc' := 207) X565 hx hby (by rw [hml]; rfl) hZ hown e565 (own_rm8 l Z a0 hw [] ugr gy h565 n0 z565 f580) (hw _ (List.mem_of_getElem? (i := 41) rfl)) (hw _ (List.mem_of_getElem? (i := 42) rfl)) (hw _ (List.mem_of_getElem? (i := 44) rfl)) (hw _ (List.mem_of_getElem? (i := 43) rfl)) (hw _ (List.mem_of_getElem? (i := 3) rfl)) (hw _ (List.mem_of_getElem? (i := 45) rfl)) (by decide) f578 own_pd1 rfl rfl (W := 1) rfl (by decide) (by decide) (by decide) (by decide) own_d6_204 rfl ?_
  intro T586 v586 L586 X586 qq586
  obtain ⟨rfl, n586, e586⟩ := qq586
  have N586 := Fr.app N565 n586
  show Gf p e below P T586 m 207 #[.val (.ref a), .val (.ref f), .val (.ref ea), .val (.ref eb), .val (.ref uv), .val (.double av), .second, .val (.double bv), .second, .val (.double cv), .second, .val (.double iv), .second, .val (.ref sec), .val (.ref thi), .val (.ref ugr), .val (.ref vgr)] [(.double gy), (.ref a)]
  refine g_putF (pc' := 210) X586 hx hby hZ hown (host := "") (Or.inl (hw _ (List.mem_of_getElem? (i := 83) rfl))) Via.refl e586 f573 f566 (Or.inr ⟨(hw _ (List.mem_of_getElem? (i := 84) rfl)), rfl, hnm⟩) (hw _ (List.mem_of_getElem? (i := 28) rfl)) (ty := .double) own_fd0 rfl rfl rfl own_d6_207 rfl N586 c12 ?_
  intro T587 h587 X587 e587 W587 N587
  have f588 := f566.wr W587
  have f589 := f567.other W587 (Or.inr (slot_ne (Or.inr (hw _ (List.mem_of_getElem? (i := 40) rfl))) (Or.inr (hw _ (List.mem_of_getElem? (i := 84) rfl))) own_nes66 own_fd0 own_fd0))
  have f590 := f568.other W587 (Or.inr (slot_ne (Or.inr (hw _ (List.mem_of_getElem? (i := 47) rfl))) (Or.inr (hw _ (List.mem_of_getElem? (i := 84) rfl))) own_nes67 own_fd0 own_fd0))
  have f591 := f569.other W587 (Or.inr (slot_ne (Or.inr (hw _ (List.mem_of_getElem? (i := 54) rfl))) (Or.inr (hw _ (List.mem_of_getElem? (i := 84) rfl))) own_nes68 own_fd0 own_fd0))
  have f592 := f570.other W587 (Or.inr (slot_ne (Or.inr (hw _ (List.mem_of_getElem? (i := 56) rfl))) (Or.inr (hw _ (List.mem_of_getElem? (i := 84) rfl))) own_nes69 own_fd0 own_fd0))
  have f593 := f571.other W587 (Or.inr (slot_ne (Or.inr (hw _ (List.mem_of_getElem? (i := 58) rfl))) (Or.inr (hw _ (List.mem_of_getElem? (i := 84) rfl))) own_nes70 own_fd0 own_fd0))
  have f594 := f572.other W587 (Or.inr (slot_ne (Or.inr (hw _ (List.mem_of_getElem? (i := 82) rfl))) (Or.inr (hw _ (List.mem_of_getElem? (i := 84) rfl))) own_nes71 own_fd0 own_fd0))
  have f595 := f573.same W587
  have f596 := f574.other W587 (Or.inr (slot_ne (Or.inr (hw _ (List.mem_of_getElem? (i := 86) rfl))) (Or.inr (hw _ (List.mem_of_getElem? (i := 84) rfl))) own_nes72 own_fd0 own_fd0))
  have f597 := f575.other W587 (Or.inr (slot_ne (Or.inr (hw _ (List.mem_of_getElem? (i := 88) rfl))) (Or.inr (hw _ (List.mem_of_getElem? (i := 84) rfl))) own_nes73 own_fd0 own_fd0))
  have f598 := f576.other W587 (Or.inr (slot_ne (Or.inr (hw _ (List.mem_of_getElem? (i := 90) rfl))) (Or.inr (hw _ (List.mem_of_getElem? (i := 84) rfl))) own_nes74 own_fd0 own_fd0))
  have f599 := f577.other W587 (Or.inr (slot_ne (Or.inr (hw _ (List.mem_of_getElem? (i := 92) rfl))) (Or.inr (hw _ (List.mem_of_getElem? (i := 84) rfl))) own_nes75 own_fd0 own_fd0))
  have f600 := f578.wr W587
  have f601 := f579.other W587 (Or.inl (Ne.symm ne443))
  have f602 := f580.other W587 (Or.inl (Ne.symm ne443))
  have f603 := f581.other W587 (Or.inl (Ne.symm ne443))
  have f604 := f582.wr W587
  have f605 := f583.other W587 (Or.inl (Ne.symm ne556))
  have f606 := f584.other W587 (Or.inl (Ne.symm ne556))
  have f607 := f585.other W587 (Or.inl (Ne.symm ne556))
  have z587 := Nat.le_trans z565 (Keep.of_wr W587).1
  have K587 := K565.wr W587 (Or.inl (List.mem_of_getElem? (i := 0) rfl))
  refine g_aloadN (pc' := 211) X587 hx hby (v := (.ref a)) own_d6_210 rfl rfl rfl ?_
  refine g_aload (pc' := 213) X587 hx hby (v := (.ref ugr)) own_d6_211 rfl rfl rfl ?_
  refine g_virt (argsL := []) (pc' := 216) X587 hx hby (by rw [hml]; rfl) hZ hown e587 (own_rm9 l Z a0 hw [] ugr gz h587 n0 z587 f603) (hw _ (List.mem_of_getElem? (i := 48) rfl)) (hw _ (List.mem_of_getElem? (i := 49) rfl)) (hw _ (List.mem_of_getElem? (i := 51) rfl)) (hw _ (List.mem_of_getElem? (i := 50) rfl)) (hw _ (List.mem_of_getElem? (i := 3) rfl)) (hw _ (List.mem_of_getElem? (i := 52) rfl)) (by decide) f600 own_pd1 rfl rfl (W := 1) rfl (by decide) (by decide) (by decide) (by decide) own_d6_213 rfl ?_
  intro T608 v608 L608 X608 qq608
  obtain ⟨rfl, n608, e608⟩ := qq608
  have N608 := Fr.app N587 n608
  show Gf p e below P T608 m 216 #[.val (.ref a), .val (.ref f), .val (.ref ea), .val (.ref eb), .val (.ref uv), .val (.double av), .second, .val (.double bv), .second, .val (.double cv), .second, .val (.double iv), .second, .val (.ref sec), .val (.ref thi), .val (.ref ugr), .val (.ref vgr)] [(.double gz), (.ref a)]
  refine g_putF (pc' := 219) X608 hx hby hZ hown (host := "") (Or.inl (hw _ (List.mem_of_getElem? (i := 85) rfl))) Via.refl e608 f596 f588 (Or.inr ⟨(hw _ (List.mem_of_getElem? (i := 86) rfl)), rfl, hnm⟩) (hw _ (List.mem_of_getElem? (i := 28) rfl)) (ty := .double) own_fd0 rfl rfl rfl own_d6_216 rfl N608 c12 ?_
  intro T609 h609 X609 e609 W609 N609
  have f610 := f588.wr W609
  have f611 := f589.other W609 (Or.inr (slot_ne (Or.inr (hw _ (List.mem_of_getElem? (i := 40) rfl))) (Or.inr (hw _ (List.mem_of_getElem? (i := 86) rfl))) own_nes76 own_fd0 own_fd0))
  have f612 := f590.other W609 (Or.inr (slot_ne (Or.inr (hw _ (List.mem_of_getElem? (i := 47) rfl))) (Or.inr (hw _ (List.mem_of_getElem? (i := 86) rfl))) own_nes77 own_fd0 own_fd0))
  have f613 := f591.other W609 (Or.inr (slot_ne (Or.inr (hw _ (List.mem_of_getElem? (i := 54) rfl))) (Or.inr (hw _ (List.mem_of_getElem? (i := 86) rfl))) own_nes78 own_fd0 own_fd0))
  have f614 := f592.other W609 (Or.inr (slot_ne (Or.inr (hw _ (List.mem_of_getElem? (i := 56) rfl))) (Or.inr (hw _ (List.mem_of_getElem? (i := 86) rfl))) own_nes79 own_fd0 own_fd0))
  have f615 := f593.other W609 (Or.inr (slot_ne (Or.inr (hw _ (List.mem_of_getElem? (i := 58) rfl))) (Or.inr (hw _ (List.mem_of_getElem? (i := 86) rfl))) own_nes80 own_fd0 own_fd0))
  have f616 := f594.other W609 (Or.inr (slot_ne (Or.inr (hw _ (List.mem_of_getElem? (i := 82) rfl))) (Or.inr (hw _ (List.mem_of_getElem? (i := 86) rfl))) own_nes81 own_fd0 own_fd0))
  have f617 := f595.other W609 (Or.inr (slot_ne (Or.inr (hw _ (List.mem_of_getElem? (i := 84) rfl))) (Or.inr (hw _ (List.mem_of_getElem? (i := 86) rfl))) own_nes82 own_fd0 own_fd0))
  have f618 := f596.same W609
  have f619 := f597.other W609 (Or.inr (slot_ne (Or.inr (hw _ (List.mem_of_getElem? (i := 88) rfl))) (Or.inr (hw _ (List.mem_of_getElem? (i := 86) rfl))) own_nes83 own_fd0 own_fd0))
  have f620 := f598.other W609 (Or.inr (slot_ne (Or.inr (hw _ (List.mem_of_getElem? (i := 90) rfl))) (Or.inr (hw _ (List.mem_of_getElem? (i := 86) rfl))) own_nes84 own_fd0 own_fd0))
  have f621 := f599.other W609 (Or.inr (slot_ne (Or.inr (hw _ (List.mem_of_getElem? (i := 92) rfl))) (Or.inr (hw _ (List.mem_of_getElem? (i := 86) rfl))) own_nes85 own_fd0 own_fd0))
  have f622 := f600.wr W609
  have f623 := f601.other W609 (Or.inl (Ne.symm ne443))
  have f624 := f602.other W609 (Or.inl (Ne.symm ne443))
  have f625 := f603.other W609 (Or.inl (Ne.symm ne443))
  have f626 := f604.wr W609
  have f627 := f605.other W609 (Or.inl (Ne.symm ne556))
  have f628 := f606.other W609 (Or.inl (Ne.symm ne556))
  have f629 := f607.other W609 (Or.inl (Ne.symm ne556))
  have z609 := Nat.le_trans z587 (Keep.of_wr W609).1
  have K609 := K587.wr W609 (Or.inl (List.mem_of_getElem? (i := 0) rfl))
  refine g_aloadN (pc' := 220) X609 hx hby (v := (.ref a)) own_d6_219 rfl rfl rfl ?_
  refine g_aload (pc' := 222) X609 hx hby (v := (.ref vgr)) own_d6_220 rfl rfl rfl ?_
  refine g_virt (argsL := []) (pc' := 225) X609 hx hby (by rw [hml]; rfl) hZ hown e609 (own_rm7 l Z a0 hw [] vgr wx h609 n0 z609 f627) (hw _ (List.mem_of_getElem? (i := 34) rfl)) (hw _ (List.mem_of_getElem? (i := 35) rfl)) (hw _ (List.mem_of_getElem? (i := 37) rfl)) (hw _ (List.mem_of_getElem? (i := 36) rfl)) (hw _ (List.mem_of_getElem? (i := 3) rfl)) (hw _ (List.mem_of_getElem? (i := 38) rfl)) (by decide) f626 own_pd1 rfl rfl (W := 1) rfl (by decide) (by decide) (by decide) (by decide) own_d6_222 rfl ?_
  intro T630 v630 L630 X630 qq630
  obtain ⟨rfl, n630, e630⟩ := qq630
  have N630 := Fr.app N609 n630
  show Gf p e below P T630 m 225 #[.val (.ref a), .val (.ref f), .val (.ref ea), .val (.ref eb), .val (.ref uv), .val (.double av), .second, .val (.double bv), .second, .val (.double cv), .second, .val (.double iv), .second, .val (.ref sec), .val (.ref thi), .val (.ref ugr), .val (.ref vgr)] [(.double wx), (.ref a)]
  refine g_putF (pc' := 228) X630 hx hby hZ hown (host := "") (Or.inl (hw _ (List.mem_of_getElem? (i := 87) rfl))) Via.refl e630 f619 f610 (Or.inr ⟨(hw _ (List.mem_of_getElem? (i := 88) rfl)), rfl, hnm⟩) (hw _ (List.mem_of_getElem? (i := 28) rfl)) (ty := .double) own_fd0 rfl rfl rfl own_d6_225 rfl N630 c12 ?_
  intro T631 h631 X631 e631 W631 N631
  have f632 := f610.wr W631
  have f633 := f611.other W631 (Or.inr (slot_ne (Or.inr (hw _ (List.mem_of_getElem? (i := 40) rfl))) (Or.inr (hw _ (List.mem_of_getElem? (i := 88) rfl))) own_nes86 own_fd0 own_fd0))
  have f634 := f612.other W631 (Or.inr (slot_ne (Or.inr (hw _ (List.mem_of_getElem? (i := 47) rfl))) (Or.inr (hw _ (List.mem_of_getElem? (i := 88) rfl))) own_nes87 own_fd0 own_fd0))
  have f635 := f613.other W631 (Or.inr (slot_ne (Or.inr (hw _ (List.mem_of_getElem? (i := 54) rfl))) (Or.inr (hw _ (List.mem_of_getElem? (i := 88) rfl))) own_nes88 own_fd0 own_fd0))
  have f636 := f614.other W631 (Or.inr (slot_ne (Or.inr (hw _ (List.mem_of_getElem? (i := 56) rfl))) (Or.inr (hw _ (List.mem_of_getElem? (i := 88) rfl))) own_nes89 own_fd0 own_fd0))
  have f637 := f615.other W631 (Or.inr (slot_ne (Or.inr (hw _ (List.mem_of_getElem? (i := 58) rfl))) (Or.inr (hw _ (List.mem_of_getElem? (i := 88) rfl))) own_nes90 own_fd0 own_fd0))
  have f638 := f616.other W631 (Or.inr (slot_ne (Or.inr (hw _ (List.mem_of_getElem? (i := 82) rfl))) (Or.inr (hw _ (List.mem_of_getElem? (i := 88) rfl))) own_nes91 own_fd0 own_fd0))
  have f639 := f617.other W631 (Or.inr (slot_ne (Or.inr (hw _ (List.mem_of_getElem? (i := 84) rfl))) (Or.inr (hw _ (List.mem_of_getElem? (i := 88) rfl))) own_nes92 own_fd0 own_fd0))
  have f640 := f618.other W631 (Or.inr (slot_ne (Or.inr (hw _ (List.mem_of_getElem? (i := 86) rfl))) (Or.inr (hw _ (List.mem_of_getElem? (i := 88) rfl))) own_nes93 own_fd0 own_fd0))
  have f641 := f619.same W631
  have f642 := f620.other W631 (Or.inr (slot_ne (Or.inr (hw _ (List.mem_of_getElem? (i := 90) rfl))) (Or.inr (hw _ (List.mem_of_getElem? (i := 88) rfl))) own_nes94 own_fd0 own_fd0))
  have f643 := f621.other W631 (Or.inr (slot_ne (Or.inr (hw _ (List.mem_of_getElem? (i := 92) rfl))) (Or.inr (hw _ (List.mem_of_getElem? (i := 88) rfl))) own_nes95 own_fd0 own_fd0))
  have f644 := f622.wr W631
  have f645 := f623.other W631 (Or.inl (Ne.symm ne443))
  have f646 := f624.other W631 (Or.inl (Ne.symm ne443))
  have f647 := f625.other W631 (Or.inl (Ne.symm ne443))
  have f648 := f626.wr W631
  have f649 := f627.other W631 (Or.inl (Ne.symm ne556))
  have f650 := f628.other W631 (Or.inl (Ne.symm ne556))
  have f651 := f629.other W631 (Or.inl (Ne.symm ne556))
  have z631 := Nat.le_trans z609 (Keep.of_wr W631).1
  have K631 := K609.wr W631 (Or.inl (List.mem_of_getElem? (i := 0) rfl))
  refine g_aloadN (pc' := 229) X631 hx hby (v := (.ref a)) own_d6_228 rfl rfl rfl ?_
  refine g_aload (pc' := 231) X631 hx hby (v := (.ref vgr)) own_d6_229 rfl rfl rfl ?_
  refine g_virt (argsL := []) (pc' := 234) X631 hx hby (by rw [hml]; rfl) hZ hown e631 (own_rm8 l Z a0 hw [] vgr wy h631 n0 z631 f650) (hw _ (List.mem_of_getElem? (i := 41) rfl)) (hw _ (List.mem_of_getElem? (i := 42) rfl)) (hw _ (List.mem_of_getElem? (i := 44) rfl)) (hw _ (List.mem_of_getElem? (i := 43) rfl)) (hw _ (List.mem_of_getElem? (i := 3) rfl)) (hw _ (List.mem_of_getElem? (i := 45) rfl)) (by decide) f648 own_pd1 rfl rfl (W := 1) rfl (by decide) (by decide) (by decide) (by decide) own_d6_231 rfl ?_
  intro T652 v652 L652 X652 qq652
  obtain ⟨rfl, n652, e652⟩ := qq652
  have N652 := Fr.app N631 n652
  show Gf p e below P T652 m 234 #[.val (.ref a), .val (.ref f), .val (.ref ea), .val (.ref eb), .val (.ref uv), .val (.double av), .second, .val (.double bv), .second, .val (.double cv), .second, .val (.double iv), .second, .val (.ref sec), .val (.ref thi), .val (.ref ugr), .val (.ref vgr)] [(.double wy), (.ref a)]
  refine g_putF (pc' := 237) X652 hx hby hZ hown (host := "") (Or.inl (hw _ (List.mem_of_getElem? (i := 89) rfl))) Via.refl e652 f642 f632 (Or.inr ⟨(hw _ (List.mem_of_getElem? (i := 90) rfl)), rfl, hnm⟩) (hw _ (List.mem_of_getElem? (i := 28) rfl)) (ty := .double) own_fd0 rfl rfl rfl own_d6_234 rfl N652 c12 ?_
  intro T653 h653 X653 e653 W653 N653
  have f654 := f632.wr W653
  have f655 := f633.other W653 (Or.inr (slot_ne (Or.inr (hw _ (List.mem_of_getElem? (i := 40) rfl))) (Or.inr (hw _ (List.mem_of_getElem? (i := 90) rfl))) own_nes96 own_fd0 own_fd0))
  have f656 := f634.other W653 (Or.inr (slot_ne (Or.inr (hw _ (List.mem_of_getElem? (i := 47) rfl))) (Or.inr (hw _ (List.mem_of_getElem? (i := 90) rfl))) own_nes97 own_fd0 own_fd0))
  have f657 := f635.other W653 (Or.inr (slot_ne (Or.inr (hw _ (List.mem_of_getElem? (i := 54) rfl))) (Or.inr (hw _ (List.mem_of_getElem? (i := 90) rfl))) own_nes98 own_fd0 own_fd0))
  have f658 := f636.other W653 (Or.inr (slot_ne (Or.inr (hw _ (List.mem_of_getElem? (i := 56) rfl))) (Or.inr (hw _ (List.mem_of_getElem? (i := 90) rfl))) own_nes99 own_fd0 own_fd0))
  have f659 := f637.other W653 (Or.inr (slot_ne (Or.inr (hw _ (List.mem_of_getElem? (i := 58) rfl))) (Or.inr (hw _ (List.mem_of_getElem? (i := 90) rfl))) own_nes100 own_fd0 own_fd0))
  have f660 := f638.other W653 (Or.inr (slot_ne (Or.inr (hw _ (List.mem_of_getElem? (i := 82) rfl))) (Or.inr (hw _ (List.mem_of_getElem? (i := 90) rfl))) own_nes101 own_fd0 own_fd0))
  have f661 := f639.other W653 (Or.inr (slot_ne (Or.inr (hw _ (List.mem_of_getElem? (i := 84) rfl))) (Or.inr (hw _ (List.mem_of_getElem? (i := 90) rfl))) own_nes102 own_fd0 own_fd0))
  have f662 := f640.other W653 (Or.inr (slot_ne (Or.inr (hw _ (List.mem_of_getElem? (i := 86) rfl))) (Or.inr (hw _ (List.mem_of_getElem? (i := 90) rfl))) own_nes103 own_fd0 own_fd0))
  have f663 := f641.other W653 (Or.inr (slot_ne (Or.inr (hw _ (List.mem_of_getElem? (i := 88) rfl))) (Or.inr (hw _ (List.mem_of_getElem? (i := 90) rfl))) own_nes104 own_fd0 own_fd0))
  have f664 := f642.same W653
  have f665 := f643.other W653 (Or.inr (slot_ne (Or.inr (hw _ (List.mem_of_getElem? (i := 92) rfl))) (Or.inr (hw _ (List.mem_of_getElem? (i := 90) rfl))) own_nes105 own_fd0 own_fd0))
  have f666 := f644.wr W653
  have f667 := f645.other W653 (Or.inl (Ne.symm ne443))
  have f668 := f646.other W653 (Or.inl (Ne.symm ne443))
  have f669 := f647.other W653 (Or.inl (Ne.symm ne443))
  have f670 := f648.wr W653
  have f671 := f649.other W653 (Or.inl (Ne.symm ne556))
  have f672 := f650.other W653 (Or.inl (Ne.symm ne556))
  have f673 := f651.other W653 (Or.inl (Ne.symm ne556))
  have z653 := Nat.le_trans z631 (Keep.of_wr W653).1
  have K653 := K631.wr W653 (Or.inl (List.mem_of_getElem? (i := 0) rfl))
  refine g_aloadN (pc' := 238) X653 hx hby (v := (.ref a)) own_d6_237 rfl rfl rfl ?_
  refine g_aload (pc' := 240) X653 hx hby (v := (.ref vgr)) own_d6_238 rfl rfl rfl ?_
  refine g_virt (argsL := []) (pc' := 243) X653 hx hby (by rw [hml]; rfl) hZ hown e653 (own_rm9 l Z a0 hw [] vgr wz h653 n0 z653 f673) (hw _ (List.mem_of_getElem? (i := 48) rfl)) (hw _ (List.mem_of_getElem? (i := 49) rfl)) (hw _ (List.mem_of_getElem? (i := 51) rfl)) (hw _ (List.mem_of_getElem? (i := 50) rfl)) (hw _ (List.mem_of_getElem? (i := 3) rfl)) (hw _ (List.mem_of_getElem? (i := 52) rfl)) (by decide) f670 own_pd1 rfl rfl (W := 1) rfl (by decide) (by decide) (by decide) (by decide) own_d6_240 rfl ?_
  intro T674 v674 L674 X674 qq674
  obtain ⟨rfl, n674, e674⟩ := qq674
  have N674 := Fr.app N653 n674
  show Gf p e below P T674 m 243 #[.val (.ref a), .val (.ref f), .val (.ref ea), .val (.ref eb), .val (.ref uv), .val (.double av), .second, .val (.double bv), .second, .val (.double cv), .second, .val (.double iv), .second, .val (.ref sec), .val (.ref thi), .val (.ref ugr), .val (.ref vgr)] [(.double wz), (.ref a)]
  refine g_putF (pc' := 246) X674 hx hby hZ hown (host := "") (Or.inl (hw _ (List.mem_of_getElem? (i := 91) rfl))) Via.refl e674 f665 f654 (Or.inr ⟨(hw _ (List.mem_of_getElem? (i := 92) rfl)), rfl, hnm⟩) (hw _ (List.mem_of_getElem? (i := 28) rfl)) (ty := .double) own_fd0 rfl rfl rfl own_d6_243 rfl N674 c12 ?_
  intro T675 h675 X675 e675 W675 N675
  have f676 := f654.wr W675
  have f677 := f655.other W675 (Or.inr (slot_ne (Or.inr (hw _ (List.mem_of_getElem? (i := 40) rfl))) (Or.inr (hw _ (List.mem_of_getElem? (i := 92) rfl))) own_nes106 own_fd0 own_fd0))
  have f678 := f656.other W675 (Or.inr (slot_ne (Or.inr (hw _ (List.mem_of_getElem? (i := 47) rfl))) (Or.inr (hw _ (List.mem_of_getElem? (i := 92) rfl))) own_nes107 own_fd0 own_fd0))
  have f679 := f657.other W675 (Or.inr (slot_ne (Or.inr (hw _ (List.mem_of_getElem? (i := 54) rfl))) (Or.inr (hw _ (List.mem_of_getElem? (i := 92) rfl))) own_nes108 own_fd0 own_fd0))
  have f680 := f658.other W675 (Or.inr (slot_ne (Or.inr (hw _ (List.mem_of_getElem? (i := 56) rfl))) (Or.inr (hw _ (List.mem_of_getElem? (i := 92) rfl))) own_nes109 own_fd0 own_fd0))
  have f681 := f659.other W675 (Or.inr (slot_ne (Or.inr (hw _ (List.mem_of_getElem? (i := 58) rfl))) (Or.inr (hw _ (List.mem_of_getElem? (i := 92) rfl))) own_nes110 own_fd0 own_fd0))
  have f682 := f660.other W675 (Or.inr (slot_ne (Or.inr (hw _ (List.mem_of_getElem? (i := 82) rfl))) (Or.inr (hw _ (List.mem_of_getElem? (i := 92) rfl))) own_nes111 own_fd0 own_fd0))
  have f683 := f661.other W675 (Or.inr (slot_ne (Or.inr (hw _ (List.mem_of_getElem? (i := 84) rfl))) (Or.inr (hw _ (List.mem_of_getElem? (i := 92) rfl))) own_nes112 own_fd0 own_fd0))
  have f684 := f662.other W675 (Or.inr (slot_ne (Or.inr (hw _ (List.mem_of_getElem? (i := 86) rfl))) (Or.inr (hw _ (List.mem_of_getElem? (i := 92) rfl))) own_nes113 own_fd0 own_fd0))
  have f685 := f663.other W675 (Or.inr (slot_ne (Or.inr (hw _ (List.mem_of_getElem? (i := 88) rfl))) (Or.inr (hw _ (List.mem_of_getElem? (i := 92) rfl))) own_nes114 own_fd0 own_fd0))
  have f686 := f664.other W675 (Or.inr (slot_ne (Or.inr (hw _ (List.mem_of_getElem? (i := 90) rfl))) (Or.inr (hw _ (List.mem_of_getElem? (i := 92) rfl))) own_nes115 own_fd0 own_fd0))
  have f687 := f665.same W675
  have f688 := f666.wr W675
  have f689 := f667.other W675 (Or.inl (Ne.symm ne443))
  have f690 := f668.other W675 (Or.inl (Ne.symm ne443))
  have f691 := f669.other W675 (Or.inl (Ne.symm ne443))
  have f692 := f670.wr W675
  have f693 := f671.other W675 (Or.inl (Ne.symm ne556))
  have f694 := f672.other W675 (Or.inl (Ne.symm ne556))
  have f695 := f673.other W675 (Or.inl (Ne.symm ne556))
  have z675 := Nat.le_trans z653 (Keep.of_wr W675).1
  have K675 := K653.wr W675 (Or.inl (List.mem_of_getElem? (i := 0) rfl))
  exact g_ret X675 hx hby hf hlk hret own_d6_246 rfl (by decide) (by decide) e675 ⟨rfl, N675, K675, f676, f677, f678, f679, f680, f681, f682, f683, f684, f685, f686, f687⟩
theorem own_d14_0 : decode prog_68_method_3_code 0 = .ok (.aload_n 0, 1) := by decide +kernel
theorem own_d14_1 : decode prog_68_method_3_code 1 = .ok (.getfield 34, 3) := by decide +kernel
theorem own_d14_4 : decode prog_68_method_3_code 4 = .ok (.dload_n 1, 1) := by decide +kernel
theorem own_d14_5 : decode prog_68_method_3_code 5 = .ok (.aload_n 0, 1) := by decide +kernel
theorem own_d14_6 : decode prog_68_method_3_code 6 = .ok (.getfield 13, 3) := by decide +kernel
theorem own_d14_9 : decode prog_68_method_3_code 9 = .ok (.dsub, 1) := by decide +kernel
theorem own_d14_10 : decode prog_68_method_3_code 10 = .ok (.aload_n 0, 1) := by decide +kernel
theorem own_d14_11 : decode prog_68_method_3_code 11 = .ok (.getfield 61, 3) := by decide +kernel
theorem own_d14_14 : decode prog_68_method_3_code 14 = .ok (.dmul, 1) := by decide +kernel
theorem own_d14_15 : decode prog_68_method_3_code 15 = .ok (.dadd, 1) := by decide +kernel
theorem own_d14_16 : decode prog_68_method_3_code 16 = .ok (.dload_n 3, 1) := by decide +kernel
theorem own_d14_17 : decode prog_68_method_3_code 17 = .ok (.aload_n 0, 1) := by decide +kernel
theorem own_d14_18 : decode prog_68_method_3_code 18 = .ok (.getfield 22, 3) := by decide +kernel
theorem own_d14_21 : decode prog_68_method_3_code 21 = .ok (.dsub, 1) := by decide +kernel
theorem own_d14_22 : decode prog_68_method_3_code 22 = .ok (.aload_n 0, 1) := by decide +kernel
theorem own_d14_23 : decode prog_68_method_3_code 23 = .ok (.getfield 64, 3) := by decide +kernel
theorem own_d14_26 : decode prog_68_method_3_code 26 = .ok (.dmul, 1) := by decide +kernel
theorem own_d14_27 : decode prog_68_method_3_code 27 = .ok (.dadd, 1) := by decide +kernel
theorem own_d14_28 : decode prog_68_method_3_code 28 = .ok (.dload 5, 2) := by decide +kernel
theorem own_d14_30 : decode prog_68_method_3_code 30 = .ok (.aload_n 0, 1) := by decide +kernel
theorem own_d14_31 : decode prog_68_method_3_code 31 = .ok (.getfield 28, 3) := by decide +kernel
theorem own_d14_34 : decode prog_68_method_3_code 34 = .ok (.dsub, 1) := by decide +kernel
theorem own_d14_35 : decode prog_68_method_3_code 35 = .ok (.aload_n 0, 1) := by decide +kernel
theorem own_d14_36 : decode prog_68_method_3_code 36 = .ok (.getfield 67, 3) := by decide +kernel
theorem own_d14_39 : decode prog_68_method_3_code 39 = .ok (.dmul, 1) := by decide +kernel
theorem own_d14_40 : decode prog_68_method_3_code 40 = .ok (.dadd, 1) := by decide +kernel
theorem own_d14_41 : decode prog_68_method_3_code 41 = .ok (.dreturn, 1) := by decide +kernel
def own_Q14 (Z : State) (a : Addr) (px : UInt64) (py : UInt64) (pz : UInt64) (cu : UInt64) (fx : UInt64) (gx : UInt64) (fy : UInt64) (gy : UInt64) (fz : UInt64) (gz : UInt64) (h0 : Heap) (n0 : Nat) (v : Option Value) (h : Heap) (L : List Loc) : Prop := v = some (.double (FP.dadd (FP.dadd (FP.dadd cu (FP.dmul (FP.dsub px fx) gx)) (FP.dmul (FP.dsub py fy) gy)) (FP.dmul (FP.dsub pz fz) gz))) ∧ Fr n0 L ∧ h = h0
set_option maxRecDepth 65536 in
set_option maxHeartbeats 40000000 in
theorem own_rm14 (l : Launch) (Z : State) (a0 : Array Value) (hw : ∀ d ∈ tables_1, d.before a0 Z = true) (ws : List Jvm.Cond) (a : Addr) (px : UInt64) (py : UInt64) (pz : UInt64) (cu : UInt64) (fx : UInt64) (gx : UInt64) (fy : UInt64) (gy : UInt64) (fz : UInt64) (gz : UInt64) (h0 : Heap) (n0 : Nat) (Z0 : n0 ≤ h0.size) (c0 : Fld Z h0 a "com/example/stochastic_ray_tracer/stochasticraytracer/TextureCoordinates" "cornerV" "D" (.double cu)) (c1 : Fld Z h0 a "com/example/stochastic_ray_tracer/stochasticraytracer/TextureCoordinates" "cornerX" "D" (.double fx)) (c2 : Fld Z h0 a "com/example/stochastic_ray_tracer/stochasticraytracer/TextureCoordinates" "vGradientX" "D" (.double gx)) (c3 : Fld Z h0 a "com/example/stochastic_ray_tracer/stochasticraytracer/TextureCoordinates" "cornerY" "D" (.double fy)) (c4 : Fld Z h0 a "com/example/stochastic_ray_tracer/stochasticraytracer/TextureCoordinates" "vGradientY" "D" (.double gy)) (c5 : Fld Z h0 a "com/example/stochastic_ray_tracer/stochasticraytracer/TextureCoordinates" "cornerZ" "D" (.double fz)) (c6 : Fld Z h0 a "com/example/stochastic_ray_tracer/stochasticraytracer/TextureCoordinates" "vGradientZ" "D" (.double gz)) (nn9 : Jvm.Free.Fl.NoNaN64 (FP.dsub px fx)) (nn14 : Jvm.Free.Fl.NoNaN64 (FP.dmul (FP.dsub px fx) gx)) (nn15 : Jvm.Free.Fl.NoNaN64 (FP.dadd cu (FP.dmul (FP.dsub px fx) gx))) (nn21 : Jvm.Free.Fl.NoNaN64 (FP.dsub py fy)) (nn26 : Jvm.Free.Fl.NoNaN64 (FP.dmul (FP.dsub py fy) gy)) (nn27 : Jvm.Free.Fl.NoNaN64 (FP.dadd (FP.dadd cu (FP.dmul (FP.dsub px fx) gx)) (FP.dmul (FP.dsub py fy) gy))) (nn34 : Jvm.Free.Fl.NoNaN64 (FP.dsub pz fz)) (nn39 : Jvm.Free.Fl.NoNaN64 (FP.dmul (FP.dsub pz fz) gz)) (nn40 : Jvm.Free.Fl.NoNaN64 (FP.dadd (FP.dadd (FP.dadd cu (FP.dmul (FP.dsub px fx) gx)) (FP.dmul (FP.dsub py fy) gy)) (FP.dmul (FP.dsub pz fz) gz))) :
    Con l Z (⟨"com/example/stochastic_ray_tracer/stochasticraytracer/TextureCoordinates", "v", "(DDD)D"⟩ : MethodName) prog_68_method_3_code 7 (some .double) ws ({ frames := 0, cells := 0, slots := 0, locals := 0 } : Room) #[(.ref a), (.double px), (.double py), (.double pz)] h0 (own_Q14 Z a px py pz cu fx gx fy gy fz gz h0 n0) := by
  refine Con.start #[.val (.ref a), .val (.double px), .second, .val (.double py), .second, .val (.double pz), .second] (plainFor_of_name own_pn2) (fun m => by first | (refine own_ef ?_; exact rfl) | (simp [entryFrame, mkF, argsToLocals, Value.category]; done) | rfl) ?_
  intro p e s m below meth c s₁ P X0 hx hby hml hret hlk hown hnm hZ e0 hf
  have hml : c.maxLocals = 7 := hml
  have N0 := Fr.nil n0
  refine g_aloadN (pc' := 1) X0 hx hby (v := (.ref a)) own_d14_0 rfl rfl rfl ?_
  refine g_getF (pc' := 4) X0 hx hby hZ hown (host := "") (Or.inl (hw _ (List.mem_of_getElem? (i := 57) rfl))) Via.refl e0 c0 rfl own_d14_1 rfl ?_
  intro T1 X1 e1
  refine g_dloadN (pc' := 5) X1 hx hby (v := px) own_d14_4 rfl rfl ?_
  refine g_aloadN (pc' := 6) X1 hx hby (v := (.ref a)) own_d14_5 rfl rfl rfl ?_
  refine g_getF (pc' := 9) X1 hx hby hZ hown (host := "") (Or.inl (hw _ (List.mem_of_getElem? (i := 39) rfl))) Via.refl e1 c1 rfl own_d14_6 rfl ?_
  intro T2 X2 e2
  refine g_dsub (pc' := 10) (v := (FP.dsub px fx)) X2 hx hby own_d14_9 rfl (nn9) rfl rfl ?_
  refine g_aloadN (pc' := 11) X2 hx hby (v := (.ref a)) own_d14_10 rfl rfl rfl ?_
  refine g_getF (pc' := 14) X2 hx hby hZ hown (host := "") (Or.inl (hw _ (List.mem_of_getElem? (i := 87) rfl))) Via.refl e2 c2 rfl own_d14_11 rfl ?_
  intro T3 X3 e3
  refine g_dmul (pc' := 15) (v := (FP.dmul (FP.dsub px fx) gx)) X3 hx hby own_d14_14 rfl (nn14) rfl rfl ?_
  refine g_dadd (pc' := 16) (v := (FP.dadd cu (FP.dmul (FP.dsub px fx) gx))) X3 hx hby own_d14_15 rfl (nn15) rfl rfl ?_
  refine g_dloadN (pc' := 17) X3 hx hby (v := py) own_d14_16 rfl rfl ?_
  refine g_aloadN (pc' := 18) X3 hx hby (v := (.ref a)) own_d14_17 rfl rfl rfl ?_
  refine g_getF (pc' := 21) X3 hx hby hZ hown (host := "") (Or.inl (hw _ (List.mem_of_getElem? (i := 46) rfl))) Via.refl e3 c3 rfl own_d14_18 rfl ?_
  intro T4 X4 e4
  refine g_dsub (pc' := 22) (v := (FP.dsub py fy)) X4 hx hby own_d14_21 rfl (nn21) rfl rfl ?_
  refine g_aloadN (pc' := 23) X4 hx hby (v := (.ref a)) own_d14_22 rfl rfl rfl ?_
  refine g_getF (pc' := 26) X4 hx hby hZ hown (host := "") (Or.inl (hw _ (List.mem_of_getElem? (i := 89) rfl))) Via.refl e4 c4 rfl own_d14_23 rfl ?_
  intro T5 X5 e5
  refine g_dmul (pc' := 27) (v := (FP.dmul (FP.dsub py fy) gy)) X5 hx hby own_d14_26 rfl (nn26) rfl rfl ?_
  refine g_dadd (pc' := 28) (v := (FP.dadd (FP.dadd cu (FP.dmul (FP.dsub px fx) gx)) (FP.dmul (FP.dsub py fy) gy))) X5 hx hby own_d14_27 rfl (nn27) rfl rfl ?_
  refine g_dload (pc' := 30) X5 hx hby (v := pz) own_d14_28 rfl rfl ?_
  refine g_aloadN (pc' := 31) X5 hx hby (v := (.ref a)) own_d14_30 rfl rfl rfl ?_
  refine g_getF (pc' := 34) X5 hx hby hZ hown (host := "") (Or.inl (hw _ (List.mem_of_getElem? (i := 53) rfl))) Via.refl e5 c5 rfl own_d14_31 rfl ?_
  intro T6 X6 e6
  refine g_dsub (pc' := 35) (v := (FP.dsub pz fz)) X6 hx hby own_d14_34 rfl (nn34) rfl rfl ?_
  refine g_aloadN (pc' := 36) X6 hx hby (v := (.ref a)) own_d14_35 rfl rfl rfl ?_
  refine g_getF (pc' := 39) X6 hx hby hZ hown (host := "") (Or.inl (hw _ (List.mem_of_getElem? (i := 91) rfl))) Via.refl e6 c6 rfl own_d14_36 rfl ?_
  intro T7 X7 e7
  refine g_dmul (pc' := 40) (v := (FP.dmul (FP.dsub pz fz) gz)) X7 hx hby own_d14_39 rfl (nn39) rfl rfl ?_
  refine g_dadd (pc' := 41) (v := (FP.dadd (FP.dadd (FP.dadd cu (FP.dmul (FP.dsub px fx) gx)) (FP.dmul (FP.dsub py fy) gy)) (FP.dmul (FP.dsub pz fz) gz))) X7 hx hby own_d14_40 rfl (nn40) rfl rfl ?_
  exact g_retV X7 hx hby hf hlk hret own_d14_41 rfl rfl (Or.inr (Or.inr (Or.inl ⟨rfl, rfl, _, rfl⟩))) (by decide) (by decide) e7 ⟨rfl, N0, rfl⟩
def own_Q0 (Z : State) (i0 : Int64) (i1 : Int32) (i2 : Int64) (i3 : Int32) (i4 : Int64) (i5 : Int32) (h0 : Heap) (n0 : Nat) (v : Option Value) (h : Heap) (L : List Loc) : Prop := v = some (.int (1 : Int32)) ∧ Fr n0 L ∧ Keep h0 h []
set_option maxRecDepth 65536 in
set_option maxHeartbeats 40000000 in
theorem own_rm0 (l : Launch) (Z : State) (a0 : Array Value) (hw : ∀ d ∈ tables_1, d.before a0 Z = true) (ws : List Jvm.Cond) (i0 : Int64) (i1 : Int32) (i2 : Int64) (i3 : Int32) (i4 : Int64) (i5 : Int32) (h0 : Heap) (n0 : Nat) (Z0 : n0 ≤ h0.size) :
    Con l Z x code maxLocals ret ws room_1 #[(.long i0), (.int i1), (.long i2), (.int i3), (.long i4), (.int i5)] h0 (own_Q0 Z i0 i1 i2 i3 i4 i5 h0 n0) := by
  refine Con.start #[.val (.long i0), .second, .val (.int i1), .val (.long i2), .second, .val (.int i3), .val (.long i4), .second, .val (.int i5), .unset, .unset, .unset, .unset, .unset, .unset, .unset, .unset, .unset, .unset, .unset, .unset, .unset, .unset, .unset, .unset, .unset, .unset, .unset, .unset, .unset, .unset, .unset, .unset, .unset, .unset, .unset, .unset, .unset, .unset, .unset, .unset, .unset, .unset, .unset, .unset, .unset, .unset] (plainFor_of_name own_pn0) (fun m => by first | (refine own_ef ?_; exact rfl) | (simp [entryFrame, mkF, argsToLocals, Value.category, maxLocals]; done) | rfl) ?_
  intro p e s m below meth c s₁ P X0 hx hby hml hret hlk hown hnm hZ e0 hf
  have hml : c.maxLocals = 47 := hml
  have N0 := Fr.nil n0
  have hret : meth.sig.returnType = some .boolean := hret
  have K0 : Keep h0 h0 [] := Keep.refl _ _
  refine g_lloadN (pc' := 1) X0 hx hby (v := i0) at_0 rfl rfl ?_
  obtain ⟨ix, h_ix⟩ : ∃ z : Int32, i0.toInt32 = z := ⟨_, rfl⟩
  refine g_l2i (pc' := 2) (v := ix) X0 hx hby at_1 rfl h_ix rfl ?_
  refine g_istore (pc' := 4) (Ls' := #[.val (.long i0), .second, .val (.int i1), .val (.long i2), .second, .val (.int i3), .val (.long i4), .second, .val (.int i5), .val (.int ix), .unset, .unset, .unset, .unset, .unset, .unset, .unset, .unset, .unset, .unset, .unset, .unset, .unset, .unset, .unset, .unset, .unset, .unset, .unset, .unset, .unset, .unset, .unset, .unset, .unset, .unset, .unset, .unset, .unset, .unset, .unset, .unset, .unset, .unset, .unset, .unset, .unset]) X0 hx hby at_2 rfl rfl rfl ?_
  refine g_lloadN (pc' := 5) X0 hx hby (v := i0) at_4 rfl rfl ?_
  refine g_bipush (pc' := 7) (v := (32 : Int32)) X0 hx hby at_5 rfl rfl ?_
  refine g_lshr (pc' := 8) (v := (i0 >>> ((32 : Int32) &&& 0x3f).toInt64)) X0 hx hby at_7 rfl rfl rfl ?_
  obtain ⟨iy, h_iy⟩ : ∃ z : Int32, (i0 >>> ((32 : Int32) &&& 0x3f).toInt64).toInt32 = z := ⟨_, rfl⟩
  refine g_l2i (pc' := 9) (v := iy) X0 hx hby at_8 rfl h_iy rfl ?_
  refine g_istore (pc' := 11) (Ls' := #[.val (.long i0), .second, .val (.int i1), .val (.long i2), .second, .val (.int i3), .val (.long i4), .second, .val (.int i5), .val (.int ix), .val (.int iy), .unset, .unset, .unset, .unset, .unset, .unset, .unset, .unset, .unset, .unset, .unset, .unset, .unset, .unset, .unset, .unset, .unset, .unset, .unset, .unset, .unset, .unset, .unset, .unset, .unset, .unset, .unset, .unset, .unset, .unset, .unset, .unset, .unset, .unset, .unset, .unset]) X0 hx hby at_9 rfl rfl rfl ?_
  refine g_lloadN (pc' := 12) X0 hx hby (v := i2) at_11 rfl rfl ?_
  obtain ⟨wa, h_wa⟩ : ∃ z : Int32, i2.toInt32 = z := ⟨_, rfl⟩
  refine g_l2i (pc' := 13) (v := wa) X0 hx hby at_12 rfl h_wa rfl ?_
  refine g_istore (pc' := 15) (Ls' := #[.val (.long i0), .second, .val (.int i1), .val (.long i2), .second, .val (.int i3), .val (.long i4), .second, .val (.int i5), .val (.int ix), .val (.int iy), .val (.int wa), .unset, .unset, .unset, .unset, .unset, .unset, .unset, .unset, .unset, .unset, .unset, .unset, .unset, .unset, .unset, .unset, .unset, .unset, .unset, .unset, .unset, .unset, .unset, .unset, .unset, .unset, .unset, .unset, .unset, .unset, .unset, .unset, .unset, .unset, .unset]) X0 hx hby at_13 rfl rfl rfl ?_
  refine g_lloadN (pc' := 16) X0 hx hby (v := i2) at_15 rfl rfl ?_
  refine g_bipush (pc' := 18) (v := (32 : Int32)) X0 hx hby at_16 rfl rfl ?_
  refine g_lshr (pc' := 19) (v := (i2 >>> ((32 : Int32) &&& 0x3f).toInt64)) X0 hx hby at_18 rfl rfl rfl ?_
  obtain ⟨wb, h_wb⟩ : ∃ z : Int32, (i2 >>> ((32 : Int32) &&& 0x3f).toInt64).toInt32 = z := ⟨_, rfl⟩
  refine g_l2i (pc' := 20) (v := wb) X0 hx hby at_19 rfl h_wb rfl ?_
  refine g_istore (pc' := 22) (Ls' := #[.val (.long i0), .second, .val (.int i1), .val (.long i2), .second, .val (.int i3), .val (.long i4), .second, .val (.int i5), .val (.int ix), .val (.int iy), .val (.int wa), .val (.int wb), .unset, .unset, .unset, .unset, .unset, .unset, .unset, .unset, .unset, .unset, .unset, .unset, .unset, .unset, .unset, .unset, .unset, .unset, .unset, .unset, .unset, .unset, .unset, .unset, .unset, .unset, .unset, .unset, .unset, .unset, .unset, .unset, .unset, .unset]) X0 hx hby at_20 rfl rfl rfl ?_
  refine g_lload (pc' := 24) X0 hx hby (v := i4) at_22 rfl rfl ?_
  obtain ⟨ua_, h_ua_⟩ : ∃ z : Int32, i4.toInt32 = z := ⟨_, rfl⟩
  refine g_l2i (pc' := 25) (v := ua_) X0 hx hby at_24 rfl h_ua_ rfl ?_
  refine g_istore (pc' := 27) (Ls' := #[.val (.long i0), .second, .val (.int i1), .val (.long i2), .second, .val (.int i3), .val (.long i4), .second, .val (.int i5), .val (.int ix), .val (.int iy), .val (.int wa), .val (.int wb), .val (.int ua_), .unset, .unset, .unset, .unset, .unset, .unset, .unset, .unset, .unset, .unset, .unset, .unset, .unset, .unset, .unset, .unset, .unset, .unset, .unset, .unset, .unset, .unset, .unset, .unset, .unset, .unset, .unset, .unset, .unset, .unset, .unset, .unset, .unset]) X0 hx hby at_25 rfl rfl rfl ?_
  refine g_lload (pc' := 29) X0 hx hby (v := i4) at_27 rfl rfl ?_
  refine g_bipush (pc' := 31) (v := (32 : Int32)) X0 hx hby at_29 rfl rfl ?_
  refine g_lshr (pc' := 32) (v := (i4 >>> ((32 : Int32) &&& 0x3f).toInt64)) X0 hx hby at_31 rfl rfl rfl ?_
  obtain ⟨ub_, h_ub_⟩ : ∃ z : Int32, (i4 >>> ((32 : Int32) &&& 0x3f).toInt64).toInt32 = z := ⟨_, rfl⟩
  refine g_l2i (pc' := 33) (v := ub_) X0 hx hby at_32 rfl h_ub_ rfl ?_
  refine g_istore (pc' := 35) (Ls' := #[.val (.long i0), .second, .val (.int i1), .val (.long i2), .second, .val (.int i3), .val (.long i4), .second, .val (.int i5), .val (.int ix), .val (.int iy), .val (.int wa), .val (.int wb), .val (.int ua_), .val (.int ub_), .unset, .unset, .unset, .unset, .unset, .unset, .unset, .unset, .unset, .unset, .unset, .unset, .unset, .unset, .unset, .unset, .unset, .unset, .unset, .unset, .unset, .unset, .unset, .unset, .unset, .unset, .unset, .unset, .unset, .unset, .unset, .unset]) X0 hx hby at_33 rfl rfl rfl ?_
  refine g_lload (pc' := 37) X0 hx hby (v := i4) at_35 rfl rfl ?_
  refine g_bipush (pc' := 39) (v := (16 : Int32)) X0 hx hby at_37 rfl rfl ?_
  refine g_lshr (pc' := 40) (v := (i4 >>> ((16 : Int32) &&& 0x3f).toInt64)) X0 hx hby at_39 rfl rfl rfl ?_
  obtain ⟨uc_, h_uc_⟩ : ∃ z : Int32, (i4 >>> ((16 : Int32) &&& 0x3f).toInt64).toInt32 = z := ⟨_, rfl⟩
  refine g_l2i (pc' := 41) (v := uc_) X0 hx hby at_40 rfl h_uc_ rfl ?_
  refine g_istore (pc' := 43) (Ls' := #[.val (.long i0), .second, .val (.int i1), .val (.long i2), .second, .val (.int i3), .val (.long i4), .second, .val (.int i5), .val (.int ix), .val (.int iy), .val (.int wa), .val (.int wb), .val (.int ua_), .val (.int ub_), .val (.int uc_), .unset, .unset, .unset, .unset, .unset, .unset, .unset, .unset, .unset, .unset, .unset, .unset, .unset, .unset, .unset, .unset, .unset, .unset, .unset, .unset, .unset, .unset, .unset, .unset, .unset, .unset, .unset, .unset, .unset, .unset, .unset]) X0 hx hby at_41 rfl rfl rfl ?_
  refine g_iload (pc' := 45) X0 hx hby (v := i5) at_43 rfl rfl ?_
  refine g_ldcI (pc' := 47) X0 hx hby hZ hown (hw _ (List.mem_of_getElem? (i := 0) rfl)) at_45 rfl ?_
  refine g_iand (pc' := 48) (v := (i5 &&& (2147483647 : Int32))) X0 hx hby at_47 rfl rfl rfl ?_
  refine g_bipush (pc' := 50) (v := (6 : Int32)) X0 hx hby at_48 rfl rfl ?_
  obtain ⟨pk, h_pk⟩ : ∃ z : Int32, (i5 &&& (2147483647 : Int32)) % (6 : Int32) = z := ⟨_, rfl⟩
  refine g_irem (pc' := 51) (v := pk) X0 hx hby at_50 rfl (by decide) h_pk rfl ?_
  refine g_istore (pc' := 53) (Ls' := #[.val (.long i0), .second, .val (.int i1), .val (.long i2), .second, .val (.int i3), .val (.long i4), .second, .val (.int i5), .val (.int ix), .val (.int iy), .val (.int wa), .val (.int wb), .val (.int ua_), .val (.int ub_), .val (.int uc_), .val (.int pk), .unset, .unset, .unset, .unset, .unset, .unset, .unset, .unset, .unset, .unset, .unset, .unset, .unset, .unset, .unset, .unset, .unset, .unset, .unset, .unset, .unset, .unset, .unset, .unset, .unset, .unset, .unset, .unset, .unset, .unset]) X0 hx hby at_51 rfl rfl rfl ?_
  refine g_iconst (pc' := 54) (v := (1 : Int32)) X0 hx hby at_53 rfl rfl ?_
  refine g_iload (pc' := 56) X0 hx hby (v := i5) at_54 rfl rfl ?_
  refine g_iconst (pc' := 57) (v := (3 : Int32)) X0 hx hby at_56 rfl rfl ?_
  refine g_iushr (pc' := 58) (v := ((i5.toUInt32 >>> ((3 : Int32) &&& 31).toUInt32).toInt32)) X0 hx hby at_57 rfl rfl rfl ?_
  refine g_iconst (pc' := 59) (v := (3 : Int32)) X0 hx hby at_58 rfl rfl ?_
  refine g_iand (pc' := 60) (v := (((i5.toUInt32 >>> ((3 : Int32) &&& 31).toUInt32).toInt32) &&& (3 : Int32))) X0 hx hby at_59 rfl rfl rfl ?_
  obtain ⟨sI, h_sI⟩ : ∃ z : Int32, (1 : Int32) <<< ((((i5.toUInt32 >>> ((3 : Int32) &&& 31).toUInt32).toInt32) &&& (3 : Int32)) &&& 31) = z := ⟨_, rfl⟩
  refine g_ishl (pc' := 61) (v := sI) X0 hx hby at_60 rfl h_sI rfl ?_
  refine g_istore (pc' := 63) (Ls' := #[.val (.long i0), .second, .val (.int i1), .val (.long i2), .second, .val (.int i3), .val (.long i4), .second, .val (.int i5), .val (.int ix), .val (.int iy), .val (.int wa), .val (.int wb), .val (.int ua_), .val (.int ub_), .val (.int uc_), .val (.int pk), .val (.int sI), .unset, .unset, .unset, .unset, .unset, .unset, .unset, .unset, .unset, .unset, .unset, .unset, .unset, .unset, .unset, .unset, .unset, .unset, .unset, .unset, .unset, .unset, .unset, .unset, .unset, .unset, .unset, .unset, .unset]) X0 hx hby at_61 rfl rfl rfl ?_
  refine g_iload (pc' := 65) X0 hx hby (v := i5) at_63 rfl rfl ?_
  refine g_iconst (pc' := 66) (v := (5 : Int32)) X0 hx hby at_65 rfl rfl ?_
  refine g_iushr (pc' := 67) (v := ((i5.toUInt32 >>> ((5 : Int32) &&& 31).toUInt32).toInt32)) X0 hx hby at_66 rfl rfl rfl ?_
  refine g_bipush (pc' := 69) (v := (7 : Int32)) X0 hx hby at_67 rfl rfl ?_
  refine g_iand (pc' := 70) (v := (((i5.toUInt32 >>> ((5 : Int32) &&& 31).toUInt32).toInt32) &&& (7 : Int32))) X0 hx hby at_69 rfl rfl rfl ?_
  refine g_iconst (pc' := 71) (v := (3 : Int32)) X0 hx hby at_70 rfl rfl ?_
  obtain ⟨kI, h_kI⟩ : ∃ z : Int32, (((i5.toUInt32 >>> ((5 : Int32) &&& 31).toUInt32).toInt32) &&& (7 : Int32)) - (3 : Int32) = z := ⟨_, rfl⟩
  refine g_isub (pc' := 72) (v := kI) X0 hx hby at_71 rfl h_kI rfl ?_
  refine g_istore (pc' := 74) (Ls' := #[.val (.long i0), .second, .val (.int i1), .val (.long i2), .second, .val (.int i3), .val (.long i4), .second, .val (.int i5), .val (.int ix), .val (.int iy), .val (.int wa), .val (.int wb), .val (.int ua_), .val (.int ub_), .val (.int uc_), .val (.int pk), .val (.int sI), .val (.int kI), .unset, .unset, .unset, .unset, .unset, .unset, .unset, .unset, .unset, .unset, .unset, .unset, .unset, .unset, .unset, .unset, .unset, .unset, .unset, .unset, .unset, .unset, .unset, .unset, .unset, .unset, .unset, .unset]) X0 hx hby at_72 rfl rfl rfl ?_
  refine g_iload (pc' := 76) X0 hx hby (v := i5) at_74 rfl rfl ?_
  refine g_bipush (pc' := 78) (v := (8 : Int32)) X0 hx hby at_76 rfl rfl ?_
  refine g_iushr (pc' := 79) (v := ((i5.toUInt32 >>> ((8 : Int32) &&& 31).toUInt32).toInt32)) X0 hx hby at_78 rfl rfl rfl ?_
  refine g_bipush (pc' := 81) (v := (15 : Int32)) X0 hx hby at_79 rfl rfl ?_
  refine g_iand (pc' := 82) (v := (((i5.toUInt32 >>> ((8 : Int32) &&& 31).toUInt32).toInt32) &&& (15 : Int32))) X0 hx hby at_81 rfl rfl rfl ?_
  refine g_bipush (pc' := 84) (v := (8 : Int32)) X0 hx hby at_82 rfl rfl ?_
  obtain ⟨ia, h_ia⟩ : ∃ z : Int32, (((i5.toUInt32 >>> ((8 : Int32) &&& 31).toUInt32).toInt32) &&& (15 : Int32)) - (8 : Int32) = z := ⟨_, rfl⟩
  refine g_isub (pc' := 85) (v := ia) X0 hx hby at_84 rfl h_ia rfl ?_
  refine g_istore (pc' := 87) (Ls' := #[.val (.long i0), .second, .val (.int i1), .val (.long i2), .second, .val (.int i3), .val (.long i4), .second, .val (.int i5), .val (.int ix), .val (.int iy), .val (.int wa), .val (.int wb), .val (.int ua_), .val (.int ub_), .val (.int uc_), .val (.int pk), .val (.int sI), .val (.int kI), .val (.int ia), .unset, .unset, .unset, .unset, .unset, .unset, .unset, .unset, .unset, .unset, .unset, .unset, .unset, .unset, .unset, .unset, .unset, .unset, .unset, .unset, .unset, .unset, .unset, .unset, .unset, .unset, .unset]) X0 hx hby at_85 rfl rfl rfl ?_
  refine g_iload (pc' := 89) X0 hx hby (v := i5) at_87 rfl rfl ?_
  refine g_bipush (pc' := 91) (v := (12 : Int32)) X0 hx hby at_89 rfl rfl ?_
  refine g_iushr (pc' := 92) (v := ((i5.toUInt32 >>> ((12 : Int32) &&& 31).toUInt32).toInt32)) X0 hx hby at_91 rfl rfl rfl ?_
  refine g_bipush (pc' := 94) (v := (15 : Int32)) X0 hx hby at_92 rfl rfl ?_
  refine g_iand (pc' := 95) (v := (((i5.toUInt32 >>> ((12 : Int32) &&& 31).toUInt32).toInt32) &&& (15 : Int32))) X0 hx hby at_94 rfl rfl rfl ?_
  refine g_bipush (pc' := 97) (v := (8 : Int32)) X0 hx hby at_95 rfl rfl ?_
  obtain ⟨ib, h_ib⟩ : ∃ z : Int32, (((i5.toUInt32 >>> ((12 : Int32) &&& 31).toUInt32).toInt32) &&& (15 : Int32)) - (8 : Int32) = z := ⟨_, rfl⟩
  refine g_isub (pc' := 98) (v := ib) X0 hx hby at_97 rfl h_ib rfl ?_
  refine g_istore (pc' := 100) (Ls' := #[.val (.long i0), .second, .val (.int i1), .val (.long i2), .second, .val (.int i3), .val (.long i4), .second, .val (.int i5), .val (.int ix), .val (.int iy), .val (.int wa), .val (.int wb), .val (.int ua_), .val (.int ub_), .val (.int uc_), .val (.int pk), .val (.int sI), .val (.int kI), .val (.int ia), .val (.int ib), .unset, .unset, .unset, .unset, .unset, .unset, .unset, .unset, .unset, .unset, .unset, .unset, .unset, .unset, .unset, .unset, .unset, .unset, .unset, .unset, .unset, .unset, .unset, .unset, .unset, .unset]) X0 hx hby at_98 rfl rfl rfl ?_
  refine g_iload (pc' := 102) X0 hx hby (v := i5) at_100 rfl rfl ?_
  refine g_bipush (pc' := 104) (v := (16 : Int32)) X0 hx hby at_102 rfl rfl ?_
  refine g_iushr (pc' := 105) (v := ((i5.toUInt32 >>> ((16 : Int32) &&& 31).toUInt32).toInt32)) X0 hx hby at_104 rfl rfl rfl ?_
  refine g_bipush (pc' := 107) (v := (15 : Int32)) X0 hx hby at_105 rfl rfl ?_
  refine g_iand (pc' := 108) (v := (((i5.toUInt32 >>> ((16 : Int32) &&& 31).toUInt32).toInt32) &&& (15 : Int32))) X0 hx hby at_107 rfl rfl rfl ?_
  refine g_bipush (pc' := 110) (v := (8 : Int32)) X0 hx hby at_108 rfl rfl ?_
  obtain ⟨ig, h_ig⟩ : ∃ z : Int32, (((i5.toUInt32 >>> ((16 : Int32) &&& 31).toUInt32).toInt32) &&& (15 : Int32)) - (8 : Int32) = z := ⟨_, rfl⟩
  refine g_isub (pc' := 111) (v := ig) X0 hx hby at_110 rfl h_ig rfl ?_
  refine g_istore (pc' := 113) (Ls' := #[.val (.long i0), .second, .val (.int i1), .val (.long i2), .second, .val (.int i3), .val (.long i4), .second, .val (.int i5), .val (.int ix), .val (.int iy), .val (.int wa), .val (.int wb), .val (.int ua_), .val (.int ub_), .val (.int uc_), .val (.int pk), .val (.int sI), .val (.int kI), .val (.int ia), .val (.int ib), .val (.int ig), .unset, .unset, .unset, .unset, .unset, .unset, .unset, .unset, .unset, .unset, .unset, .unset, .unset, .unset, .unset, .unset, .unset, .unset, .unset, .unset, .unset, .unset, .unset, .unset, .unset]) X0 hx hby at_111 rfl rfl rfl ?_
  refine g_iload (pc' := 115) X0 hx hby (v := ia) at_113 rfl rfl ?_
  refine g_i2l (pc' := 116) (v := (ia.toInt64)) X0 hx hby at_115 rfl rfl rfl ?_
  refine g_iload (pc' := 118) X0 hx hby (v := ib) at_116 rfl rfl ?_
  refine g_i2l (pc' := 119) (v := (ib.toInt64)) X0 hx hby at_118 rfl rfl rfl ?_
  refine g_iload (pc' := 121) X0 hx hby (v := kI) at_119 rfl rfl ?_
  refine g_i2l (pc' := 122) (v := (kI.toInt64)) X0 hx hby at_121 rfl rfl rfl ?_
  refine g_lmul (pc' := 123) (v := ((ib.toInt64) * (kI.toInt64))) X0 hx hby at_122 rfl rfl rfl ?_
  obtain ⟨jx, h_jx⟩ : ∃ z : Int64, (ia.toInt64) + ((ib.toInt64) * (kI.toInt64)) = z := ⟨_, rfl⟩
  refine g_ladd (pc' := 124) (v := jx) X0 hx hby at_123 rfl h_jx rfl ?_
  refine g_lstore (pc' := 126) (Ls' := #[.val (.long i0), .second, .val (.int i1), .val (.long i2), .second, .val (.int i3), .val (.long i4), .second, .val (.int i5), .val (.int ix), .val (.int iy), .val (.int wa), .val (.int wb), .val (.int ua_), .val (.int ub_), .val (.int uc_), .val (.int pk), .val (.int sI), .val (.int kI), .val (.int ia), .val (.int ib), .val (.int ig), .val (.long jx), .second, .unset, .unset, .unset, .unset, .unset, .unset, .unset, .unset, .unset, .unset, .unset, .unset, .unset, .unset, .unset, .unset, .unset, .unset, .unset, .unset, .unset, .unset, .unset]) X0 hx hby at_124 rfl rfl rfl ?_
  refine g_iload (pc' := 128) X0 hx hby (v := ib) at_126 rfl rfl ?_
  obtain ⟨jy, h_jy⟩ : ∃ z : Int64, ib.toInt64 = z := ⟨_, rfl⟩
  refine g_i2l (pc' := 129) (v := jy) X0 hx hby at_128 rfl h_jy rfl ?_
  refine g_lstore (pc' := 131) (Ls' := #[.val (.long i0), .second, .val (.int i1), .val (.long i2), .second, .val (.int i3), .val (.long i4), .second, .val (.int i5), .val (.int ix), .val (.int iy), .val (.int wa), .val (.int wb), .val (.int ua_), .val (.int ub_), .val (.int uc_), .val (.int pk), .val (.int sI), .val (.int kI), .val (.int ia), .val (.int ib), .val (.int ig), .val (.long jx), .second, .val (.long jy), .second, .unset, .unset, .unset, .unset, .unset, .unset, .unset, .unset, .unset, .unset, .unset, .unset, .unset, .unset, .unset, .unset, .unset, .unset, .unset, .unset, .unset]) X0 hx hby at_129 rfl rfl rfl ?_
  refine g_iload (pc' := 133) X0 hx hby (v := ig) at_131 rfl rfl ?_
  obtain ⟨jz, h_jz⟩ : ∃ z : Int64, ig.toInt64 = z := ⟨_, rfl⟩
  refine g_i2l (pc' := 134) (v := jz) X0 hx hby at_133 rfl h_jz rfl ?_
  refine g_lstore (pc' := 136) (Ls' := #[.val (.long i0), .second, .val (.int i1), .val (.long i2), .second, .val (.int i3), .val (.long i4), .second, .val (.int i5), .val (.int ix), .val (.int iy), .val (.int wa), .val (.int wb), .val (.int ua_), .val (.int ub_), .val (.int uc_), .val (.int pk), .val (.int sI), .val (.int kI), .val (.int ia), .val (.int ib), .val (.int ig), .val (.long jx), .second, .val (.long jy), .second, .val (.long jz), .second, .unset, .unset, .unset, .unset, .unset, .unset, .unset, .unset, .unset, .unset, .unset, .unset, .unset, .unset, .unset, .unset, .unset, .unset, .unset]) X0 hx hby at_134 rfl rfl rfl ?_
  refine g_new (pc' := 139) X0 hx hby hZ hown (hw _ (List.mem_of_getElem? (i := 1) rfl)) (hw _ (List.mem_of_getElem? (i := 2) rfl)) (hw _ (List.mem_of_getElem? (i := 3) rfl)) e0 at_136 rfl (by decide) (by decide) ?_
  intro T1 h1 fi X1 e1 E1 A1 D1 q1
  have ge1 : n0 ≤ fi := by rw [q1]; exact Z0
  have kp1 : h0.size ≤ fi := by rw [q1]; exact K0.1
  have f2 : Fld Z h1 fi "com/example/stochastic_ray_tracer/stochasticraytracer/Vec3" "x" "D" (.double (0 : UInt64)) := D1 (Or.inr (hw _ (List.mem_of_getElem? (i := 11) rfl))) (ty := .double) own_fd0
  have f3 : Fld Z h1 fi "com/example/stochastic_ray_tracer/stochasticraytracer/Vec3" "y" "D" (.double (0 : UInt64)) := D1 (Or.inr (hw _ (List.mem_of_getElem? (i := 13) rfl))) (ty := .double) own_fd0
  have f4 : Fld Z h1 fi "com/example/stochastic_ray_tracer/stochasticraytracer/Vec3" "z" "D" (.double (0 : UInt64)) := D1 (Or.inr (hw _ (List.mem_of_getElem? (i := 15) rfl))) (ty := .double) own_fd0
  have z1 := Nat.le_trans Z0 E1.1
  have K1 := K0.ext E1
  refine g_dup (pc' := 140) X1 hx hby at_139 rfl rfl rfl ?_
  refine g_iload (pc' := 142) X1 hx hby (v := ix) at_140 rfl rfl ?_
  obtain ⟨fx, h_fx⟩ : ∃ z : UInt64, FP.i2d ix = z := ⟨_, rfl⟩
  refine g_i2d (pc' := 143) (v := fx) X1 hx hby at_142 rfl h_fx rfl ?_
  refine g_iload (pc' := 145) X1 hx hby (v := iy) at_143 rfl rfl ?_
  obtain ⟨fy, h_fy⟩ : ∃ z : UInt64, FP.i2d iy = z := ⟨_, rfl⟩
  refine g_i2d (pc' := 146) (v := fy) X1 hx hby at_145 rfl h_fy rfl ?_
  refine g_iloadN (pc' := 147) X1 hx hby (v := i1) at_146 rfl rfl ?_
  obtain ⟨fz, h_fz⟩ : ∃ z : UInt64, FP.i2d i1 = z := ⟨_, rfl⟩
  refine g_i2d (pc' := 148) (v := fz) X1 hx hby at_147 rfl h_fz rfl ?_
  refine g_init (argsL := [(.double fx), (.double fy), (.double fz)]) (pc' := 151) X1 hx hby (by rw [hml]; rfl) hZ hown rfl e1 (own_rm1 l Z a0 hw [] fi fx fy fz  h1 n0 z1 A1 f2 f3 f4 ge1) (hw _ (List.mem_of_getElem? (i := 4) rfl)) (hw _ (List.mem_of_getElem? (i := 5) rfl)) (hw _ (List.mem_of_getElem? (i := 3) rfl)) (hw _ (List.mem_of_getElem? (i := 6) rfl)) (by decide) own_pd0 rfl rfl (W := 1) rfl (by decide) (by decide) (by decide) (by decide) at_148 rfl ?_
  intro T5 v5 L5 X5 qq5
  obtain ⟨h5, e5⟩ : ∃ h, T5.heap = h := ⟨_, rfl⟩
  rw [e5] at qq5
  obtain ⟨rfl, n5, k5, p5_0, p5_1, p5_2, p5_3⟩ := qq5
  have f6 := A1.keep k5
  have z5 := Nat.le_trans z1 k5.1
  have K5 := K1.trans k5 (allS (Or.inr kp1) all0)
  have N5 := Fr.app N0 n5
  show Gf p e below P T5 m 151 #[.val (.long i0), .second, .val (.int i1), .val (.long i2), .second, .val (.int i3), .val (.long i4), .second, .val (.int i5), .val (.int ix), .val (.int iy), .val (.int wa), .val (.int wb), .val (.int ua_), .val (.int ub_), .val (.int uc_), .val (.int pk), .val (.int sI), .val (.int kI), .val (.int ia), .val (.int ib), .val (.int ig), .val (.long jx), .second, .val (.long jy), .second, .val (.long jz), .second, .unset, .unset, .unset, .unset, .unset, .unset, .unset, .unset, .unset, .unset, .unset, .unset, .unset, .unset, .unset, .unset, .unset, .unset, .unset] [(.ref fi)]
  refine g_astore (pc' := 153) (Ls' := #[.val (.long i0), .second, .val (.int i1), .val (.long i2), .second, .val (.int i3), .val (.long i4), .second, .val (.int i5), .val (.int ix), .val (.int iy), .val (.int wa), .val (.int wb), .val (.int ua_), .val (.int ub_), .val (.int uc_), .val (.int pk), .val (.int sI), .val (.int kI), .val (.int ia), .val (.int ib), .val (.int ig), .val (.long jx), .second, .val (.long jy), .second, .val (.long jz), .second, .val (.ref fi), .unset, .unset, .unset, .unset, .unset, .unset, .unset, .unset, .unset, .unset, .unset, .unset, .unset, .unset, .unset, .unset, .unset, .unset]) X5 hx hby at_151 rfl rfl rfl rfl ?_
  refine g_iload (pc' := 155) X5 hx hby (v := pk) at_153 rfl rfl ?_
  refine g_iload (pc' := 157) X5 hx hby (v := sI) at_155 rfl rfl ?_
  refine g_i2l (pc' := 158) (v := (sI.toInt64)) X5 hx hby at_157 rfl rfl rfl ?_
  refine g_lconst (pc' := 159) (v := (0 : Int64)) X5 hx hby at_158 rfl rfl ?_
  refine g_lconst (pc' := 160) (v := (0 : Int64)) X5 hx hby at_159 rfl rfl ?_
  refine g_callS (argsL := [(.int pk), (.long (sI.toInt64)), (.long (0 : Int64)), (.long (0 : Int64))]) (pc' := 163) X5 hx hby (by rw [hml]; rfl) hZ hown e5 (own_rm3 l Z a0 hw [] pk (sI.toInt64) (0 : Int64) (0 : Int64)  h5 n0 z5) (hw _ (List.mem_of_getElem? (i := 16) rfl)) (hw _ (List.mem_of_getElem? (i := 17) rfl)) (hw _ (List.mem_of_getElem? (i := 18) rfl)) (hw _ (List.mem_of_getElem? (i := 19) rfl)) (by decide) own_pd7 rfl rfl (W := 0) rfl (by decide) (by decide) (by decide) (by decide) at_160 rfl ?_
  intro T10 v10 L10 X10 qq10
  obtain ⟨h10, e10⟩ : ∃ h, T10.heap = h := ⟨_, rfl⟩
  rw [e10] at qq10
  obtain ⟨ed1, rfl, n10, k10, p10_0, p10_1, p10_2, p10_3, p10_4⟩ := qq10
  have f11 := p5_0.keep k10
  have f12 := p5_1.keep k10 nin0
  have f13 := p5_2.keep k10 nin0
  have f14 := p5_3.keep k10 nin0
  have ge15 : n0 ≤ ed1 := Nat.le_trans z5 p10_0
  have ne16 : fi ≠ ed1 := Nat.ne_of_lt (Nat.lt_of_lt_of_le p5_0.lt p10_0)
  have kp17 : h0.size ≤ ed1 := Nat.le_trans K5.1 p10_0
  have z10 := Nat.le_trans z5 k10.1
  have K10 := K5.trans k10 all0
  have N10 := Fr.app N5 n10
  show Gf p e below P T10 m 163 #[.val (.long i0), .second, .val (.int i1), .val (.long i2), .second, .val (.int i3), .val (.long i4), .second, .val (.int i5), .val (.int ix), .val (.int iy), .val (.int wa), .val (.int wb), .val (.int ua_), .val (.int ub_), .val (.int uc_), .val (.int pk), .val (.int sI), .val (.int kI), .val (.int ia), .val (.int ib), .val (.int ig), .val (.long jx), .second, .val (.long jy), .second, .val (.long jz), .second, .val (.ref fi), .unset, .unset, .unset, .unset, .unset, .unset, .unset, .unset, .unset, .unset, .unset, .unset, .unset, .unset, .unset, .unset, .unset, .unset] [(.ref ed1)]
  obtain ⟨xa, h_xa⟩ : ∃ z : UInt64, (FP.l2d (own_pk0 pk (sI.toInt64) (0 : Int64) (0 : Int64))) = z := ⟨_, rfl⟩
  rw [h_xa] at p10_2
  obtain ⟨ya, h_ya⟩ : ∃ z : UInt64, (FP.l2d (own_pk1 pk (sI.toInt64) (0 : Int64) (0 : Int64))) = z := ⟨_, rfl⟩
  rw [h_ya] at p10_3
  obtain ⟨za, h_za⟩ : ∃ z : UInt64, (FP.l2d (own_pk2 pk (sI.toInt64) (0 : Int64) (0 : Int64))) = z := ⟨_, rfl⟩
  rw [h_za] at p10_4
  refine g_astore (pc' := 165) (Ls' := #[.val (.long i0), .second, .val (.int i1), .val (.long i2), .second, .val (.int i3), .val (.long i4), .second, .val (.int i5), .val (.int ix), .val (.int iy), .val (.int wa), .val (.int wb), .val (.int ua_), .val (.int ub_), .val (.int uc_), .val (.int pk), .val (.int sI), .val (.int kI), .val (.int ia), .val (.int ib), .val (.int ig), .val (.long jx), .second, .val (.long jy), .second, .val (.long jz), .second, .val (.ref fi), .val (.ref ed1), .unset, .unset, .unset, .unset, .unset, .unset, .unset, .unset, .unset, .unset, .unset, .unset, .unset, .unset, .unset, .unset, .unset]) X10 hx hby at_163 rfl rfl rfl rfl ?_
  refine g_iload (pc' := 167) X10 hx hby (v := pk) at_165 rfl rfl ?_
  refine g_iload (pc' := 169) X10 hx hby (v := kI) at_167 rfl rfl ?_
  refine g_i2l (pc' := 170) (v := (kI.toInt64)) X10 hx hby at_169 rfl rfl rfl ?_
  refine g_iload (pc' := 172) X10 hx hby (v := sI) at_170 rfl rfl ?_
  refine g_i2l (pc' := 173) (v := (sI.toInt64)) X10 hx hby at_172 rfl rfl rfl ?_
  refine g_lmul (pc' := 174) (v := ((kI.toInt64) * (sI.toInt64))) X10 hx hby at_173 rfl rfl rfl ?_
  refine g_iload (pc' := 176) X10 hx hby (v := sI) at_174 rfl rfl ?_
  refine g_i2l (pc' := 177) (v := (sI.toInt64)) X10 hx hby at_176 rfl rfl rfl ?_
  refine g_lconst (pc' := 178) (v := (0 : Int64)) X10 hx hby at_177 rfl rfl ?_
  refine g_callS (argsL := [(.int pk), (.long ((kI.toInt64) * (sI.toInt64))), (.long (sI.toInt64)), (.long (0 : Int64))]) (pc' := 181) X10 hx hby (by rw [hml]; rfl) hZ hown e10 (own_rm3 l Z a0 hw [] pk ((kI.toInt64) * (sI.toInt64)) (sI.toInt64) (0 : Int64)  h10 n0 z10) (hw _ (List.mem_of_getElem? (i := 16) rfl)) (hw _ (List.mem_of_getElem? (i := 17) rfl)) (hw _ (List.mem_of_getElem? (i := 18) rfl)) (hw _ (List.mem_of_getElem? (i := 19) rfl)) (by decide) own_pd7 rfl rfl (W := 0) rfl (by decide) (by decide) (by decide) (by decide) at_178 rfl ?_
  intro T18 v18 L18 X18 qq18
  obtain ⟨h18, e18⟩ : ∃ h, T18.heap = h := ⟨_, rfl⟩
  rw [e18] at qq18
  obtain ⟨ed2, rfl, n18, k18, p18_0, p18_1, p18_2, p18_3, p18_4⟩ := qq18
  have f19 := f11.keep k18
  have f20 := f12.keep k18 nin0
  have f21 := f13.keep k18 nin0
  have f22 := f14.keep k18 nin0
  have f23 := p10_1.keep k18
  have f24 := p10_2.keep k18 nin0
  have f25 := p10_3.keep k18 nin0
  have f26 := p10_4.keep k18 nin0
  have ge27 : n0 ≤ ed2 := Nat.le_trans z10 p18_0
  have ne28 : ed1 ≠ ed2 := Nat.ne_of_lt (Nat.lt_of_lt_of_le p10_1.lt p18_0)
  have ne29 : fi ≠ ed2 := Nat.ne_of_lt (Nat.lt_of_lt_of_le f11.lt p18_0)
  have kp30 : h0.size ≤ ed2 := Nat.le_trans K10.1 p18_0
  have z18 := Nat.le_trans z10 k18.1
  have K18 := K10.trans k18 all0
  have N18 := Fr.app N10 n18
  show Gf p e below P T18 m 181 #[.val (.long i0), .second, .val (.int i1), .val (.long i2), .second, .val (.int i3), .val (.long i4), .second, .val (.int i5), .val (.int ix), .val (.int iy), .val (.int wa), .val (.int wb), .val (.int ua_), .val (.int ub_), .val (.int uc_), .val (.int pk), .val (.int sI), .val (.int kI), .val (.int ia), .val (.int ib), .val (.int ig), .val (.long jx), .second, .val (.long jy), .second, .val (.long jz), .second, .val (.ref fi), .val (.ref ed1), .unset, .unset, .unset, .unset, .unset, .unset, .unset, .unset, .unset, .unset, .unset, .unset, .unset, .unset, .unset, .unset, .unset] [(.ref ed2)]
  obtain ⟨xb, h_xb⟩ : ∃ z : UInt64, (FP.l2d (own_pk0 pk ((kI.toInt64) * (sI.toInt64)) (sI.toInt64) (0 : Int64))) = z := ⟨_, rfl⟩
  rw [h_xb] at p18_2
  obtain ⟨yb, h_yb⟩ : ∃ z : UInt64, (FP.l2d (own_pk1 pk ((kI.toInt64) * (sI.toInt64)) (sI.toInt64) (0 : Int64))) = z := ⟨_, rfl⟩
  rw [h_yb] at p18_3
  obtain ⟨zb, h_zb⟩ : ∃ z : UInt64, (FP.l2d (own_pk2 pk ((kI.toInt64) * (sI.toInt64)) (sI.toInt64) (0 : Int64))) = z := ⟨_, rfl⟩
  rw [h_zb] at p18_4
  refine g_astore (pc' := 183) (Ls' := #[.val (.long i0), .second, .val (.int i1), .val (.long i2), .second, .val (.int i3), .val (.long i4), .second, .val (.int i5), .val (.int ix), .val (.int iy), .val (.int wa), .val (.int wb), .val (.int ua_), .val (.int ub_), .val (.int uc_), .val (.int pk), .val (.int sI), .val (.int kI), .val (.int ia), .val (.int ib), .val (.int ig), .val (.long jx), .second, .val (.long jy), .second, .val (.long jz), .second, .val (.ref fi), .val (.ref ed1), .val (.ref ed2), .unset, .unset, .unset, .unset, .unset, .unset, .unset, .unset, .unset, .unset, .unset, .unset, .unset, .unset, .unset, .unset]) X18 hx hby at_181 rfl rfl rfl rfl ?_
  refine g_bipush (pc' := 185) (v := (6 : Int32)) X18 hx hby at_183 rfl rfl ?_
  refine g_newA (pc' := 187) X18 hx hby hZ (aty := .double) (cap := 6) (hw _ (List.mem_of_getElem? (i := 26) rfl)) e18 rfl (by decide) (by decide) (by decide) (by decide) (by decide) at_185 rfl 6 ?_
  intro T31 h31 kc31 uv X31 e31 E31 V31 q31
  have ne32 : ed1 ≠ uv := by rw [q31]; exact Nat.ne_of_lt f23.lt
  have ne33 : ed2 ≠ uv := by rw [q31]; exact Nat.ne_of_lt p18_1.lt
  have ne34 : fi ≠ uv := by rw [q31]; exact Nat.ne_of_lt f19.lt
  have ge31 : n0 ≤ uv := by rw [q31]; exact z18
  have kp31 : h0.size ≤ uv := by rw [q31]; exact K18.1
  have f35 := f19.ext E31
  have f36 := f20.ext E31
  have f37 := f21.ext E31
  have f38 := f22.ext E31
  have f39 := f23.ext E31
  have f40 := f24.ext E31
  have f41 := f25.ext E31
  have f42 := f26.ext E31
  have f43 := p18_1.ext E31
  have f44 := p18_2.ext E31
  have f45 := p18_3.ext E31
  have f46 := p18_4.ext E31
  have f31 : Arv Z h31 uv kc31 .double (6 : Int32) [(.double (0 : UInt64)), (.double (0 : UInt64)), (.double (0 : UInt64)), (.double (0 : UInt64)), (.double (0 : UInt64)), (.double (0 : UInt64))] (.double (0 : UInt64)) := V31
  have z31 := Nat.le_trans z18 E31.1
  have K31 := K18.ext E31
  refine g_dup (pc' := 188) X31 hx hby at_187 rfl rfl rfl ?_
  refine g_iconst (pc' := 189) (v := (0 : Int32)) X31 hx hby at_188 rfl rfl ?_
  refine g_iload (pc' := 191) X31 hx hby (v := ua_) at_189 rfl rfl ?_
  obtain ⟨u0, h_u0⟩ : ∃ z : UInt64, FP.i2d ua_ = z := ⟨_, rfl⟩
  refine g_i2d (pc' := 192) (v := u0) X31 hx hby at_191 rfl h_u0 rfl ?_
  refine g_stD (pc' := 193) X31 hx hby hZ e31 f31 ⟨by decide, by decide⟩ 0 rfl (Nat.le_of_ble_eq_true rfl) rfl at_192 rfl N18 ge31 ?_
  intro T47 h47 X47 e47 W47 N47 V47
  have f48 := f35.wr W47
  have f49 := f36.other W47 (Or.inl ne34)
  have f50 := f37.other W47 (Or.inl ne34)
  have f51 := f38.other W47 (Or.inl ne34)
  have f52 := f39.wr W47
  have f53 := f40.other W47 (Or.inl ne32)
  have f54 := f41.other W47 (Or.inl ne32)
  have f55 := f42.other W47 (Or.inl ne32)
  have f56 := f43.wr W47
  have f57 := f44.other W47 (Or.inl ne33)
  have f58 := f45.other W47 (Or.inl ne33)
  have f59 := f46.other W47 (Or.inl ne33)
  have z47 := Nat.le_trans z31 (Keep.of_wr W47).1
  have K47 := K31.wr W47 (Or.inr kp31)
  have f47 : Arv Z h47 uv kc31 .double (6 : Int32) [(.double u0), (.double (0 : UInt64)), (.double (0 : UInt64)), (.double (0 : UInt64)), (.double (0 : UInt64)), (.double (0 : UInt64))] (.double (0 : UInt64)) := V47
  refine g_dup (pc' := 194) X47 hx hby at_193 rfl rfl rfl ?_
  refine g_iconst (pc' := 195) (v := (1 : Int32)) X47 hx hby at_194 rfl rfl ?_
  refine g_iload (pc' := 197) X47 hx hby (v := wa) at_195 rfl rfl ?_
  obtain ⟨u1, h_u1⟩ : ∃ z : UInt64, FP.i2d wa = z := ⟨_, rfl⟩
  refine g_i2d (pc' := 198) (v := u1) X47 hx hby at_197 rfl h_u1 rfl ?_
  refine g_stD (pc' := 199) X47 hx hby hZ e47 f47 ⟨by decide, by decide⟩ 1 rfl (Nat.le_of_ble_eq_true rfl) rfl at_198 rfl N47 ge31 ?_
  intro T60 h60 X60 e60 W60 N60 V60
  have f61 := f48.wr W60
  have f62 := f49.other W60 (Or.inl ne34)
  have f63 := f50.other W60 (Or.inl ne34)
  have f64 := f51.other W60 (Or.inl ne34)
  have f65 := f52.wr W60
  have f66 := f53.other W60 (Or.inl ne32)
  have f67 := f54.other W60 (Or.inl ne32)
  have f68 := f55.other W60 (Or.inl ne32)
  have f69 := f56.wr W60
  have f70 := f57.other W60 (Or.inl ne33)
  have f71 := f58.other W60 (Or.inl ne33)
  have f72 := f59.other W60 (Or.inl ne33)
  have z60 := Nat.le_trans z47 (Keep.of_wr W60).1
  have K60 := K47.wr W60 (Or.inr kp31)
  have f60 : Arv Z h60 uv kc31 .double (6 : Int32) [(.double u0), (.double u1), (.double (0 : UInt64)), (.double (0 : UInt64)), (.double (0 : UInt64)), (.double (0 : UInt64))] (.double (0 : UInt64)) := V60
  refine g_dup (pc' := 200) X60 hx hby at_199 rfl rfl rfl ?_
  refine g_iconst (pc' := 201) (v := (2 : Int32)) X60 hx hby at_200 rfl rfl ?_
  refine g_iload (pc' := 203) X60 hx hby (v := ub_) at_201 rfl rfl ?_
  obtain ⟨u2, h_u2⟩ : ∃ z : UInt64, FP.i2d ub_ = z := ⟨_, rfl⟩
  refine g_i2d (pc' := 204) (v := u2) X60 hx hby at_203 rfl h_u2 rfl ?_
  refine g_stD (pc' := 205) X60 hx hby hZ e60 f60 ⟨by decide, by decide⟩ 2 rfl (Nat.le_of_ble_eq_true rfl) rfl at_204 rfl N60 ge31 ?_
  intro T73 h73 X73 e73 W73 N73 V73
  have f74 := f61.wr W73
  have f75 := f62.other W73 (Or.inl ne34)
  have f76 := f63.other W73 (Or.inl ne34)
  have f77 := f64.other W73 (Or.inl ne34)
  have f78 := f65.wr W73
  have f79 := f66.other W73 (Or.inl ne32)
  have f80 := f67.other W73 (Or.inl ne32)
  have f81 := f68.other W73 (Or.inl ne32)
  have f82 := f69.wr W73
  have f83 := f70.other W73 (Or.inl ne33)
  have f84 := f71.other W73 (Or.inl ne33)
  have f85 := f72.other W73 (Or.inl ne33)
  have z73 := Nat.le_trans z60 (Keep.of_wr W73).1
  have K73 := K60.wr W73 (Or.inr kp31)
  have f73 : Arv Z h73 uv kc31 .double (6 : Int32) [(.double u0), (.double u1), (.double u2), (.double (0 : UInt64)), (.double (0 : UInt64)), (.double (0 : UInt64))] (.double (0 : UInt64)) := V73
  refine g_dup (pc' := 206) X73 hx hby at_205 rfl rfl rfl ?_
  refine g_iconst (pc' := 207) (v := (3 : Int32)) X73 hx hby at_206 rfl rfl ?_
  refine g_iload (pc' := 209) X73 hx hby (v := wb) at_207 rfl rfl ?_
  obtain ⟨u3, h_u3⟩ : ∃ z : UInt64, FP.i2d wb = z := ⟨_, rfl⟩
  refine g_i2d (pc' := 210) (v := u3) X73 hx hby at_209 rfl h_u3 rfl ?_
  refine g_stD (pc' := 211) X73 hx hby hZ e73 f73 ⟨by decide, by decide⟩ 3 rfl (Nat.le_of_ble_eq_true rfl) rfl at_210 rfl N73 ge31 ?_
  intro T86 h86 X86 e86 W86 N86 V86
  have f87 := f74.wr W86
  have f88 := f75.other W86 (Or.inl ne34)
  have f89 := f76.other W86 (Or.inl ne34)
  have f90 := f77.other W86 (Or.inl ne34)
  have f91 := f78.wr W86
  have f92 := f79.other W86 (Or.inl ne32)
  have f93 := f80.other W86 (Or.inl ne32)
  have f94 := f81.other W86 (Or.inl ne32)
  have f95 := f82.wr W86
  have f96 := f83.other W86 (Or.inl ne33)
  have f97 := f84.other W86 (Or.inl ne33)
  have f98 := f85.other W86 (Or.inl ne33)
  have z86 := Nat.le_trans z73 (Keep.of_wr W86).1
  have K86 := K73.wr W86 (Or.inr kp31)
  have f86 : Arv Z h86 uv kc31 .double (6 : Int32) [(.double u0), (.double u1), (.double u2), (.double u3), (.double (0 : UInt64)), (.double (0 : UInt64))] (.double (0 : UInt64)) := V86
  refine g_dup (pc' := 212) X86 hx hby at_211 rfl rfl rfl ?_
  refine g_iconst (pc' := 213) (v := (4 : Int32)) X86 hx hby at_212 rfl rfl ?_
  refine g_iload (pc' := 215) X86 hx hby (v := uc_) at_213 rfl rfl ?_
  obtain ⟨u4, h_u4⟩ : ∃ z : UInt64, FP.i2d uc_ = z := ⟨_, rfl⟩
  refine g_i2d (pc' := 216) (v := u4) X86 hx hby at_215 rfl h_u4 rfl ?_
  refine g_stD (pc' := 217) X86 hx hby hZ e86 f86 ⟨by decide, by decide⟩ 4 rfl (Nat.le_of_ble_eq_true rfl) rfl at_216 rfl N86 ge31 ?_
  intro T99 h99 X99 e99 W99 N99 V99
  have f100 := f87.wr W99
  have f101 := f88.other W99 (Or.inl ne34)
  have f102 := f89.other W99 (Or.inl ne34)
  have f103 := f90.other W99 (Or.inl ne34)
  have f104 := f91.wr W99
  have f105 := f92.other W99 (Or.inl ne32)
  have f106 := f93.other W99 (Or.inl ne32)
  have f107 := f94.other W99 (Or.inl ne32)
  have f108 := f95.wr W99
  have f109 := f96.other W99 (Or.inl ne33)
  have f110 := f97.other W99 (Or.inl ne33)
  have f111 := f98.other W99 (Or.inl ne33)
  have z99 := Nat.le_trans z86 (Keep.of_wr W99).1
  have K99 := K86.wr W99 (Or.inr kp31)
  have f99 : Arv Z h99 uv kc31 .double (6 : Int32) [(.double u0), (.double u1), (.double u2), (.double u3), (.double u4), (.double (0 : UInt64))] (.double (0 : UInt64)) := V99
  refine g_dup (pc' := 218) X99 hx hby at_217 rfl rfl rfl ?_
  refine g_iconst (pc' := 219) (v := (5 : Int32)) X99 hx hby at_218 rfl rfl ?_
  refine g_iload (pc' := 221) X99 hx hby (v := i3) at_219 rfl rfl ?_
  obtain ⟨u5, h_u5⟩ : ∃ z : UInt64, FP.i2d i3 = z := ⟨_, rfl⟩
  refine g_i2d (pc' := 222) (v := u5) X99 hx hby at_221 rfl h_u5 rfl ?_
  refine g_stD (pc' := 223) X99 hx hby hZ e99 f99 ⟨by decide, by decide⟩ 5 rfl (Nat.le_of_ble_eq_true rfl) rfl at_222 rfl N99 ge31 ?_
  intro T112 h112 X112 e112 W112 N112 V112
  have f113 := f100.wr W112
  have f114 := f101.other W112 (Or.inl ne34)
  have f115 := f102.other W112 (Or.inl ne34)
  have f116 := f103.other W112 (Or.inl ne34)
  have f117 := f104.wr W112
  have f118 := f105.other W112 (Or.inl ne32)
  have f119 := f106.other W112 (Or.inl ne32)
  have f120 := f107.other W112 (Or.inl ne32)
  have f121 := f108.wr W112
  have f122 := f109.other W112 (Or.inl ne33)
  have f123 := f110.other W112 (Or.inl ne33)
  have f124 := f111.other W112 (Or.inl ne33)
  have z112 := Nat.le_trans z99 (Keep.of_wr W112).1
  have K112 := K99.wr W112 (Or.inr kp31)
  have f112 : Arv Z h112 uv kc31 .double (6 : Int32) [(.double u0), (.double u1), (.double u2), (.double u3), (.double u4), (.double u5)] (.double (0 : UInt64)) := V112
  refine g_astore (pc' := 225) (Ls' := #[.val (.long i0), .second, .val (.int i1), .val (.long i2), .second, .val (.int i3), .val (.long i4), .second, .val (.int i5), .val (.int ix), .val (.int iy), .val (.int wa), .val (.int wb), .val (.int ua_), .val (.int ub_), .val (.int uc_), .val (.int pk), .val (.int sI), .val (.int kI), .val (.int ia), .val (.int ib), .val (.int ig), .val (.long jx), .second, .val (.long jy), .second, .val (.long jz), .second, .val (.ref fi), .val (.ref ed1), .val (.ref ed2), .val (.ref uv), .unset, .unset, .unset, .unset, .unset, .unset, .unset, .unset, .unset, .unset, .unset, .unset, .unset, .unset, .unset]) X112 hx hby at_223 rfl rfl rfl rfl ?_
  obtain ⟨n, hpl⟩ := own_order h_pk
  obtain ⟨av, E_av⟩ : ∃ z : UInt64, (FP.dadd (FP.dadd (FP.dmul xa xa) (FP.dmul ya ya)) (FP.dmul za za)) = z := ⟨_, rfl⟩
  obtain ⟨bv, E_bv⟩ : ∃ z : UInt64, (FP.dadd (FP.dadd (FP.dmul xa xb) (FP.dmul ya yb)) (FP.dmul za zb)) = z := ⟨_, rfl⟩
  obtain ⟨cv, E_cv⟩ : ∃ z : UInt64, (FP.dadd (FP.dadd (FP.dmul xb xb) (FP.dmul yb yb)) (FP.dmul zb zb)) = z := ⟨_, rfl⟩
  obtain ⟨iv, E_iv⟩ : ∃ z : UInt64, (FP.ddiv (4607182418800017408 : UInt64) (FP.dsub (FP.dmul av cv) (FP.dmul bv bv))) = z := ⟨_, rfl⟩
  obtain ⟨ck, E_ck⟩ : ∃ z : UInt64, (FP.dmul cv iv) = z := ⟨_, rfl⟩
  obtain ⟨bk, E_bk⟩ : ∃ z : UInt64, (FP.dmul bv iv) = z := ⟨_, rfl⟩
  obtain ⟨ak, E_ak⟩ : ∃ z : UInt64, (FP.dmul av iv) = z := ⟨_, rfl⟩
  obtain ⟨sx, E_sx⟩ : ∃ z : UInt64, (FP.dsub (FP.dmul xa ck) (FP.dmul xb bk)) = z := ⟨_, rfl⟩
  obtain ⟨sy, E_sy⟩ : ∃ z : UInt64, (FP.dsub (FP.dmul ya ck) (FP.dmul yb bk)) = z := ⟨_, rfl⟩
  obtain ⟨sz, E_sz⟩ : ∃ z : UInt64, (FP.dsub (FP.dmul za ck) (FP.dmul zb bk)) = z := ⟨_, rfl⟩
  obtain ⟨tx, E_tx⟩ : ∃ z : UInt64, (FP.dsub (FP.dmul xb ak) (FP.dmul xa bk)) = z := ⟨_, rfl⟩
  obtain ⟨ty, E_ty⟩ : ∃ z : UInt64, (FP.dsub (FP.dmul yb ak) (FP.dmul ya bk)) = z := ⟨_, rfl⟩
  obtain ⟨tz, E_tz⟩ : ∃ z : UInt64, (FP.dsub (FP.dmul zb ak) (FP.dmul za bk)) = z := ⟨_, rfl⟩
  obtain ⟨du2, E_du2⟩ : ∃ z : UInt64, (FP.dsub u2 u0) = z := ⟨_, rfl⟩
  obtain ⟨du3, E_du3⟩ : ∃ z : UInt64, (FP.dsub u4 u0) = z := ⟨_, rfl⟩
  obtain ⟨dv2, E_dv2⟩ : ∃ z : UInt64, (FP.dsub u3 u1) = z := ⟨_, rfl⟩
  obtain ⟨dv3, E_dv3⟩ : ∃ z : UInt64, (FP.dsub u5 u1) = z := ⟨_, rfl⟩
  obtain ⟨gx, E_gx⟩ : ∃ z : UInt64, (FP.dadd (FP.dmul sx du2) (FP.dmul tx du3)) = z := ⟨_, rfl⟩
  obtain ⟨gy, E_gy⟩ : ∃ z : UInt64, (FP.dadd (FP.dmul sy du2) (FP.dmul ty du3)) = z := ⟨_, rfl⟩
  obtain ⟨gz, E_gz⟩ : ∃ z : UInt64, (FP.dadd (FP.dmul sz du2) (FP.dmul tz du3)) = z := ⟨_, rfl⟩
  obtain ⟨wx, E_wx⟩ : ∃ z : UInt64, (FP.dadd (FP.dmul sx dv2) (FP.dmul tx dv3)) = z := ⟨_, rfl⟩
  obtain ⟨wy, E_wy⟩ : ∃ z : UInt64, (FP.dadd (FP.dmul sy dv2) (FP.dmul ty dv3)) = z := ⟨_, rfl⟩
  obtain ⟨wz, E_wz⟩ : ∃ z : UInt64, (FP.dadd (FP.dmul sz dv2) (FP.dmul tz dv3)) = z := ⟨_, rfl⟩
  have hS0 := own_pm h_sI
  obtain ⟨M, tt, hM, hs8, hM1, hsM, hst, ht8, hMt, hs0⟩ := own_MM hS0
  have hk4 := own_k h_kI
  have hia := own_r h_ia
  have hib := own_r h_ib
  have hig := own_r h_ig
  have hr := nb_mul hk4 hs8
  have hrM : (kI.toInt * sI.toInt * M).natAbs ≤ 256 := by rw [Int.mul_assoc]; exact nb_mul hk4 hsM
  have hks := own_mul64 hr (by decide)
  have rs := rb_l2d (x := sI.toInt64) (Int32.toInt_toInt64 sI) hs8 (by decide)
  have rs2 := rb_l2d (x := sI.toInt64) (Int32.toInt_toInt64 sI) (nb_le hs8 (show 8 ≤ 32 by decide)) (by decide)
  have rks := rb_l2d hks hr (by decide)
  obtain ⟨hjx, hjx5⟩ := own_jx hia hib hk4 h_jx
  have hjy : jy.toInt = ib.toInt := by rw [← h_jy]; exact Int32.toInt_toInt64 ib
  have hjz : jz.toInt = ig.toInt := by rw [← h_jz]; exact Int32.toInt_toInt64 ig
  have r_xa : Rb xa (axX n sI.toInt 0 0) 0 8 := by rw [← h_xa, (hpl _ _ _).1, axX_map FP.l2d]; exact axX_rb n rs (rb_l2d rfl (Nat.zero_le _) (by decide)) (rb_l2d rfl (Nat.zero_le _) (by decide))
  have r_ya : Rb ya (axY n sI.toInt 0 0) 0 8 := by rw [← h_ya, (hpl _ _ _).2.1, axY_map FP.l2d]; exact axY_rb n rs (rb_l2d rfl (Nat.zero_le _) (by decide)) (rb_l2d rfl (Nat.zero_le _) (by decide))
  have r_za : Rb za (axZ n sI.toInt 0 0) 0 8 := by rw [← h_za, (hpl _ _ _).2.2, axZ_map FP.l2d]; exact axZ_rb n rs (rb_l2d rfl (Nat.zero_le _) (by decide)) (rb_l2d rfl (Nat.zero_le _) (by decide))
  have r_xb : Rb xb (axX n (kI.toInt * sI.toInt) sI.toInt 0) 0 32 := by rw [← h_xb, (hpl _ _ _).1, axX_map FP.l2d]; exact axX_rb n rks rs2 (rb_l2d rfl (Nat.zero_le _) (by decide))
  have r_yb : Rb yb (axY n (kI.toInt * sI.toInt) sI.toInt 0) 0 32 := by rw [← h_yb, (hpl _ _ _).2.1, axY_map FP.l2d]; exact axY_rb n rks rs2 (rb_l2d rfl (Nat.zero_le _) (by decide))
  have r_zb : Rb zb (axZ n (kI.toInt * sI.toInt) sI.toInt 0) 0 32 := by rw [← h_zb, (hpl _ _ _).2.2, axZ_map FP.l2d]; exact axZ_rb n rks rs2 (rb_l2d rfl (Nat.zero_le _) (by decide))
  have r_u0 := rb_i2dE h_u0
  have r_u1 := rb_i2dE h_u1
  have r_u2 := rb_i2dE h_u2
  have r_u3 := rb_i2dE h_u3
  have r_u4 := rb_i2dE h_u4
  have r_u5 := rb_i2dE h_u5
  have r_fx := rb_i2dE h_fx
  have r_fy := rb_i2dE h_fy
  have r_fz := rb_i2dE h_fz
  obtain ⟨qnn46_nn8, qnn46_nn17, qnn46_nn18, qnn46_nn27, qnn46_nn28, qnn53_nn8, qnn53_nn17, qnn53_nn18, qnn53_nn27, qnn53_nn28, qnn60_nn8, qnn60_nn17, qnn60_nn18, qnn60_nn27, qnn60_nn28, qnn70, qnn75, qnn76, qnn77, qnn85, qnn86_nn9, qnn86_nn15, qnn86_nn21, qnn94, qnn95_nn9, qnn95_nn15, qnn95_nn21, qnn98_nn12, qnn98_nn21, qnn98_nn30, qnn108, qnn109_nn9, qnn109_nn15, qnn109_nn21, qnn117, qnn118_nn9, qnn118_nn15, qnn118_nn21, qnn121_nn12, qnn121_nn21, qnn121_nn30, qnn136, qnn137_nn9, qnn137_nn15, qnn137_nn21, qnn150, qnn151_nn9, qnn151_nn15, qnn151_nn21, qnn154_nn12, qnn154_nn21, qnn154_nn30, qnn169, qnn170_nn9, qnn170_nn15, qnn170_nn21, qnn183, qnn184_nn9, qnn184_nn15, qnn184_nn21, qnn187_nn12, qnn187_nn21, qnn187_nn30, r_gx, r_gy, r_gz, r_wx, r_wy, r_wz⟩ := own_tex n hM hs8 hs8 (nb_le hr (by decide)) hM1 hsM (nb_le hrM (by decide)) hsM r_xa r_ya r_za r_xb r_yb r_zb r_u0 r_u1 r_u2 r_u3 r_u4 r_u5 E_av E_bv E_cv E_iv E_ck E_bk E_ak E_sx E_sy E_sz E_tx E_ty E_tz E_du2 E_du3 E_dv2 E_dv3 E_gx E_gy E_gz E_wx E_wy E_wz
  have o_x : (own_pk0 pk jx jy jz).toInt = axX n (ia.toInt + ib.toInt * kI.toInt) ib.toInt ig.toInt := by rw [(hpl _ _ _).1, axX_map Int64.toInt, hjx, hjy, hjz]
  have b_x := axX_all (P := fun z : Int => z.natAbs ≤ 512) n hjx5 (nb_le hib (by decide)) (nb_le hig (by decide))
  have o_y : (own_pk1 pk jx jy jz).toInt = axY n (ia.toInt + ib.toInt * kI.toInt) ib.toInt ig.toInt := by rw [(hpl _ _ _).2.1, axY_map Int64.toInt, hjx, hjy, hjz]
  have b_y := axY_all (P := fun z : Int => z.natAbs ≤ 512) n hjx5 (nb_le hib (by decide)) (nb_le hig (by decide))
  have o_z : (own_pk2 pk jx jy jz).toInt = axZ n (ia.toInt + ib.toInt * kI.toInt) ib.toInt ig.toInt := by rw [(hpl _ _ _).2.2, axZ_map Int64.toInt, hjx, hjy, hjz]
  have b_z := axZ_all (P := fun z : Int => z.natAbs ≤ 512) n hjx5 (nb_le hib (by decide)) (nb_le hig (by decide))
  obtain ⟨en1, en2, en3⟩ := own_exp (wa := wa) (wb := wb) (wc := i3) hia hib hst ht8 hs0
  refine g_new (pc' := 228) X112 hx hby hZ hown (hw _ (List.mem_of_getElem? (i := 27) rfl)) (hw _ (List.mem_of_getElem? (i := 28) rfl)) (hw _ (List.mem_of_getElem? (i := 29) rfl)) e112 at_225 rfl (by decide) (by decide) ?_
  intro T125 h125 tc X125 e125 E125 A125 D125 q125
  have ne126 : ed1 ≠ tc := by rw [q125]; exact Nat.ne_of_lt f117.lt
  have ne127 : ed2 ≠ tc := by rw [q125]; exact Nat.ne_of_lt f121.lt
  have ne128 : fi ≠ tc := by rw [q125]; exact Nat.ne_of_lt f113.lt
  have ne129 : uv ≠ tc := by rw [q125]; exact Nat.ne_of_lt f112.lt
  have ge125 : n0 ≤ tc := by rw [q125]; exact z112
  have kp125 : h0.size ≤ tc := by rw [q125]; exact K112.1
  have f130 := f113.ext E125
  have f131 := f114.ext E125
  have f132 := f115.ext E125
  have f133 := f116.ext E125
  have f134 := f117.ext E125
  have f135 := f118.ext E125
  have f136 := f119.ext E125
  have f137 := f120.ext E125
  have f138 := f121.ext E125
  have f139 := f122.ext E125
  have f140 := f123.ext E125
  have f141 := f124.ext E125
  have f142 := f112.ext E125
  have f143 : Fld Z h125 tc "com/example/stochastic_ray_tracer/stochasticraytracer/TextureCoordinates" "cornerX" "D" (.double (0 : UInt64)) := D125 (Or.inr (hw _ (List.mem_of_getElem? (i := 40) rfl))) (ty := .double) own_fd0
  have f144 : Fld Z h125 tc "com/example/stochastic_ray_tracer/stochasticraytracer/TextureCoordinates" "cornerY" "D" (.double (0 : UInt64)) := D125 (Or.inr (hw _ (List.mem_of_getElem? (i := 47) rfl))) (ty := .double) own_fd0
  have f145 : Fld Z h125 tc "com/example/stochastic_ray_tracer/stochasticraytracer/TextureCoordinates" "cornerZ" "D" (.double (0 : UInt64)) := D125 (Or.inr (hw _ (List.mem_of_getElem? (i := 54) rfl))) (ty := .double) own_fd0
  have f146 : Fld Z h125 tc "com/example/stochastic_ray_tracer/stochasticraytracer/TextureCoordinates" "cornerU" "D" (.double (0 : UInt64)) := D125 (Or.inr (hw _ (List.mem_of_getElem? (i := 56) rfl))) (ty := .double) own_fd0
  have f147 : Fld Z h125 tc "com/example/stochastic_ray_tracer/stochasticraytracer/TextureCoordinates" "cornerV" "D" (.double (0 : UInt64)) := D125 (Or.inr (hw _ (List.mem_of_getElem? (i := 58) rfl))) (ty := .double) own_fd0
  have f148 : Fld Z h125 tc "com/example/stochastic_ray_tracer/stochasticraytracer/TextureCoordinates" "uGradientX" "D" (.double (0 : UInt64)) := D125 (Or.inr (hw _ (List.mem_of_getElem? (i := 82) rfl))) (ty := .double) own_fd0
  have f149 : Fld Z h125 tc "com/example/stochastic_ray_tracer/stochasticraytracer/TextureCoordinates" "uGradientY" "D" (.double (0 : UInt64)) := D125 (Or.inr (hw _ (List.mem_of_getElem? (i := 84) rfl))) (ty := .double) own_fd0
  have f150 : Fld Z h125 tc "com/example/stochastic_ray_tracer/stochasticraytracer/TextureCoordinates" "uGradientZ" "D" (.double (0 : UInt64)) := D125 (Or.inr (hw _ (List.mem_of_getElem? (i := 86) rfl))) (ty := .double) own_fd0
  have f151 : Fld Z h125 tc "com/example/stochastic_ray_tracer/stochasticraytracer/TextureCoordinates" "vGradientX" "D" (.double (0 : UInt64)) := D125 (Or.inr (hw _ (List.mem_of_getElem? (i := 88) rfl))) (ty := .double) own_fd0
  have f152 : Fld Z h125 tc "com/example/stochastic_ray_tracer/stochasticraytracer/TextureCoordinates" "vGradientY" "D" (.double (0 : UInt64)) := D125 (Or.inr (hw _ (List.mem_of_getElem? (i := 90) rfl))) (ty := .double) own_fd0
  have f153 : Fld Z h125 tc "com/example/stochastic_ray_tracer/stochasticraytracer/TextureCoordinates" "vGradientZ" "D" (.double (0 : UInt64)) := D125 (Or.inr (hw _ (List.mem_of_getElem? (i := 92) rfl))) (ty := .double) own_fd0
  have z125 := Nat.le_trans z112 E125.1
  have K125 := K112.ext E125
  refine g_dup (pc' := 229) X125 hx hby at_228 rfl rfl rfl ?_
  refine g_aload (pc' := 231) X125 hx hby (v := (.ref fi)) at_229 rfl rfl rfl ?_
  refine g_aload (pc' := 233) X125 hx hby (v := (.ref ed1)) at_231 rfl rfl rfl ?_
  refine g_aload (pc' := 235) X125 hx hby (v := (.ref ed2)) at_233 rfl rfl rfl ?_
  refine g_aload (pc' := 237) X125 hx hby (v := (.ref uv)) at_235 rfl rfl rfl ?_
  refine g_init (argsL := [(.ref fi), (.ref ed1), (.ref ed2), (.ref uv)]) (pc' := 240) X125 hx hby (by rw [hml]; rfl) hZ hown rfl e125 (own_rm6 l Z a0 hw [] tc fi ed1 ed2 uv fx fy fz xa ya za xb yb zb u0 u1 u2 u3 u4 u5 kc31 av bv cv iv ck bk ak sx sy sz tx ty tz du2 du3 dv2 dv3 gx gy gz wx wy wz h125 n0 z125 A125 f143 f144 f145 f146 f147 f148 f149 f150 f151 f152 f153 ge125 f130 f134 f138 f131 f132 f133 f135 f136 f137 f139 f140 f141 f142 ne128 ne126 ne127 ne129 (E_av) (E_bv) (E_cv) (E_iv) (E_ck) (E_bk) (E_ak) (E_sx) (E_sy) (E_sz) (E_tx) (E_ty) (E_tz) (E_du2) (E_du3) (E_dv2) (E_dv3) (E_gx) (E_gy) (E_gz) (E_wx) (E_wy) (E_wz) (qnn46_nn8) (qnn46_nn17) (qnn46_nn18) (qnn46_nn27) (qnn46_nn28) (qnn53_nn8) (qnn53_nn17) (qnn53_nn18) (qnn53_nn27) (qnn53_nn28) (qnn60_nn8) (qnn60_nn17) (qnn60_nn18) (qnn60_nn27) (qnn60_nn28) (qnn70) (qnn75) (qnn76) (qnn77) (qnn85) (qnn86_nn9) (qnn86_nn15) (qnn86_nn21) (qnn94) (qnn95_nn9) (qnn95_nn15) (qnn95_nn21) (qnn98_nn12) (qnn98_nn21) (qnn98_nn30) (qnn108) (qnn109_nn9) (qnn109_nn15) (qnn109_nn21) (qnn117) (qnn118_nn9) (qnn118_nn15) (qnn118_nn21) (qnn121_nn12) (qnn121_nn21) (qnn121_nn30) (qnn136) (qnn137_nn9) (qnn137_nn15) (qnn137_nn21) (qnn150) (qnn151_nn9) (qnn151_nn15) (qnn151_nn21) (qnn154_nn12) (qnn154_nn21) (qnn154_nn30) (qnn169) (qnn170_nn9) (qnn170_nn15) (qnn170_nn21) (qnn183) (qnn184_nn9) (qnn184_nn15) (qnn184_nn21) (qnn187_nn12) (qnn187_nn21) (qnn187_nn30)) (hw _ (List.mem_of_getElem? (i := 30) rfl)) (hw _ (List.mem_of_getElem? (i := 31) rfl)) (hw _ (List.mem_of_getElem? (i := 29) rfl)) (hw _ (List.mem_of_getElem? (i := 32) rfl)) (by decide) own_pd8 rfl rfl (W := 1) rfl (by decide) (by decide) (by decide) (by decide) at_237 rfl ?_
  intro T154 v154 L154 X154 qq154
  obtain ⟨h154, e154⟩ : ∃ h, T154.heap = h := ⟨_, rfl⟩
  rw [e154] at qq154
  obtain ⟨rfl, n154, k154, p154_0, p154_1, p154_2, p154_3, p154_4, p154_5, p154_6, p154_7, p154_8, p154_9, p154_10, p154_11⟩ := qq154
  have f155 := f130.keep k154
  have f156 := f131.keep k154 (ninS ne128 nin0)
  have f157 := f132.keep k154 (ninS ne128 nin0)
  have f158 := f133.keep k154 (ninS ne128 nin0)
  have f159 := f134.keep k154
  have f160 := f135.keep k154 (ninS ne126 nin0)
  have f161 := f136.keep k154 (ninS ne126 nin0)
  have f162 := f137.keep k154 (ninS ne126 nin0)
  have f163 := f138.keep k154
  have f164 := f139.keep k154 (ninS ne127 nin0)
  have f165 := f140.keep k154 (ninS ne127 nin0)
  have f166 := f141.keep k154 (ninS ne127 nin0)
  have f167 := f142.keep k154 (ninS ne129 nin0)
  have f168 := A125.keep k154
  have z154 := Nat.le_trans z125 k154.1
  have K154 := K125.trans k154 (allS (Or.inr kp125) all0)
  have N154 := Fr.app N112 n154
  show Gf p e below P T154 m 240 #[.val (.long i0), .second, .val (.int i1), .val (.long i2), .second, .val (.int i3), .val (.long i4), .second, .val (.int i5), .val (.int ix), .val (.int iy), .val (.int wa), .val (.int wb), .val (.int ua_), .val (.int ub_), .val (.int uc_), .val (.int pk), .val (.int sI), .val (.int kI), .val (.int ia), .val (.int ib), .val (.int ig), .val (.long jx), .second, .val (.long jy), .second, .val (.long jz), .second, .val (.ref fi), .val (.ref ed1), .val (.ref ed2), .val (.ref uv), .unset, .unset, .unset, .unset, .unset, .unset, .unset, .unset, .unset, .unset, .unset, .unset, .unset, .unset, .unset] [(.ref tc)]
  refine g_astore (pc' := 242) (Ls' := #[.val (.long i0), .second, .val (.int i1), .val (.long i2), .second, .val (.int i3), .val (.long i4), .second, .val (.int i5), .val (.int ix), .val (.int iy), .val (.int wa), .val (.int wb), .val (.int ua_), .val (.int ub_), .val (.int uc_), .val (.int pk), .val (.int sI), .val (.int kI), .val (.int ia), .val (.int ib), .val (.int ig), .val (.long jx), .second, .val (.long jy), .second, .val (.long jz), .second, .val (.ref fi), .val (.ref ed1), .val (.ref ed2), .val (.ref uv), .val (.ref tc), .unset, .unset, .unset, .unset, .unset, .unset, .unset, .unset, .unset, .unset, .unset, .unset, .unset, .unset]) X154 hx hby at_240 rfl rfl rfl rfl ?_
  refine g_iload (pc' := 244) X154 hx hby (v := ix) at_242 rfl rfl ?_
  refine g_i2l (pc' := 245) (v := (ix.toInt64)) X154 hx hby at_244 rfl rfl rfl ?_
  refine g_iload (pc' := 247) X154 hx hby (v := pk) at_245 rfl rfl ?_
  refine g_iconst (pc' := 248) (v := (0 : Int32)) X154 hx hby at_247 rfl rfl ?_
  refine g_lload (pc' := 250) X154 hx hby (v := jx) at_248 rfl rfl ?_
  refine g_lload (pc' := 252) X154 hx hby (v := jy) at_250 rfl rfl ?_
  refine g_lload (pc' := 254) X154 hx hby (v := jz) at_252 rfl rfl ?_
  refine g_callS (argsL := [(.int pk), (.int (0 : Int32)), (.long jx), (.long jy), (.long jz)]) (pc' := 257) X154 hx hby (by rw [hml]; rfl) hZ hown e154 (own_rm4_0 l Z a0 hw [] pk jx jy jz  h154 n0 z154) (hw _ (List.mem_of_getElem? (i := 20) rfl)) (hw _ (List.mem_of_getElem? (i := 21) rfl)) (hw _ (List.mem_of_getElem? (i := 18) rfl)) (hw _ (List.mem_of_getElem? (i := 22) rfl)) (by decide) own_pd6 rfl rfl (W := 2) rfl (by decide) (by decide) (by decide) (by decide) at_254 rfl ?_
  intro T180 v180 L180 X180 qq180
  obtain ⟨rfl, n180, e180⟩ := qq180
  have N180 := Fr.app N154 n180
  show Gf p e below P T180 m 257 #[.val (.long i0), .second, .val (.int i1), .val (.long i2), .second, .val (.int i3), .val (.long i4), .second, .val (.int i5), .val (.int ix), .val (.int iy), .val (.int wa), .val (.int wb), .val (.int ua_), .val (.int ub_), .val (.int uc_), .val (.int pk), .val (.int sI), .val (.int kI), .val (.int ia), .val (.int ib), .val (.int ig), .val (.long jx), .second, .val (.long jy), .second, .val (.long jz), .second, .val (.ref fi), .val (.ref ed1), .val (.ref ed2), .val (.ref uv), .val (.ref tc), .unset, .unset, .unset, .unset, .unset, .unset, .unset, .unset, .unset, .unset, .unset, .unset, .unset, .unset] [(.long (own_pk0 pk jx jy jz)), (.long (ix.toInt64))]
  obtain ⟨lx, h_lx⟩ : ∃ z : Int64, (ix.toInt64) + (own_pk0 pk jx jy jz) = z := ⟨_, rfl⟩
  refine g_ladd (pc' := 258) (v := lx) X180 hx hby at_257 rfl h_lx rfl ?_
  obtain ⟨qx, h_qx⟩ : ∃ z : UInt64, FP.l2d lx = z := ⟨_, rfl⟩
  refine g_l2d (pc' := 259) (v := qx) X180 hx hby at_258 rfl h_qx rfl ?_
  refine g_dstore (pc' := 261) (Ls' := #[.val (.long i0), .second, .val (.int i1), .val (.long i2), .second, .val (.int i3), .val (.long i4), .second, .val (.int i5), .val (.int ix), .val (.int iy), .val (.int wa), .val (.int wb), .val (.int ua_), .val (.int ub_), .val (.int uc_), .val (.int pk), .val (.int sI), .val (.int kI), .val (.int ia), .val (.int ib), .val (.int ig), .val (.long jx), .second, .val (.long jy), .second, .val (.long jz), .second, .val (.ref fi), .val (.ref ed1), .val (.ref ed2), .val (.ref uv), .val (.ref tc), .val (.double qx), .second, .unset, .unset, .unset, .unset, .unset, .unset, .unset, .unset, .unset, .unset, .unset, .unset]) X180 hx hby at_259 rfl rfl rfl ?_
  refine g_iload (pc' := 263) X180 hx hby (v := iy) at_261 rfl rfl ?_
  refine g_i2l (pc' := 264) (v := (iy.toInt64)) X180 hx hby at_263 rfl rfl rfl ?_
  refine g_iload (pc' := 266) X180 hx hby (v := pk) at_264 rfl rfl ?_
  refine g_iconst (pc' := 267) (v := (1 : Int32)) X180 hx hby at_266 rfl rfl ?_
  refine g_lload (pc' := 269) X180 hx hby (v := jx) at_267 rfl rfl ?_
  refine g_lload (pc' := 271) X180 hx hby (v := jy) at_269 rfl rfl ?_
  refine g_lload (pc' := 273) X180 hx hby (v := jz) at_271 rfl rfl ?_
  refine g_callS (argsL := [(.int pk), (.int (1 : Int32)), (.long jx), (.long jy), (.long jz)]) (pc' := 276) X180 hx hby (by rw [hml]; rfl) hZ hown e180 (own_rm4_1 l Z a0 hw [] pk jx jy jz  h154 n0 z154) (hw _ (List.mem_of_getElem? (i := 20) rfl)) (hw _ (List.mem_of_getElem? (i := 21) rfl)) (hw _ (List.mem_of_getElem? (i := 18) rfl)) (hw _ (List.mem_of_getElem? (i := 22) rfl)) (by decide) own_pd6 rfl rfl (W := 2) rfl (by decide) (by decide) (by decide) (by decide) at_273 rfl ?_
  intro T181 v181 L181 X181 qq181
  obtain ⟨rfl, n181, e181⟩ := qq181
  have N181 := Fr.app N180 n181
  show Gf p e below P T181 m 276 #[.val (.long i0), .second, .val (.int i1), .val (.long i2), .second, .val (.int i3), .val (.long i4), .second, .val (.int i5), .val (.int ix), .val (.int iy), .val (.int wa), .val (.int wb), .val (.int ua_), .val (.int ub_), .val (.int uc_), .val (.int pk), .val (.int sI), .val (.int kI), .val (.int ia), .val (.int ib), .val (.int ig), .val (.long jx), .second, .val (.long jy), .second, .val (.long jz), .second, .val (.ref fi), .val (.ref ed1), .val (.ref ed2), .val (.ref uv), .val (.ref tc), .val (.double qx), .second, .unset, .unset, .unset, .unset, .unset, .unset, .unset, .unset, .unset, .unset, .unset, .unset] [(.long (own_pk1 pk jx jy jz)), (.long (iy.toInt64))]
  obtain ⟨ly, h_ly⟩ : ∃ z : Int64, (iy.toInt64) + (own_pk1 pk jx jy jz) = z := ⟨_, rfl⟩
  refine g_ladd (pc' := 277) (v := ly) X181 hx hby at_276 rfl h_ly rfl ?_
  obtain ⟨qy, h_qy⟩ : ∃ z : UInt64, FP.l2d ly = z := ⟨_, rfl⟩
  refine g_l2d (pc' := 278) (v := qy) X181 hx hby at_277 rfl h_qy rfl ?_
  refine g_dstore (pc' := 280) (Ls' := #[.val (.long i0), .second, .val (.int i1), .val (.long i2), .second, .val (.int i3), .val (.long i4), .second, .val (.int i5), .val (.int ix), .val (.int iy), .val (.int wa), .val (.int wb), .val (.int ua_), .val (.int ub_), .val (.int uc_), .val (.int pk), .val (.int sI), .val (.int kI), .val (.int ia), .val (.int ib), .val (.int ig), .val (.long jx), .second, .val (.long jy), .second, .val (.long jz), .second, .val (.ref fi), .val (.ref ed1), .val (.ref ed2), .val (.ref uv), .val (.ref tc), .val (.double qx), .second, .val (.double qy), .second, .unset, .unset, .unset, .unset, .unset, .unset, .unset, .unset, .unset, .unset]) X181 hx hby at_278 rfl rfl rfl ?_
  refine g_iloadN (pc' := 281) X181 hx hby (v := i1) at_280 rfl rfl ?_
  refine g_i2l (pc' := 282) (v := (i1.toInt64)) X181 hx hby at_281 rfl rfl rfl ?_
  refine g_iload (pc' := 284) X181 hx hby (v := pk) at_282 rfl rfl ?_
  refine g_iconst (pc' := 285) (v := (2 : Int32)) X181 hx hby at_284 rfl rfl ?_
  refine g_lload (pc' := 287) X181 hx hby (v := jx) at_285 rfl rfl ?_
  refine g_lload (pc' := 289) X181 hx hby (v := jy) at_287 rfl rfl ?_
  refine g_lload (pc' := 291) X181 hx hby (v := jz) at_289 rfl rfl ?_
  refine g_callS (argsL := [(.int pk), (.int (2 : Int32)), (.long jx), (.long jy), (.long jz)]) (pc' := 294) X181 hx hby (by rw [hml]; rfl) hZ hown e181 (own_rm4_2 l Z a0 hw [] pk jx jy jz  h154 n0 z154) (hw _ (List.mem_of_getElem? (i := 20) rfl)) (hw _ (List.mem_of_getElem? (i := 21) rfl)) (hw _ (List.mem_of_getElem? (i := 18) rfl)) (hw _ (List.mem_of_getElem? (i := 22) rfl)) (by decide) own_pd6 rfl rfl (W := 2) rfl (by decide) (by decide) (by decide) (by decide) at_291 rfl ?_
  intro T182 v182 L182 X182 qq182
  obtain ⟨rfl, n182, e182⟩ := qq182
  have N182 := Fr.app N181 n182
  show Gf p e below P T182 m 294 #[.val (.long i0), .second, .val (.int i1), .val (.long i2), .second, .val (.int i3), .val (.long i4), .second, .val (.int i5), .val (.int ix), .val (.int iy), .val (.int wa), .val (.int wb), .val (.int ua_), .val (.int ub_), .val (.int uc_), .val (.int pk), .val (.int sI), .val (.int kI), .val (.int ia), .val (.int ib), .val (.int ig), .val (.long jx), .second, .val (.long jy), .second, .val (.long jz), .second, .val (.ref fi), .val (.ref ed1), .val (.ref ed2), .val (.ref uv), .val (.ref tc), .val (.double qx), .second, .val (.double qy), .second, .unset, .unset, .unset, .unset, .unset, .unset, .unset, .unset, .unset, .unset] [(.long (own_pk2 pk jx jy jz)), (.long (i1.toInt64))]
  obtain ⟨lz, h_lz⟩ : ∃ z : Int64, (i1.toInt64) + (own_pk2 pk jx jy jz) = z := ⟨_, rfl⟩
  refine g_ladd (pc' := 295) (v := lz) X182 hx hby at_294 rfl h_lz rfl ?_
  obtain ⟨qz, h_qz⟩ : ∃ z : UInt64, FP.l2d lz = z := ⟨_, rfl⟩
  refine g_l2d (pc' := 296) (v := qz) X182 hx hby at_295 rfl h_qz rfl ?_
  refine g_dstore (pc' := 298) (Ls' := #[.val (.long i0), .second, .val (.int i1), .val (.long i2), .second, .val (.int i3), .val (.long i4), .second, .val (.int i5), .val (.int ix), .val (.int iy), .val (.int wa), .val (.int wb), .val (.int ua_), .val (.int ub_), .val (.int uc_), .val (.int pk), .val (.int sI), .val (.int kI), .val (.int ia), .val (.int ib), .val (.int ig), .val (.long jx), .second, .val (.long jy), .second, .val (.long jz), .second, .val (.ref fi), .val (.ref ed1), .val (.ref ed2), .val (.ref uv), .val (.ref tc), .val (.double qx), .second, .val (.double qy), .second, .val (.double qz), .second, .unset, .unset, .unset, .unset, .unset, .unset, .unset, .unset]) X182 hx hby at_296 rfl rfl rfl ?_
  refine g_aload (pc' := 300) X182 hx hby (v := (.ref tc)) at_298 rfl rfl rfl ?_
  refine g_dload (pc' := 302) X182 hx hby (v := qx) at_300 rfl rfl ?_
  refine g_dload (pc' := 304) X182 hx hby (v := qy) at_302 rfl rfl ?_
  refine g_dload (pc' := 306) X182 hx hby (v := qz) at_304 rfl rfl ?_
  have r_px := own_at h_lx h_qx o_x b_x
  have r_py := own_at h_ly h_qy o_y b_y
  have r_pz := own_at h_lz h_qz o_z b_z
  obtain ⟨mnn9, mnn14, mnn15, mnn21, mnn26, mnn27, mnn34, mnn39, mnn40, r_got⟩ := own_read r_u1 r_px r_fx b_x r_wx r_py r_fy b_y r_wy r_pz r_fz b_z r_wz
  rw [own_dsum] at r_got
  refine g_virt (argsL := [(.double qx), (.double qy), (.double qz)]) (pc' := 309) X182 hx hby (by rw [hml]; rfl) hZ hown e182 (own_rm14 l Z a0 hw [] tc qx qy qz u1 fx wx fy wy fz wz h154 n0 z154 p154_5 p154_1 p154_9 p154_2 p154_10 p154_3 p154_11 (mnn9) (mnn14) (mnn15) (mnn21) (mnn26) (mnn27) (mnn34) (mnn39) (mnn40)) (hw _ (List.mem_of_getElem? (i := 93) rfl)) (hw _ (List.mem_of_getElem? (i := 94) rfl)) (hw _ (List.mem_of_getElem? (i := 96) rfl)) (hw _ (List.mem_of_getElem? (i := 95) rfl)) (hw _ (List.mem_of_getElem? (i := 29) rfl)) (hw _ (List.mem_of_getElem? (i := 97) rfl)) (by decide) p154_0 own_pd9 rfl rfl (W := 0) rfl (by decide) (by decide) (by decide) (by decide) at_306 rfl ?_
  intro T183 v183 L183 X183 qq183
  obtain ⟨rfl, n183, e183⟩ := qq183
  have N183 := Fr.app N182 n183
  obtain ⟨got, h_got⟩ : ∃ z : UInt64, (FP.dadd (FP.dadd (FP.dadd u1 (FP.dmul (FP.dsub qx fx) wx)) (FP.dmul (FP.dsub qy fy) wy)) (FP.dmul (FP.dsub qz fz) wz)) = z := ⟨_, rfl⟩
  rw [h_got]
  show Gf p e below P T183 m 309 #[.val (.long i0), .second, .val (.int i1), .val (.long i2), .second, .val (.int i3), .val (.long i4), .second, .val (.int i5), .val (.int ix), .val (.int iy), .val (.int wa), .val (.int wb), .val (.int ua_), .val (.int ub_), .val (.int uc_), .val (.int pk), .val (.int sI), .val (.int kI), .val (.int ia), .val (.int ib), .val (.int ig), .val (.long jx), .second, .val (.long jy), .second, .val (.long jz), .second, .val (.ref fi), .val (.ref ed1), .val (.ref ed2), .val (.ref uv), .val (.ref tc), .val (.double qx), .second, .val (.double qy), .second, .val (.double qz), .second, .unset, .unset, .unset, .unset, .unset, .unset, .unset, .unset] [(.double got)]
  refine g_dstore (pc' := 311) (Ls' := #[.val (.long i0), .second, .val (.int i1), .val (.long i2), .second, .val (.int i3), .val (.long i4), .second, .val (.int i5), .val (.int ix), .val (.int iy), .val (.int wa), .val (.int wb), .val (.int ua_), .val (.int ub_), .val (.int uc_), .val (.int pk), .val (.int sI), .val (.int kI), .val (.int ia), .val (.int ib), .val (.int ig), .val (.long jx), .second, .val (.long jy), .second, .val (.long jz), .second, .val (.ref fi), .val (.ref ed1), .val (.ref ed2), .val (.ref uv), .val (.ref tc), .val (.double qx), .second, .val (.double qy), .second, .val (.double qz), .second, .val (.double got), .second, .unset, .unset, .unset, .unset, .unset, .unset]) X183 hx hby at_309 rfl rfl rfl ?_
  refine g_iload (pc' := 313) X183 hx hby (v := wb) at_311 rfl rfl ?_
  refine g_i2d (pc' := 314) (v := (FP.i2d wb)) X183 hx hby at_313 rfl rfl rfl ?_
  refine g_iload (pc' := 316) X183 hx hby (v := wa) at_314 rfl rfl ?_
  refine g_i2d (pc' := 317) (v := (FP.i2d wa)) X183 hx hby at_316 rfl rfl rfl ?_
  obtain ⟨da2, h_da2⟩ : ∃ z : UInt64, FP.dsub (FP.i2d wb) (FP.i2d wa) = z := ⟨_, rfl⟩
  refine g_dsub (pc' := 318) (v := da2) X183 hx hby at_317 rfl (en1) h_da2 rfl ?_
  refine g_dstore (pc' := 320) (Ls' := #[.val (.long i0), .second, .val (.int i1), .val (.long i2), .second, .val (.int i3), .val (.long i4), .second, .val (.int i5), .val (.int ix), .val (.int iy), .val (.int wa), .val (.int wb), .val (.int ua_), .val (.int ub_), .val (.int uc_), .val (.int pk), .val (.int sI), .val (.int kI), .val (.int ia), .val (.int ib), .val (.int ig), .val (.long jx), .second, .val (.long jy), .second, .val (.long jz), .second, .val (.ref fi), .val (.ref ed1), .val (.ref ed2), .val (.ref uv), .val (.ref tc), .val (.double qx), .second, .val (.double qy), .second, .val (.double qz), .second, .val (.double got), .second, .val (.double da2), .second, .unset, .unset, .unset, .unset]) X183 hx hby at_318 rfl rfl rfl ?_
  refine g_iload (pc' := 322) X183 hx hby (v := i3) at_320 rfl rfl ?_
  refine g_i2d (pc' := 323) (v := (FP.i2d i3)) X183 hx hby at_322 rfl rfl rfl ?_
  refine g_iload (pc' := 325) X183 hx hby (v := wa) at_323 rfl rfl ?_
  refine g_i2d (pc' := 326) (v := (FP.i2d wa)) X183 hx hby at_325 rfl rfl rfl ?_
  obtain ⟨da3, h_da3⟩ : ∃ z : UInt64, FP.dsub (FP.i2d i3) (FP.i2d wa) = z := ⟨_, rfl⟩
  refine g_dsub (pc' := 327) (v := da3) X183 hx hby at_326 rfl (en2) h_da3 rfl ?_
  refine g_dstore (pc' := 329) (Ls' := #[.val (.long i0), .second, .val (.int i1), .val (.long i2), .second, .val (.int i3), .val (.long i4), .second, .val (.int i5), .val (.int ix), .val (.int iy), .val (.int wa), .val (.int wb), .val (.int ua_), .val (.int ub_), .val (.int uc_), .val (.int pk), .val (.int sI), .val (.int kI), .val (.int ia), .val (.int ib), .val (.int ig), .val (.long jx), .second, .val (.long jy), .second, .val (.long jz), .second, .val (.ref fi), .val (.ref ed1), .val (.ref ed2), .val (.ref uv), .val (.ref tc), .val (.double qx), .second, .val (.double qy), .second, .val (.double qz), .second, .val (.double got), .second, .val (.double da2), .second, .val (.double da3), .second, .unset, .unset]) X183 hx hby at_327 rfl rfl rfl ?_
  obtain ⟨en4, en5, en6, en7, en8, en9, r_ex⟩ := en3 _ _ h_da2 h_da3
  refine g_iload (pc' := 331) X183 hx hby (v := wa) at_329 rfl rfl ?_
  refine g_i2d (pc' := 332) (v := (FP.i2d wa)) X183 hx hby at_331 rfl rfl rfl ?_
  refine g_iload (pc' := 334) X183 hx hby (v := ia) at_332 rfl rfl ?_
  refine g_i2d (pc' := 335) (v := (FP.i2d ia)) X183 hx hby at_334 rfl rfl rfl ?_
  refine g_iload (pc' := 337) X183 hx hby (v := sI) at_335 rfl rfl ?_
  refine g_i2d (pc' := 338) (v := (FP.i2d sI)) X183 hx hby at_337 rfl rfl rfl ?_
  refine g_ddiv (pc' := 339) (v := (FP.ddiv (FP.i2d ia) (FP.i2d sI))) X183 hx hby at_338 rfl (en4) rfl rfl ?_
  refine g_dload (pc' := 341) X183 hx hby (v := da2) at_339 rfl rfl ?_
  refine g_dmul (pc' := 342) (v := (FP.dmul (FP.ddiv (FP.i2d ia) (FP.i2d sI)) da2)) X183 hx hby at_341 rfl (en5) rfl rfl ?_
  refine g_dadd (pc' := 343) (v := (FP.dadd (FP.i2d wa) (FP.dmul (FP.ddiv (FP.i2d ia) (FP.i2d sI)) da2))) X183 hx hby at_342 rfl (en6) rfl rfl ?_
  refine g_iload (pc' := 345) X183 hx hby (v := ib) at_343 rfl rfl ?_
  refine g_i2d (pc' := 346) (v := (FP.i2d ib)) X183 hx hby at_345 rfl rfl rfl ?_
  refine g_iload (pc' := 348) X183 hx hby (v := sI) at_346 rfl rfl ?_
  refine g_i2d (pc' := 349) (v := (FP.i2d sI)) X183 hx hby at_348 rfl rfl rfl ?_
  refine g_ddiv (pc' := 350) (v := (FP.ddiv (FP.i2d ib) (FP.i2d sI))) X183 hx hby at_349 rfl (en7) rfl rfl ?_
  refine g_dload (pc' := 352) X183 hx hby (v := da3) at_350 rfl rfl ?_
  refine g_dmul (pc' := 353) (v := (FP.dmul (FP.ddiv (FP.i2d ib) (FP.i2d sI)) da3)) X183 hx hby at_352 rfl (en8) rfl rfl ?_
  obtain ⟨exd, h_exd⟩ : ∃ z : UInt64, FP.dadd (FP.dadd (FP.i2d wa) (FP.dmul (FP.ddiv (FP.i2d ia) (FP.i2d sI)) da2)) (FP.dmul (FP.ddiv (FP.i2d ib) (FP.i2d sI)) da3) = z := ⟨_, rfl⟩
  refine g_dadd (pc' := 354) (v := exd) X183 hx hby at_353 rfl (en9) h_exd rfl ?_
  refine g_dstore (pc' := 356) (Ls' := #[.val (.long i0), .second, .val (.int i1), .val (.long i2), .second, .val (.int i3), .val (.long i4), .second, .val (.int i5), .val (.int ix), .val (.int iy), .val (.int wa), .val (.int wb), .val (.int ua_), .val (.int ub_), .val (.int uc_), .val (.int pk), .val (.int sI), .val (.int kI), .val (.int ia), .val (.int ib), .val (.int ig), .val (.long jx), .second, .val (.long jy), .second, .val (.long jz), .second, .val (.ref fi), .val (.ref ed1), .val (.ref ed2), .val (.ref uv), .val (.ref tc), .val (.double qx), .second, .val (.double qy), .second, .val (.double qz), .second, .val (.double got), .second, .val (.double da2), .second, .val (.double da3), .second, .val (.double exd), .second]) X183 hx hby at_354 rfl rfl rfl ?_
  rw [h_got] at r_got
  rw [h_exd] at r_ex
  refine g_dload (pc' := 358) X183 hx hby (v := got) at_356 rfl rfl ?_
  refine g_dload (pc' := 360) X183 hx hby (v := exd) at_358 rfl rfl ?_
  refine g_dcmp (pc' := 361) (v := (cmpValue (FP.dcmp got exd) .l)) X183 hx hby at_360 rfl rfl rfl ?_
  refine g_ifN (pc' := 364) X183 hx hby at_361 rfl (teq (own_fin3 r_got r_ex (own_id hMt) _ : (cmpValue (FP.dcmp got exd) .l) = (0 : Int32))).2 rfl ?_
  refine g_iconst (pc' := 365) (v := (1 : Int32)) X183 hx hby at_364 rfl rfl ?_
  refine g_goto (pc' := 369) X183 hx hby at_365 (by decide) (by decide) ?_
  exact g_retZ X183 hx hby hf hlk hret at_369 rfl (by simp) rfl (by decide) (by decide) e183 ⟨rfl, N183, K154⟩
theorem comes_1 {Post : Tables → Env → Array Value → State → Outcome → State → Prop} (hpost : ∀ tb e args s v u, (limb_1_1.after args s (.returned v) u = true ∧ limb_1_2.after args s (.returned v) u = true ∧ True) → FrameEnd s (.returned v) u (Jvm.fieldLocs frame_1_writes args s ++ Jvm.arrayLocs frame_1_arrays args s ++ Jvm.staticLocs frame_1_statics s) 48 192 → Post tb e args s (.returned v) u) :
    ArmFor flags0 classFile x code maxLocals ret World_1 tables_1 room_1 Calls_1 rest_1 Pre_1 Post := by
  intro l hfl _ _ p e ha hc hk s m args below hf hA hF happ hP
  obtain ⟨hcalls, hrest, hpre⟩ := hP
  obtain ⟨-, -, -, hnamed, -, -, -, hat⟩ := (Spec.applies_iff hf).mp happ
  obtain ⟨hg, hn⟩ := and_e (Cond.before_iff.mp (show (Jvm.Cond.and given_1 narrow_1).before args s = true from hpre))
  obtain ⟨h1, g0⟩ := and_e hg
  obtain ⟨w0, w1, w2, w3, w4, w5, rfl⟩ : ∃ w0 w1 w2 w3 w4 w5 : Value, args = #[w0, w1, w2, w3, w4, w5] := by
    have hs : args.size = 6 := by simpa [Cond.value, given_1] using h1
    obtain ⟨L⟩ := args
    match L, hs with
    | [w0, w1, w2, w3, w4, w5], _ => exact ⟨w0, w1, w2, w3, w4, w5, rfl⟩
  have hw := fun d (hd : d ∈ tables_1) => atoms_spec (ws := Jvm.Cond.code x code maxLocals ret :: tables_1) hat d (List.mem_cons_of_mem _ hd)
  have hfit : Fit s := fun {y c} hc i hi => by
    obtain ⟨ha, rfl⟩ := Array.getElem?_eq_some_iff.mp hc
    have q := List.all_eq_true.mp ((Array.all_eq_true_iff_forall_mem.mp hF) _ (Array.getElem_mem ha)) i (List.mem_range.mpr hi)
    simpa [Array.getElem?_eq_getElem hi] using q
  obtain ⟨t0, g1⟩ := and_e g0
  obtain ⟨i0, e0⟩ := isL_v t0
  obtain rfl : w0 = (.long i0) := Option.some.inj e0
  obtain ⟨t1, g2⟩ := and_e g1
  obtain ⟨i1, e1⟩ := is_v t1
  obtain rfl : w1 = (.int i1) := Option.some.inj e1
  obtain ⟨t2, g3⟩ := and_e g2
  obtain ⟨i2, e2⟩ := isL_v t2
  obtain rfl : w2 = (.long i2) := Option.some.inj e2
  obtain ⟨t3, g4⟩ := and_e g3
  obtain ⟨i3, e3⟩ := is_v t3
  obtain rfl : w3 = (.int i3) := Option.some.inj e3
  obtain ⟨t4, g5⟩ := and_e g4
  obtain ⟨i4, e4⟩ := isL_v t4
  obtain rfl : w4 = (.long i4) := Option.some.inj e4
  have t5 := g5
  obtain ⟨i5, e5⟩ := is_v t5
  obtain rfl : w5 = (.int i5) := Option.some.inj e5
  obtain ⟨n, o, h1, h2, h3, _, L, rfl, ⟨rfl, N, _⟩, hq⟩ := own_rm0 l s _ hw tables_1 i0 i1 i2 i3 i4 i5 s.heap s.heap.size (Nat.le_refl _)  p e ha hc hk s m _ below hf ((Spec.applies_iff_loose hf).mp happ).1 ⟨rfl, State.Warmed39.refl s, rfl⟩ trivial
  refine ⟨n, _, h1, h2, h3, hpost _ _ _ _ _ _ ⟨Cond.after_iff.mpr rfl, Cond.after_iff.mpr (eq_i res_at (Term.int_eval (1)) rfl), trivial⟩ ⟨hq.1, hq.2.1, (hq.2.2.sift fun y hy => Or.inr (N y hy)).mono (by decide) (by decide)⟩⟩
theorem main_1_1 : Claimed_1_1 := comes_1 fun _ _ _ _ _ _ h hF => ⟨h.1, hF⟩
theorem main_1_2 : Claimed_1_2 := comes_1 fun _ _ _ _ _ _ h hF => ⟨h.2.1, hF⟩
end Jvm.Pilot.@@N@@
namespace Jvm.Pilot.@@N@@
open Jvm Jvm.ClassFile Sem Op Lib Jvm.Free Jvm.Stand Jvm.Pilot.@@N@@.Jvm.D
/-! MADE BY PROGRAM (witnessworld.py) out of the Statement's table words and the real class files: 12 classes; the members and pool entries that the words name. The judged class is class 1, her method 1. -/
namespace start1
open Jvm.ClassFile
def u (s : String) : CpInfo := .utf8 (stringToUtf16 s)
/-- a pool by its gaps: so many unusable entries, then the entry; so many at the end -/
def gap : Nat → List CpInfo → List CpInfo
  | 0, r => r
  | n + 1, r => .unusable :: gap n r
def poolList (es : List (Nat × CpInfo)) (last : Nat) : List CpInfo := es.foldr (fun e r => gap e.1 (e.2 :: r)) (gap last [])
def pool (es : List (Nat × CpInfo)) (last : Nat) : Array CpInfo := ⟨poolList es last⟩
def fileOf (pool : Array CpInfo) (this : Nat) (attrs : Array Attribute := #[]) (ms : Array MethodInfo := #[]) (fl : Nat := 33) (sup : Nat := 0) (ifs : Array Nat := #[]) (fds : Array FieldInfo := #[]) : ClassFile where
  minorVersion := 0
  majorVersion := 65
  constantPool := pool
  accessFlags := fl
  thisClass := this
  superClass := sup
  interfaces := ifs
  fields := fds
  methods := ms
  attributes := attrs
def plain (name : String) (sup : Option ClassId) : Class where
  name := name
  kind := .ordinary
  loader := none
  accessFlags := 33
  super := sup
  interfaces := #[]
  cf := none
  fields := #[]
  methods := #[]
  instanceTypes := #[]
  staticTypes := #[]
  resolved := #[]
  callSites := []
  init := .initialized
  statics := none
  mirror := none

def pool0 : Array CpInfo := pool [(5, u "<init>"), (0, u "()V"), (1, .class_ 10), (1, u "java/lang/Object")] 113

def k0c0 : Code := { maxStack := 0, maxLocals := 1, code := object_method_1_code, exceptionTable := #[], attributes := #[] }
def k0m0 : Method := { name := "<init>", desc := "()V", sig := { parameters := [], returnType := none }, accessFlags := 1, code := some k0c0 }
/-- java/lang/Object -/
def k0 : Class := { plain "java/lang/Object" none with
  accessFlags := 33
  interfaces := #[]
  cf := some (fileOf pool0 8 #[] #[{ accessFlags := 1, nameIndex := 5, descriptorIndex := 6, attributes := #[] }] 33 0 #[] #[])
  fields := #[]
  methods := #[k0m0]
  instanceTypes := #[]
  staticTypes := #[]
  resolved := Array.replicate 124 none
  statics := none }

def pool1 : Array CpInfo := pool [(2, .class_ 4), (1, u "java/lang/Object"), (0, u "<init>"), (0, u "()V"), (0, .integer 2147483647), (0, .class_ 9), (0, u "com/example/stochastic_ray_tracer/stochasticraytracer/Vec3"), (0, .methodref 8 11), (0, .nameAndType 5 12), (0, u "(DDD)V"), (0, .methodref 14 15), (0, .class_ 16), (0, .nameAndType 17 18), (0, u "com/example/stochastic_ray_tracer/stochasticraytracer/TextureCoordinatesVPinLaw"), (0, u "vec"), (0, u "(IJJJ)Lcom/example/stochastic_ray_tracer/stochasticraytracer/Vec3;"), (0, .class_ 20), (0, u "com/example/stochastic_ray_tracer/stochasticraytracer/TextureCoordinates"), (0, .methodref 19 22), (0, .nameAndType 5 23), (0, u "(Lcom/example/stochastic_ray_tracer/stochasticraytracer/Vec3;Lcom/example/stochastic_ray_tracer/stochasticraytracer/Vec3;Lcom/example/stochastic_ray_tracer/stochasticraytracer/Vec3;[D)V"), (0, .methodref 14 25), (0, .nameAndType 26 27), (0, u "pick"), (0, u "(IIJJJ)J"), (0, .methodref 19 29), (0, .nameAndType 30 31), (0, u "v"), (0, u "(DDD)D"), (0, .methodref 14 33), (0, .nameAndType 34 35), (0, u "slot"), (0, u "(II)I"), (2, u "law"), (0, u "(JIJIJI)Z")] 5

def k1m0 : Method := { name := "<init>", desc := "()V", sig := { parameters := [], returnType := none }, accessFlags := 1, code := none }
def k1c1 : Code := { maxStack := 10, maxLocals := 47, code := code, exceptionTable := #[], attributes := #[] }
def k1m1 : Method := { name := "law", desc := "(JIJIJI)Z", sig := { parameters := [.long, .int, .long, .int, .long, .int], returnType := some .boolean }, accessFlags := 9, code := some k1c1 }
def k1c2 : Code := { maxStack := 14, maxLocals := 7, code := method_3_code, exceptionTable := #[], attributes := #[] }
def k1m2 : Method := { name := "vec", desc := "(IJJJ)Lcom/example/stochastic_ray_tracer/stochasticraytracer/Vec3;", sig := { parameters := [.int, .long, .long, .long], returnType := some (.object "com/example/stochastic_ray_tracer/stochasticraytracer/Vec3") }, accessFlags := 10, code := some k1c2 }
def k1c3 : Code := { maxStack := 2, maxLocals := 9, code := method_4_code, exceptionTable := #[], attributes := #[] }
def k1m3 : Method := { name := "pick", desc := "(IIJJJ)J", sig := { parameters := [.int, .int, .long, .long, .long], returnType := some .long }, accessFlags := 10, code := some k1c3 }
def k1c4 : Code := { maxStack := 2, maxLocals := 2, code := method_5_code, exceptionTable := #[], attributes := #[] }
def k1m4 : Method := { name := "slot", desc := "(II)I", sig := { parameters := [.int, .int], returnType := some .int }, accessFlags := 10, code := some k1c4 }
/-- com/example/stochastic_ray_tracer/stochasticraytracer/TextureCoordinatesVPinLaw -/
def k1 : Class := { plain "com/example/stochastic_ray_tracer/stochasticraytracer/TextureCoordinatesVPinLaw" (some 0) with
  accessFlags := 49
  interfaces := #[]
  cf := some (fileOf pool1 14 #[] #[{ accessFlags := 1, nameIndex := 5, descriptorIndex := 6, attributes := #[] }, { accessFlags := 9, nameIndex := 38, descriptorIndex := 39, attributes := #[] }, { accessFlags := 10, nameIndex := 17, descriptorIndex := 18, attributes := #[] }, { accessFlags := 10, nameIndex := 26, descriptorIndex := 27, attributes := #[] }, { accessFlags := 10, nameIndex := 34, descriptorIndex := 35, attributes := #[] }] 49 2 #[] #[])
  fields := #[]
  methods := #[k1m0, k1m1, k1m2, k1m3, k1m4]
  instanceTypes := #[]
  staticTypes := #[]
  resolved := Array.replicate 45 none
  statics := none }

def pool2 : Array CpInfo := pool [(1, .methodref 2 3), (0, .class_ 4), (0, .nameAndType 5 6), (0, u "java/lang/Object"), (0, u "<init>"), (0, u "()V"), (0, .fieldref 8 9), (0, .class_ 10), (0, .nameAndType 11 12), (0, u "com/example/stochastic_ray_tracer/stochasticraytracer/Vec3"), (0, u "x"), (0, u "D"), (0, .fieldref 8 14), (0, .nameAndType 15 12), (0, u "y"), (0, .fieldref 8 17), (0, .nameAndType 18 12), (0, u "z"), (15, .methodref 8 35), (0, .nameAndType 5 36), (0, u "(DDD)V"), (5, u "dot"), (0, u "(Lcom/example/stochastic_ray_tracer/stochasticraytracer/Vec3;)D"), (7, u "()D"), (2, u "times"), (0, u "(D)Lcom/example/stochastic_ray_tracer/stochasticraytracer/Vec3;"), (8, u "(Lcom/example/stochastic_ray_tracer/stochasticraytracer/Vec3;)Lcom/example/stochastic_ray_tracer/stochasticraytracer/Vec3;"), (0, u "plus"), (0, u "minus")] 24

def k2c0 : Code := { maxStack := 3, maxLocals := 7, code := prog_72_method_1_code, exceptionTable := #[], attributes := #[] }
def k2m0 : Method := { name := "<init>", desc := "(DDD)V", sig := { parameters := [.double, .double, .double], returnType := none }, accessFlags := 0, code := some k2c0 }
def k2c1 : Code := { maxStack := 2, maxLocals := 1, code := prog_72_method_2_code, exceptionTable := #[], attributes := #[] }
def k2m1 : Method := { name := "x", desc := "()D", sig := { parameters := [], returnType := some .double }, accessFlags := 0, code := some k2c1 }
def k2c2 : Code := { maxStack := 2, maxLocals := 1, code := prog_72_method_3_code, exceptionTable := #[], attributes := #[] }
def k2m2 : Method := { name := "y", desc := "()D", sig := { parameters := [], returnType := some .double }, accessFlags := 0, code := some k2c2 }
def k2c3 : Code := { maxStack := 2, maxLocals := 1, code := prog_72_method_4_code, exceptionTable := #[], attributes := #[] }
def k2m3 : Method := { name := "z", desc := "()D", sig := { parameters := [], returnType := some .double }, accessFlags := 0, code := some k2c3 }
def k2c4 : Code := { maxStack := 10, maxLocals := 2, code := prog_72_method_8_code, exceptionTable := #[], attributes := #[] }
def k2m4 : Method := { name := "plus", desc := "(Lcom/example/stochastic_ray_tracer/stochasticraytracer/Vec3;)Lcom/example/stochastic_ray_tracer/stochasticraytracer/Vec3;", sig := { parameters := [(.object "com/example/stochastic_ray_tracer/stochasticraytracer/Vec3")], returnType := some (.object "com/example/stochastic_ray_tracer/stochasticraytracer/Vec3") }, accessFlags := 0, code := some k2c4 }
def k2c5 : Code := { maxStack := 10, maxLocals := 2, code := prog_72_method_9_code, exceptionTable := #[], attributes := #[] }
def k2m5 : Method := { name := "minus", desc := "(Lcom/example/stochastic_ray_tracer/stochasticraytracer/Vec3;)Lcom/example/stochastic_ray_tracer/stochasticraytracer/Vec3;", sig := { parameters := [(.object "com/example/stochastic_ray_tracer/stochasticraytracer/Vec3")], returnType := some (.object "com/example/stochastic_ray_tracer/stochasticraytracer/Vec3") }, accessFlags := 0, code := some k2c5 }
def k2c6 : Code := { maxStack := 10, maxLocals := 3, code := prog_72_method_10_code, exceptionTable := #[], attributes := #[] }
def k2m6 : Method := { name := "times", desc := "(D)Lcom/example/stochastic_ray_tracer/stochasticraytracer/Vec3;", sig := { parameters := [.double], returnType := some (.object "com/example/stochastic_ray_tracer/stochasticraytracer/Vec3") }, accessFlags := 0, code := some k2c6 }
def k2c7 : Code := { maxStack := 6, maxLocals := 2, code := prog_72_method_11_code, exceptionTable := #[], attributes := #[] }
def k2m7 : Method := { name := "dot", desc := "(Lcom/example/stochastic_ray_tracer/stochasticraytracer/Vec3;)D", sig := { parameters := [(.object "com/example/stochastic_ray_tracer/stochasticraytracer/Vec3")], returnType := some .double }, accessFlags := 0, code := some k2c7 }
/-- com/example/stochastic_ray_tracer/stochasticraytracer/Vec3 -/
def k2 : Class := { plain "com/example/stochastic_ray_tracer/stochasticraytracer/Vec3" (some 0) with
  accessFlags := 32
  interfaces := #[]
  cf := some (fileOf pool2 8 #[] #[{ accessFlags := 0, nameIndex := 5, descriptorIndex := 36, attributes := #[] }, { accessFlags := 0, nameIndex := 11, descriptorIndex := 51, attributes := #[] }, { accessFlags := 0, nameIndex := 15, descriptorIndex := 51, attributes := #[] }, { accessFlags := 0, nameIndex := 18, descriptorIndex := 51, attributes := #[] }, { accessFlags := 0, nameIndex := 65, descriptorIndex := 64, attributes := #[] }, { accessFlags := 0, nameIndex := 66, descriptorIndex := 64, attributes := #[] }, { accessFlags := 0, nameIndex := 54, descriptorIndex := 55, attributes := #[] }, { accessFlags := 0, nameIndex := 42, descriptorIndex := 43, attributes := #[] }] 32 2 #[] #[{ accessFlags := 18, nameIndex := 11, descriptorIndex := 12, attributes := #[] }, { accessFlags := 18, nameIndex := 15, descriptorIndex := 12, attributes := #[] }, { accessFlags := 18, nameIndex := 18, descriptorIndex := 12, attributes := #[] }])
  fields := #[{ name := "x", type := .double, accessFlags := 18, slot := 0, constantValue := 0 }, { name := "y", type := .double, accessFlags := 18, slot := 1, constantValue := 0 }, { name := "z", type := .double, accessFlags := 18, slot := 2, constantValue := 0 }]
  methods := #[k2m0, k2m1, k2m2, k2m3, k2m4, k2m5, k2m6, k2m7]
  instanceTypes := #[.double, .double, .double]
  staticTypes := #[]
  resolved := Array.replicate 91 none
  statics := none }

def pool3 : Array CpInfo := pool [(1, .methodref 2 3), (0, .class_ 4), (0, .nameAndType 5 6), (0, u "java/lang/Object"), (0, u "<init>"), (0, u "()V"), (0, .methodref 8 9), (0, .class_ 10), (0, .nameAndType 11 12), (0, u "com/example/stochastic_ray_tracer/stochasticraytracer/Vec3"), (0, u "x"), (0, u "()D"), (0, .fieldref 14 15), (0, .class_ 16), (0, .nameAndType 17 18), (0, u "com/example/stochastic_ray_tracer/stochasticraytracer/TextureCoordinates"), (0, u "cornerX"), (0, u "D"), (0, .methodref 8 20), (0, .nameAndType 21 12), (0, u "y"), (0, .fieldref 14 23), (0, .nameAndType 24 18), (0, u "cornerY"), (0, .methodref 8 26), (0, .nameAndType 27 12), (0, u "z"), (0, .fieldref 14 29), (0, .nameAndType 30 18), (0, u "cornerZ"), (0, .fieldref 14 32), (0, .nameAndType 33 18), (0, u "cornerU"), (0, .fieldref 14 35), (0, .nameAndType 36 18), (0, u "cornerV"), (0, .methodref 8 38), (0, .nameAndType 39 40), (0, u "dot"), (0, u "(Lcom/example/stochastic_ray_tracer/stochasticraytracer/Vec3;)D"), (0, .methodref 8 42), (0, .nameAndType 43 44), (0, u "times"), (0, u "(D)Lcom/example/stochastic_ray_tracer/stochasticraytracer/Vec3;"), (0, .methodref 8 46), (0, .nameAndType 47 48), (0, u "minus"), (0, u "(Lcom/example/stochastic_ray_tracer/stochasticraytracer/Vec3;)Lcom/example/stochastic_ray_tracer/stochasticraytracer/Vec3;"), (0, .methodref 8 50), (0, .nameAndType 51 48), (0, u "plus"), (0, .fieldref 14 53), (0, .nameAndType 54 18), (0, u "uGradientX"), (0, .fieldref 14 56), (0, .nameAndType 57 18), (0, u "uGradientY"), (0, .fieldref 14 59), (0, .nameAndType 60 18), (0, u "uGradientZ"), (0, .fieldref 14 62), (0, .nameAndType 63 18), (0, u "vGradientX"), (0, .fieldref 14 65), (0, .nameAndType 66 18), (0, u "vGradientY"), (0, .fieldref 14 68), (0, .nameAndType 69 18), (0, u "vGradientZ"), (0, u "(Lcom/example/stochastic_ray_tracer/stochasticraytracer/Vec3;Lcom/example/stochastic_ray_tracer/stochasticraytracer/Vec3;Lcom/example/stochastic_ray_tracer/stochasticraytracer/Vec3;[D)V"), (3, u "(DDD)D"), (0, u "v")] 2

def k3c0 : Code := { maxStack := 8, maxLocals := 17, code := prog_68_method_1_code, exceptionTable := #[], attributes := #[] }
def k3m0 : Method := { name := "<init>", desc := "(Lcom/example/stochastic_ray_tracer/stochasticraytracer/Vec3;Lcom/example/stochastic_ray_tracer/stochasticraytracer/Vec3;Lcom/example/stochastic_ray_tracer/stochasticraytracer/Vec3;[D)V", sig := { parameters := [(.object "com/example/stochastic_ray_tracer/stochasticraytracer/Vec3"), (.object "com/example/stochastic_ray_tracer/stochasticraytracer/Vec3"), (.object "com/example/stochastic_ray_tracer/stochasticraytracer/Vec3"), (.array .double)], returnType := none }, accessFlags := 0, code := some k3c0 }
def k3c1 : Code := { maxStack := 6, maxLocals := 7, code := prog_68_method_3_code, exceptionTable := #[], attributes := #[] }
def k3m1 : Method := { name := "v", desc := "(DDD)D", sig := { parameters := [.double, .double, .double], returnType := some .double }, accessFlags := 0, code := some k3c1 }
/-- com/example/stochastic_ray_tracer/stochasticraytracer/TextureCoordinates -/
def k3 : Class := { plain "com/example/stochastic_ray_tracer/stochasticraytracer/TextureCoordinates" (some 0) with
  accessFlags := 32
  interfaces := #[]
  cf := some (fileOf pool3 14 #[] #[{ accessFlags := 0, nameIndex := 5, descriptorIndex := 70, attributes := #[] }, { accessFlags := 0, nameIndex := 75, descriptorIndex := 74, attributes := #[] }] 32 2 #[] #[{ accessFlags := 18, nameIndex := 17, descriptorIndex := 18, attributes := #[] }, { accessFlags := 18, nameIndex := 24, descriptorIndex := 18, attributes := #[] }, { accessFlags := 18, nameIndex := 30, descriptorIndex := 18, attributes := #[] }, { accessFlags := 18, nameIndex := 33, descriptorIndex := 18, attributes := #[] }, { accessFlags := 18, nameIndex := 36, descriptorIndex := 18, attributes := #[] }, { accessFlags := 18, nameIndex := 54, descriptorIndex := 18, attributes := #[] }, { accessFlags := 18, nameIndex := 57, descriptorIndex := 18, attributes := #[] }, { accessFlags := 18, nameIndex := 60, descriptorIndex := 18, attributes := #[] }, { accessFlags := 18, nameIndex := 63, descriptorIndex := 18, attributes := #[] }, { accessFlags := 18, nameIndex := 66, descriptorIndex := 18, attributes := #[] }, { accessFlags := 18, nameIndex := 69, descriptorIndex := 18, attributes := #[] }])
  fields := #[{ name := "cornerX", type := .double, accessFlags := 18, slot := 0, constantValue := 0 }, { name := "cornerY", type := .double, accessFlags := 18, slot := 1, constantValue := 0 }, { name := "cornerZ", type := .double, accessFlags := 18, slot := 2, constantValue := 0 }, { name := "cornerU", type := .double, accessFlags := 18, slot := 3, constantValue := 0 }, { name := "cornerV", type := .double, accessFlags := 18, slot := 4, constantValue := 0 }, { name := "uGradientX", type := .double, accessFlags := 18, slot := 5, constantValue := 0 }, { name := "uGradientY", type := .double, accessFlags := 18, slot := 6, constantValue := 0 }, { name := "uGradientZ", type := .double, accessFlags := 18, slot := 7, constantValue := 0 }, { name := "vGradientX", type := .double, accessFlags := 18, slot := 8, constantValue := 0 }, { name := "vGradientY", type := .double, accessFlags := 18, slot := 9, constantValue := 0 }, { name := "vGradientZ", type := .double, accessFlags := 18, slot := 10, constantValue := 0 }]
  methods := #[k3m0, k3m1]
  instanceTypes := #[.double, .double, .double, .double, .double, .double, .double, .double, .double, .double, .double]
  staticTypes := #[]
  resolved := Array.replicate 78 none
  statics := none }

def pool4 : Array CpInfo := pool [(1, u "java/lang/Cloneable"), (0, .class_ 1), (0, u "java/lang/Object"), (0, .class_ 3)] 3

/-- java/lang/Cloneable -/
def k4 : Class := { plain "java/lang/Cloneable" (some 0) with
  accessFlags := 1537
  interfaces := #[]
  cf := some (fileOf pool4 2 #[] #[] 1537 4 #[] #[])
  fields := #[]
  methods := #[]
  instanceTypes := #[]
  staticTypes := #[]
  resolved := Array.replicate 8 none
  statics := none }

def pool5 : Array CpInfo := pool [(1, u "java/io/Serializable"), (0, .class_ 1), (0, u "java/lang/Object"), (0, .class_ 3)] 3

/-- java/io/Serializable -/
def k5 : Class := { plain "java/io/Serializable" (some 0) with
  accessFlags := 1537
  interfaces := #[]
  cf := some (fileOf pool5 2 #[] #[] 1537 4 #[] #[])
  fields := #[]
  methods := #[]
  instanceTypes := #[]
  staticTypes := #[]
  resolved := Array.replicate 8 none
  statics := none }

/-- the primitive byte -/
def k6 : Class := { plain "byte" none with kind := .primitive 'B', accessFlags := 0x411 }
/-- [B -/
def k7 : Class := { plain "[B" (some 0) with kind := .array 6 .byte, interfaces := #[4, 5], accessFlags := 1041 }

/-- the primitive double -/
def k8 : Class := { plain "double" none with kind := .primitive 'D', accessFlags := 0x411 }
/-- [D -/
def k9 : Class := { plain "[D" (some 0) with kind := .array 8 .double, interfaces := #[4, 5], accessFlags := 1041 }

/-- the primitive int -/
def k10 : Class := { plain "int" none with kind := .primitive 'I', accessFlags := 0x411 }
/-- [I -/
def k11 : Class := { plain "[I" (some 0) with kind := .array 10 .int, interfaces := #[4, 5], accessFlags := 1041 }

def heap : Heap := #[]
def classes : Array Class := #[k0, k1, k2, k3, k4, k5, k6, k7, k8, k9, k10, k11]
def interned : List (Array UInt16 × Addr) := []
def slotsUsed : Nat := 0
def theMethod : MethodId := ⟨1, 1⟩
def args0 : Array Value := #[.long 5, .int 5, .long 5, .int 5, .long 5, .int 5]
def aboutOver (below : List Frame) : State where
  vm := { classes := classes, interned := interned.toArray }
  heap := heap
  slotsUsed := slotsUsed
  threads := #[{ frames := .invoking theMethod args0 :: below }]
def below0 : List Frame := [.native { method := ⟨0, 0⟩, args := #[] }]
def about1 : State := aboutOver below0
def p0 : Program := .bare "" "" ""
def e0 : Env := launch0.env 0 0 0
theorem w_frames : about1.frames = Frame.invoking theMethod args0 :: below0 := rfl
set_option maxRecDepth 65536 in
theorem w_args : argsFit about1.vm theMethod args0 = true := by decide +kernel
set_option maxRecDepth 65536 in
theorem w_heap : heapFits about1 = true := by decide +kernel
set_option maxRecDepth 65536 in
theorem w_runnable : about1.curStatus? = some .runnable := by decide +kernel
set_option maxRecDepth 65536 in
theorem w_alone : about1.alone = true := by decide +kernel
set_option maxRecDepth 65536 in
theorem w_named : about1.methodNamed? x = some theMethod := by decide +kernel
set_option maxRecDepth 65536 in
theorem w_hears : about1.hears theMethod below0 = true := by decide +kernel
set_option maxRecDepth 65536 in
theorem w_ripe : about1.ripe theMethod args0 below0 = true := by decide +kernel
theorem w_running : about1.status = .running := rfl
set_option maxRecDepth 65536 in
theorem w_room : about1.hasRoom e0.platform room_1 = true :=
  launch0.hasRoom_least _ room_1 (by decide +kernel) (by decide +kernel) (by decide +kernel) (by decide +kernel) (by decide +kernel) (by decide +kernel)
theorem allAtoms_all (ts : List Jvm.Cond) (a : Array Jvm.Value) (st : Jvm.State) : (allAtoms ts).before a st = ts.all (fun c => c.before a st) := by
  induction ts with
  | nil => rfl
  | cons c t ih =>
    show (Jvm.Cond.and c (allAtoms t)).before a st = _
    rw [Jvm.Cond.before_and, ih, List.all_cons]
def words1 : List Jvm.Cond := Jvm.Cond.code x code maxLocals ret :: tables_1
/-- a 'code' word, met by the world's own term for the bytes: nothing is compared byte by byte -/
theorem code_word {y : MethodName} {bytes : ByteArray} {mx : Nat} {rt : Option FieldType} {a : Array Value} {s : State} {m : MethodId} {meth : Method} {c : Code} (h1 : s.methodNamed? y = some m) (h2 : s.vm.method? m = some meth) (h3 : meth.code = some c) (h4 : c.code = bytes)
    (h5 : (c.maxLocals == mx && c.exceptionTable.isEmpty && decide (c.maxStack ≤ mostOperands) && decide (meth.sig.returnType = rt) && !meth.locks && decide (parseMethodDescriptor y.desc = some meth.sig)) = true) : (Jvm.Cond.code y bytes mx rt).before a s = true := by
  simp only [Bool.and_eq_true, beq_iff_eq, Bool.not_eq_true', decide_eq_true_eq] at h5
  obtain ⟨⟨⟨⟨⟨g1, g2⟩, g3⟩, g4⟩, g5⟩, g6⟩ := h5
  simp [Cond.before, Cond.holds, Cond.value, h1, h2, h3, h4, g1, g2, g3, g4, g5, g6]
def isCode : Jvm.Cond → Bool
  | .code _ _ _ _ => true
  | _ => false
theorem all_split {L : List Jvm.Cond} {P : Jvm.Cond → Bool} (h1 : L.all (fun c => isCode c || P c) = true) (h2 : ∀ c ∈ L.filter isCode, P c = true) : L.all P = true := by
  refine List.all_eq_true.mpr fun c hc => ?_
  have h := List.all_eq_true.mp h1 c hc
  rcases Bool.eq_false_or_eq_true (isCode c) with hi | hi
  · exact h2 c (List.mem_filter.mpr ⟨hc, hi⟩)
  · simpa [hi] using h
set_option maxRecDepth 65536 in
theorem w_c0 : (Jvm.Cond.code x code maxLocals ret).before args0 about1 = true := code_word (m := ⟨1, 1⟩) (meth := k1m1) (c := k1c1) (by decide +kernel) rfl rfl rfl (by decide +kernel)
set_option maxRecDepth 65536 in
theorem w_c1 : (Jvm.Cond.code ({ cls := "com/example/stochastic_ray_tracer/stochasticraytracer/Vec3", name := "<init>", desc := "(DDD)V" } : Jvm.MethodName) prog_72_method_1_code (7 : Nat) (Option.none : Option Jvm.ClassFile.FieldType)).before args0 about1 = true := code_word (m := ⟨2, 0⟩) (meth := k2m0) (c := k2c0) (by decide +kernel) rfl rfl rfl (by decide +kernel)
set_option maxRecDepth 65536 in
theorem w_c2 : (Jvm.Cond.code ({ cls := "java/lang/Object", name := "<init>", desc := "()V" } : Jvm.MethodName) object_method_1_code (1 : Nat) (Option.none : Option Jvm.ClassFile.FieldType)).before args0 about1 = true := code_word (m := ⟨0, 0⟩) (meth := k0m0) (c := k0c0) (by decide +kernel) rfl rfl rfl (by decide +kernel)
set_option maxRecDepth 65536 in
theorem w_c3 : (Jvm.Cond.code ({ cls := "com/example/stochastic_ray_tracer/stochasticraytracer/TextureCoordinatesVPinLaw", name := "vec", desc := "(IJJJ)Lcom/example/stochastic_ray_tracer/stochasticraytracer/Vec3;" } : Jvm.MethodName) method_3_code (7 : Nat) (Option.some (Jvm.ClassFile.FieldType.object "com/example/stochastic_ray_tracer/stochasticraytracer/Vec3"))).before args0 about1 = true := code_word (m := ⟨1, 2⟩) (meth := k1m2) (c := k1c2) (by decide +kernel) rfl rfl rfl (by decide +kernel)
set_option maxRecDepth 65536 in
theorem w_c4 : (Jvm.Cond.code ({ cls := "com/example/stochastic_ray_tracer/stochasticraytracer/TextureCoordinatesVPinLaw", name := "pick", desc := "(IIJJJ)J" } : Jvm.MethodName) method_4_code (9 : Nat) (Option.some Jvm.ClassFile.FieldType.long)).before args0 about1 = true := code_word (m := ⟨1, 3⟩) (meth := k1m3) (c := k1c3) (by decide +kernel) rfl rfl rfl (by decide +kernel)
set_option maxRecDepth 65536 in
theorem w_c5 : (Jvm.Cond.code ({ cls := "com/example/stochastic_ray_tracer/stochasticraytracer/TextureCoordinatesVPinLaw", name := "slot", desc := "(II)I" } : Jvm.MethodName) method_5_code (2 : Nat) (Option.some Jvm.ClassFile.FieldType.int)).before args0 about1 = true := code_word (m := ⟨1, 4⟩) (meth := k1m4) (c := k1c4) (by decide +kernel) rfl rfl rfl (by decide +kernel)
set_option maxRecDepth 65536 in
theorem w_c6 : (Jvm.Cond.code ({ cls := "com/example/stochastic_ray_tracer/stochasticraytracer/TextureCoordinates", name := "<init>", desc := "(Lcom/example/stochastic_ray_tracer/stochasticraytracer/Vec3;Lcom/example/stochastic_ray_tracer/stochasticraytracer/Vec3;Lcom/example/stochastic_ray_tracer/stochasticraytracer/Vec3;[D)V" } : Jvm.MethodName) prog_68_method_1_code (17 : Nat) (Option.none : Option Jvm.ClassFile.FieldType)).before args0 about1 = true := code_word (m := ⟨3, 0⟩) (meth := k3m0) (c := k3c0) (by decide +kernel) rfl rfl rfl (by decide +kernel)
set_option maxRecDepth 65536 in
theorem w_c7 : (Jvm.Cond.code ({ cls := "com/example/stochastic_ray_tracer/stochasticraytracer/Vec3", name := "x", desc := "()D" } : Jvm.MethodName) prog_72_method_2_code (1 : Nat) (Option.some Jvm.ClassFile.FieldType.double)).before args0 about1 = true := code_word (m := ⟨2, 1⟩) (meth := k2m1) (c := k2c1) (by decide +kernel) rfl rfl rfl (by decide +kernel)
set_option maxRecDepth 65536 in
theorem w_c8 : (Jvm.Cond.code ({ cls := "com/example/stochastic_ray_tracer/stochasticraytracer/Vec3", name := "y", desc := "()D" } : Jvm.MethodName) prog_72_method_3_code (1 : Nat) (Option.some Jvm.ClassFile.FieldType.double)).before args0 about1 = true := code_word (m := ⟨2, 2⟩) (meth := k2m2) (c := k2c2) (by decide +kernel) rfl rfl rfl (by decide +kernel)
set_option maxRecDepth 65536 in
theorem w_c9 : (Jvm.Cond.code ({ cls := "com/example/stochastic_ray_tracer/stochasticraytracer/Vec3", name := "z", desc := "()D" } : Jvm.MethodName) prog_72_method_4_code (1 : Nat) (Option.some Jvm.ClassFile.FieldType.double)).before args0 about1 = true := code_word (m := ⟨2, 3⟩) (meth := k2m3) (c := k2c3) (by decide +kernel) rfl rfl rfl (by decide +kernel)
set_option maxRecDepth 65536 in
theorem w_c10 : (Jvm.Cond.code ({ cls := "com/example/stochastic_ray_tracer/stochasticraytracer/Vec3", name := "dot", desc := "(Lcom/example/stochastic_ray_tracer/stochasticraytracer/Vec3;)D" } : Jvm.MethodName) prog_72_method_11_code (2 : Nat) (Option.some Jvm.ClassFile.FieldType.double)).before args0 about1 = true := code_word (m := ⟨2, 7⟩) (meth := k2m7) (c := k2c7) (by decide +kernel) rfl rfl rfl (by decide +kernel)
set_option maxRecDepth 65536 in
theorem w_c11 : (Jvm.Cond.code ({ cls := "com/example/stochastic_ray_tracer/stochasticraytracer/Vec3", name := "times", desc := "(D)Lcom/example/stochastic_ray_tracer/stochasticraytracer/Vec3;" } : Jvm.MethodName) prog_72_method_10_code (3 : Nat) (Option.some (Jvm.ClassFile.FieldType.object "com/example/stochastic_ray_tracer/stochasticraytracer/Vec3"))).before args0 about1 = true := code_word (m := ⟨2, 6⟩) (meth := k2m6) (c := k2c6) (by decide +kernel) rfl rfl rfl (by decide +kernel)
set_option maxRecDepth 65536 in
theorem w_c12 : (Jvm.Cond.code ({ cls := "com/example/stochastic_ray_tracer/stochasticraytracer/Vec3", name := "minus", desc := "(Lcom/example/stochastic_ray_tracer/stochasticraytracer/Vec3;)Lcom/example/stochastic_ray_tracer/stochasticraytracer/Vec3;" } : Jvm.MethodName) prog_72_method_9_code (2 : Nat) (Option.some (Jvm.ClassFile.FieldType.object "com/example/stochastic_ray_tracer/stochasticraytracer/Vec3"))).before args0 about1 = true := code_word (m := ⟨2, 5⟩) (meth := k2m5) (c := k2c5) (by decide +kernel) rfl rfl rfl (by decide +kernel)
set_option maxRecDepth 65536 in
theorem w_c13 : (Jvm.Cond.code ({ cls := "com/example/stochastic_ray_tracer/stochasticraytracer/Vec3", name := "plus", desc := "(Lcom/example/stochastic_ray_tracer/stochasticraytracer/Vec3;)Lcom/example/stochastic_ray_tracer/stochasticraytracer/Vec3;" } : Jvm.MethodName) prog_72_method_8_code (2 : Nat) (Option.some (Jvm.ClassFile.FieldType.object "com/example/stochastic_ray_tracer/stochasticraytracer/Vec3"))).before args0 about1 = true := code_word (m := ⟨2, 4⟩) (meth := k2m4) (c := k2c4) (by decide +kernel) rfl rfl rfl (by decide +kernel)
set_option maxRecDepth 65536 in
theorem w_c14 : (Jvm.Cond.code ({ cls := "com/example/stochastic_ray_tracer/stochasticraytracer/TextureCoordinates", name := "v", desc := "(DDD)D" } : Jvm.MethodName) prog_68_method_3_code (7 : Nat) (Option.some Jvm.ClassFile.FieldType.double)).before args0 about1 = true := code_word (m := ⟨3, 1⟩) (meth := k3m1) (c := k3c1) (by decide +kernel) rfl rfl rfl (by decide +kernel)
def codes1 : List Jvm.Cond := [Jvm.Cond.code x code maxLocals ret, Jvm.Cond.code ({ cls := "com/example/stochastic_ray_tracer/stochasticraytracer/Vec3", name := "<init>", desc := "(DDD)V" } : Jvm.MethodName) prog_72_method_1_code (7 : Nat) (Option.none : Option Jvm.ClassFile.FieldType), Jvm.Cond.code ({ cls := "java/lang/Object", name := "<init>", desc := "()V" } : Jvm.MethodName) object_method_1_code (1 : Nat) (Option.none : Option Jvm.ClassFile.FieldType), Jvm.Cond.code ({ cls := "com/example/stochastic_ray_tracer/stochasticraytracer/TextureCoordinatesVPinLaw", name := "vec", desc := "(IJJJ)Lcom/example/stochastic_ray_tracer/stochasticraytracer/Vec3;" } : Jvm.MethodName) method_3_code (7 : Nat) (Option.some (Jvm.ClassFile.FieldType.object "com/example/stochastic_ray_tracer/stochasticraytracer/Vec3")), Jvm.Cond.code ({ cls := "com/example/stochastic_ray_tracer/stochasticraytracer/TextureCoordinatesVPinLaw", name := "pick", desc := "(IIJJJ)J" } : Jvm.MethodName) method_4_code (9 : Nat) (Option.some Jvm.ClassFile.FieldType.long), Jvm.Cond.code ({ cls := "com/example/stochastic_ray_tracer/stochasticraytracer/TextureCoordinatesVPinLaw", name := "slot", desc := "(II)I" } : Jvm.MethodName) method_5_code (2 : Nat) (Option.some Jvm.ClassFile.FieldType.int), Jvm.Cond.code ({ cls := "com/example/stochastic_ray_tracer/stochasticraytracer/TextureCoordinates", name := "<init>", desc := "(Lcom/example/stochastic_ray_tracer/stochasticraytracer/Vec3;Lcom/example/stochastic_ray_tracer/stochasticraytracer/Vec3;Lcom/example/stochastic_ray_tracer/stochasticraytracer/Vec3;[D)V" } : Jvm.MethodName) prog_68_method_1_code (17 : Nat) (Option.none : Option Jvm.ClassFile.FieldType), Jvm.Cond.code ({ cls := "com/example/stochastic_ray_tracer/stochasticraytracer/Vec3", name := "x", desc := "()D" } : Jvm.MethodName) prog_72_method_2_code (1 : Nat) (Option.some Jvm.ClassFile.FieldType.double), Jvm.Cond.code ({ cls := "com/example/stochastic_ray_tracer/stochasticraytracer/Vec3", name := "y", desc := "()D" } : Jvm.MethodName) prog_72_method_3_code (1 : Nat) (Option.some Jvm.ClassFile.FieldType.double), Jvm.Cond.code ({ cls := "com/example/stochastic_ray_tracer/stochasticraytracer/Vec3", name := "z", desc := "()D" } : Jvm.MethodName) prog_72_method_4_code (1 : Nat) (Option.some Jvm.ClassFile.FieldType.double), Jvm.Cond.code ({ cls := "com/example/stochastic_ray_tracer/stochasticraytracer/Vec3", name := "dot", desc := "(Lcom/example/stochastic_ray_tracer/stochasticraytracer/Vec3;)D" } : Jvm.MethodName) prog_72_method_11_code (2 : Nat) (Option.some Jvm.ClassFile.FieldType.double), Jvm.Cond.code ({ cls := "com/example/stochastic_ray_tracer/stochasticraytracer/Vec3", name := "times", desc := "(D)Lcom/example/stochastic_ray_tracer/stochasticraytracer/Vec3;" } : Jvm.MethodName) prog_72_method_10_code (3 : Nat) (Option.some (Jvm.ClassFile.FieldType.object "com/example/stochastic_ray_tracer/stochasticraytracer/Vec3")), Jvm.Cond.code ({ cls := "com/example/stochastic_ray_tracer/stochasticraytracer/Vec3", name := "minus", desc := "(Lcom/example/stochastic_ray_tracer/stochasticraytracer/Vec3;)Lcom/example/stochastic_ray_tracer/stochasticraytracer/Vec3;" } : Jvm.MethodName) prog_72_method_9_code (2 : Nat) (Option.some (Jvm.ClassFile.FieldType.object "com/example/stochastic_ray_tracer/stochasticraytracer/Vec3")), Jvm.Cond.code ({ cls := "com/example/stochastic_ray_tracer/stochasticraytracer/Vec3", name := "plus", desc := "(Lcom/example/stochastic_ray_tracer/stochasticraytracer/Vec3;)Lcom/example/stochastic_ray_tracer/stochasticraytracer/Vec3;" } : Jvm.MethodName) prog_72_method_8_code (2 : Nat) (Option.some (Jvm.ClassFile.FieldType.object "com/example/stochastic_ray_tracer/stochasticraytracer/Vec3")), Jvm.Cond.code ({ cls := "com/example/stochastic_ray_tracer/stochasticraytracer/TextureCoordinates", name := "v", desc := "(DDD)D" } : Jvm.MethodName) prog_68_method_3_code (7 : Nat) (Option.some Jvm.ClassFile.FieldType.double)]
set_option maxRecDepth 65536 in
theorem codes_eq : words1.filter isCode = codes1 := rfl
theorem w_codes : ∀ c ∈ words1.filter isCode, c.before args0 about1 = true := by
  rw [codes_eq]
  intro c hc
  simp only [codes1, List.mem_cons, List.not_mem_nil, or_false] at hc
  rcases hc with rfl | rfl | rfl | rfl | rfl | rfl | rfl | rfl | rfl | rfl | rfl | rfl | rfl | rfl | rfl
  · exact w_c0
  · exact w_c1
  · exact w_c2
  · exact w_c3
  · exact w_c4
  · exact w_c5
  · exact w_c6
  · exact w_c7
  · exact w_c8
  · exact w_c9
  · exact w_c10
  · exact w_c11
  · exact w_c12
  · exact w_c13
  · exact w_c14
set_option maxRecDepth 65536 in
theorem w_t1 : (words1.take 24).all (fun c => isCode c || c.before args0 about1) = true := by decide +kernel
set_option maxRecDepth 65536 in
theorem w_t2 : ((words1.drop 24).take 24).all (fun c => isCode c || c.before args0 about1) = true := by decide +kernel
set_option maxRecDepth 65536 in
theorem w_t3 : (((words1.drop 24).drop 24).take 24).all (fun c => isCode c || c.before args0 about1) = true := by decide +kernel
set_option maxRecDepth 65536 in
theorem w_t4 : ((((words1.drop 24).drop 24).drop 24).take 24).all (fun c => isCode c || c.before args0 about1) = true := by decide +kernel
set_option maxRecDepth 65536 in
theorem w_t5 : ((((words1.drop 24).drop 24).drop 24).drop 24).all (fun c => isCode c || c.before args0 about1) = true := by decide +kernel
theorem w_tables : (allAtoms (Jvm.Cond.code x code maxLocals ret :: tables_1)).before args0 about1 = true := by
  rw [allAtoms_all]
  show words1.all (fun c => c.before args0 about1) = true
  refine all_split ?_ w_codes
  rw [← List.take_append_drop 24 words1, List.all_append, w_t1, ← List.take_append_drop 24 (words1.drop 24), List.all_append, w_t2, ← List.take_append_drop 24 ((words1.drop 24).drop 24), List.all_append, w_t3, ← List.take_append_drop 24 (((words1.drop 24).drop 24).drop 24), List.all_append, w_t4, w_t5]
  rfl
set_option maxRecDepth 65536 in
theorem w_case : (Jvm.Cond.and given_1 narrow_1).before args0 about1 = true := by decide +kernel
theorem w_applies : (headSpec (Jvm.Cond.code x code maxLocals ret :: tables_1) room_1).applies x e0.platform about1 = true :=
  (Spec.applies_iff w_frames).mpr ⟨w_running, w_runnable, w_alone, w_named, w_hears, w_ripe, w_room, w_tables⟩
theorem atStart : AtStart classFile x code maxLocals ret World_1 tables_1 room_1 Calls_1 rest_1 Pre_1 launch0 p0 e0 about1 theMethod args0 below0 :=
  ⟨lists_1, trivial, launch0.admits_env _ _ _, launch0.least_env, fairChoices_fair.cas, fairChoices_fair.clock, w_frames, w_args, w_heap, w_applies, trivial, trivial, w_case⟩
end start1
theorem witness_1 : WitnessClaimed_1 := ⟨start1.p0, start1.e0, start1.about1, start1.theMethod, start1.args0, start1.below0, start1.atStart⟩
end Jvm.Pilot.@@N@@
