import JvmDerived
import JvmDerived.Pilot.@@N@@Statement
import JvmDerived.Pilot.@@N@@Code
set_option linter.unusedVariables false
set_option linter.unusedSimpArgs false
@@BLOCK:NumsL.lean.txt@@
@@BLOCK:StrKit.lean.txt@@
namespace Jvm.RoadKit
open Sem ClassFile Op Lib Jvm.Stand Jvm.Free Jvm.LawKit
section New
variable {p : Program} {l : Launch} {e : Env} {R : Room} {s : State} {m : MethodId} {args : Array Value} {below : List Frame} {meth : Method} {c : Code} {T : State} {locs : List Loc} {cells slots : Nat}
theorem retI (X : Stand p l e R s m args below meth c T locs cells slots) (hx : p.tables.exec = Jvm.exec) {pc : Nat} {Ls : Array Slot} {z : Int32} {rest : List Value} (hret : meth.sig.returnType = some .int) (hd : decode c.code pc = .ok (.ireturn, 1)) {fs : List Frame}
    (hl : ∀ (f : JFrame) (acts : List Action), f.method = m → f.locked = none → f.entered = [] → (doReturn e (T.setTop f) acts (some (.int z))).1 = T.setFrames fs) : Steps p.tables e below (T.setTop (mkF m pc Ls (.int z :: rest))) (T.setFrames fs) := by
  have hm' : T.vm.method? m = some meth := X.method'
  have hn : narrow .int (.int z) = .int z := rfl
  show Steps p.tables e below (T.setTop { method := m, pc := pc, locals := Ls, stack := _ :: rest, locked := none }) _
  jvm_step X.here [X.here.top, hx, hd, hm', hret, hn]
  first | (intro acts; rw [hl _ acts rfl rfl rfl]) | rw [hl _ _ rfl rfl rfl]
  exact Steps.refl _
end New
end Jvm.RoadKit
namespace Jvm.Pilot.@@N@@
open Jvm Jvm.ClassFile Sem Op Lib Jvm.Free Jvm.Stand Jvm.LawKit Jvm.RoadKit Bundle Jvm.Pilot.@@N@@.Jvm.D
/-! OWN KIT: a run that comes to an end, one law an instruction, arrays as lists (written once, pasted by wip/gen/lawgen.py) -/
section OwnKit
variable {p : Program} {l : Launch} {e : Env} {R : Room} {s : State} {m : MethodId} {args : Array Value} {below : List Frame} {meth : Method} {c : Code} {T T' : State} {locs : List Loc} {cells slots : Nat} {Z : State} {a0 : Array Value} {h h' : Heap}
variable {Q : Outcome → State → Prop} {K : Option Value → Heap → List Loc → Prop} {cc ss : Nat}
variable {pc pc' pc1 pc2 : Nat} {Ls l' : Array Slot} {rest : List Value} {x y : Int32} {u w : Int64}
/-- from T, with g on top, the run comes to an end of which Q holds -/
def own_Go (p : Program) (e : Env) (below : List Frame) (Q : Outcome → State → Prop) (T : State) (g : JFrame) : Prop :=
  ∃ s₂ o, Steps p.tables e below (T.setTop g) s₂ ∧ s₂.status = .running ∧ Ended s₂ below o ∧ Q o s₂
/-- what a body's end says: it returned, K holds of the value, the heap and the old places written -/
def own_Q (s : State) (K : Option Value → Heap → List Loc → Prop) (cc ss : Nat) : Outcome → State → Prop := fun o t => ∃ v L, o = .returned v ∧ K v t.heap L ∧ FrameEnd s o t L cc ss
/-- what stands fast in one body -/
def own_Cx (p : Program) (s : State) (m : MethodId) (meth : Method) (c : Code) (Z : State) (a0 : Array Value) (bytes : ByteArray) (ml : Nat) (own : String) (rt : Option FieldType) (nm : String) : Prop :=
  p.tables.exec = Jvm.exec ∧ Z.Warmed39 s.vm ∧ (∀ d ∈ tables_1, d.before a0 Z = true) ∧ c.code = bytes ∧ c.maxLocals = ml ∧ s.vm.findClass own = some m.cls ∧ meth.sig.returnType = rt ∧ meth.locks = false ∧ meth.name = nm
theorem own_go {g g' : JFrame} (st : ∀ t, Steps p.tables e below (T'.setTop g') t → Steps p.tables e below (T.setTop g) t) (k : own_Go p e below Q T' g') : own_Go p e below Q T g := by
  obtain ⟨s₂, o, h1, h2⟩ := k
  exact ⟨s₂, o, st _ h1, h2⟩
theorem o_iloadN (X : Stand p l e R s m args below meth c T locs cells slots) (hx : p.tables.exec = Jvm.exec) {k : Fin 4} {v : Int32} (hd : decode c.code pc = .ok (.iload_n k, 1)) (hl : Ls[k.val]? = some (.val (.int v))) (hp : pc + 1 = pc') (q : own_Go p e below Q T (mkF m pc' Ls (.int v :: rest))) : own_Go p e below Q T (mkF m pc Ls rest) := by
  subst hp; exact own_go (fun t k' => XS.iloadN X.here hx rfl hd hl k') q
theorem o_iload (X : Stand p l e R s m args below meth c T locs cells slots) (hx : p.tables.exec = Jvm.exec) {k : Nat} {v : Int32} (hd : decode c.code pc = .ok (.iload k, 2)) (hl : Ls[k]? = some (.val (.int v))) (hp : pc + 2 = pc') (q : own_Go p e below Q T (mkF m pc' Ls (.int v :: rest))) : own_Go p e below Q T (mkF m pc Ls rest) := by
  subst hp; exact own_go (fun t k' => XS.iload X.here hx rfl hd hl k') q
theorem o_lloadN (X : Stand p l e R s m args below meth c T locs cells slots) (hx : p.tables.exec = Jvm.exec) {k : Fin 4} {v : Int64} (hd : decode c.code pc = .ok (.lload_n k, 1)) (hl : Ls[k.val]? = some (.val (.long v))) (hp : pc + 1 = pc') (q : own_Go p e below Q T (mkF m pc' Ls (.long v :: rest))) : own_Go p e below Q T (mkF m pc Ls rest) := by
  subst hp; exact own_go (fun t k' => XS.lloadN X.here hx rfl hd hl k') q
theorem o_lload (X : Stand p l e R s m args below meth c T locs cells slots) (hx : p.tables.exec = Jvm.exec) {k : Nat} {v : Int64} (hd : decode c.code pc = .ok (.lload k, 2)) (hl : Ls[k]? = some (.val (.long v))) (hp : pc + 2 = pc') (q : own_Go p e below Q T (mkF m pc' Ls (.long v :: rest))) : own_Go p e below Q T (mkF m pc Ls rest) := by
  subst hp; exact own_go (fun t k' => XS.lload X.here hx rfl hd hl k') q
theorem o_aloadN (X : Stand p l e R s m args below meth c T locs cells slots) (hx : p.tables.exec = Jvm.exec) {k : Fin 4} {v : Value} (hd : decode c.code pc = .ok (.aload_n k, 1)) (hl : Ls[k.val]? = some (.val v)) (hv : v.isRef = true) (hp : pc + 1 = pc') (q : own_Go p e below Q T (mkF m pc' Ls (v :: rest))) : own_Go p e below Q T (mkF m pc Ls rest) := by
  subst hp; exact own_go (fun t k' => XS.aloadN X.here hx rfl hd hl hv k') q
theorem o_aload (X : Stand p l e R s m args below meth c T locs cells slots) (hx : p.tables.exec = Jvm.exec) {k : Nat} {v : Value} (hd : decode c.code pc = .ok (.aload k, 2)) (hl : Ls[k]? = some (.val v)) (hv : v.isRef = true) (hp : pc + 2 = pc') (q : own_Go p e below Q T (mkF m pc' Ls (v :: rest))) : own_Go p e below Q T (mkF m pc Ls rest) := by
  subst hp; exact own_go (fun t k' => XS.aload X.here hx rfl hd hl hv k') q
theorem o_istoreN (X : Stand p l e R s m args below meth c T locs cells slots) (hx : p.tables.exec = Jvm.exec) {k : Fin 4} (hd : decode c.code pc = .ok (.istore_n k, 1)) (hl : storeLocals Ls k.val (.int x) = some l') (hp : pc + 1 = pc') (q : own_Go p e below Q T (mkF m pc' l' rest)) : own_Go p e below Q T (mkF m pc Ls (.int x :: rest)) := by
  subst hp; exact own_go (fun t k' => XS.istoreN X.here hx rfl hd rfl hl k') q
theorem o_istore (X : Stand p l e R s m args below meth c T locs cells slots) (hx : p.tables.exec = Jvm.exec) {k : Nat} (hd : decode c.code pc = .ok (.istore k, 2)) (hl : storeLocals Ls k (.int x) = some l') (hp : pc + 2 = pc') (q : own_Go p e below Q T (mkF m pc' l' rest)) : own_Go p e below Q T (mkF m pc Ls (.int x :: rest)) := by
  subst hp; exact own_go (fun t k' => XS.istore X.here hx rfl hd rfl hl k') q
theorem o_lstoreN (X : Stand p l e R s m args below meth c T locs cells slots) (hx : p.tables.exec = Jvm.exec) {k : Fin 4} (hd : decode c.code pc = .ok (.lstore_n k, 1)) (hl : storeLocals Ls k.val (.long u) = some l') (hp : pc + 1 = pc') (q : own_Go p e below Q T (mkF m pc' l' rest)) : own_Go p e below Q T (mkF m pc Ls (.long u :: rest)) := by
  subst hp; exact own_go (fun t k' => XS.lstoreN X.here hx rfl hd rfl hl k') q
theorem o_lstore (X : Stand p l e R s m args below meth c T locs cells slots) (hx : p.tables.exec = Jvm.exec) {k : Nat} (hd : decode c.code pc = .ok (.lstore k, 2)) (hl : storeLocals Ls k (.long u) = some l') (hp : pc + 2 = pc') (q : own_Go p e below Q T (mkF m pc' l' rest)) : own_Go p e below Q T (mkF m pc Ls (.long u :: rest)) := by
  subst hp; exact own_go (fun t k' => XS.lstore X.here hx rfl hd rfl hl k') q
theorem o_astoreN (X : Stand p l e R s m args below meth c T locs cells slots) (hx : p.tables.exec = Jvm.exec) {k : Fin 4} {v : Value} (hd : decode c.code pc = .ok (.astore_n k, 1)) (hv : v.isRef = true) (hl : storeLocals Ls k.val v = some l') (hp : pc + 1 = pc') (q : own_Go p e below Q T (mkF m pc' l' rest)) : own_Go p e below Q T (mkF m pc Ls (v :: rest)) := by
  subst hp; exact own_go (fun t k' => XS.astoreN X.here hx rfl hd rfl hv hl k') q
theorem o_astore (X : Stand p l e R s m args below meth c T locs cells slots) (hx : p.tables.exec = Jvm.exec) {k : Nat} {v : Value} (hd : decode c.code pc = .ok (.astore k, 2)) (hv : v.isRef = true) (hl : storeLocals Ls k v = some l') (hp : pc + 2 = pc') (q : own_Go p e below Q T (mkF m pc' l' rest)) : own_Go p e below Q T (mkF m pc Ls (v :: rest)) := by
  subst hp; exact own_go (fun t k' => XS.astore X.here hx rfl hd rfl hv hl k') q
theorem o_iconst (X : Stand p l e R s m args below meth c T locs cells slots) (hx : p.tables.exec = Jvm.exec) {i : Int} (hd : decode c.code pc = .ok (.iconst i, 1)) (hv : Int32.ofInt i = x) (hp : pc + 1 = pc') (q : own_Go p e below Q T (mkF m pc' Ls (.int x :: rest))) : own_Go p e below Q T (mkF m pc Ls rest) := by
  subst hp hv; exact own_go (fun t k' => XS.iconst X.here hx rfl hd k') q
theorem o_bipush (X : Stand p l e R s m args below meth c T locs cells slots) (hx : p.tables.exec = Jvm.exec) {i : Int} (hd : decode c.code pc = .ok (.bipush i, 2)) (hv : (Int8.ofInt i).toInt32 = x) (hp : pc + 2 = pc') (q : own_Go p e below Q T (mkF m pc' Ls (.int x :: rest))) : own_Go p e below Q T (mkF m pc Ls rest) := by
  subst hp hv; exact own_go (fun t k' => XS.bipush X.here hx rfl hd k') q
theorem o_sipush (X : Stand p l e R s m args below meth c T locs cells slots) (hx : p.tables.exec = Jvm.exec) {i : Int} (hd : decode c.code pc = .ok (.sipush i, 3)) (hv : (Int16.ofInt i).toInt32 = x) (hp : pc + 3 = pc') (q : own_Go p e below Q T (mkF m pc' Ls (.int x :: rest))) : own_Go p e below Q T (mkF m pc Ls rest) := by
  subst hp hv; exact own_go (fun t k' => XS.sipush X.here hx rfl hd k') q
theorem o_lconst (X : Stand p l e R s m args below meth c T locs cells slots) (hx : p.tables.exec = Jvm.exec) {k : Fin 2} (hd : decode c.code pc = .ok (.lconst k, 1)) (hv : Int64.ofNat k = u) (hp : pc + 1 = pc') (q : own_Go p e below Q T (mkF m pc' Ls (.long u :: rest))) : own_Go p e below Q T (mkF m pc Ls rest) := by
  subst hp hv; exact own_go (fun t k' => XS.lconst X.here hx rfl hd k') q
theorem o_ldcI (X : Stand p l e R s m args below meth c T locs cells slots) (hx : p.tables.exec = Jvm.exec) (hZ : Z.Warmed39 s.vm) {own : String} {index : Nat} (hown : s.vm.findClass own = some m.cls) (w1 : (Cond.constant own index x).before a0 Z = true) (hd : decode c.code pc = .ok (.ldc index, 2)) (hp : pc + 2 = pc') (q : own_Go p e below Q T (mkF m pc' Ls (.int x :: rest))) : own_Go p e below Q T (mkF m pc Ls rest) := by
  subst hp; exact own_go (fun t k' => X.ldcInt hx hown (mvT hZ w1) (g := mkF m pc Ls rest) rfl hd t k') q
theorem o_ldcL (X : Stand p l e R s m args below meth c T locs cells slots) (hx : p.tables.exec = Jvm.exec) (hZ : Z.Warmed39 s.vm) {own : String} {index : Nat} (hown : s.vm.findClass own = some m.cls) (w1 : (Cond.constantLong own index u).before a0 Z = true) (hd : decode c.code pc = .ok (.ldc2_w index, 3)) (hp : pc + 3 = pc') (q : own_Go p e below Q T (mkF m pc' Ls (.long u :: rest))) : own_Go p e below Q T (mkF m pc Ls rest) := by
  subst hp; exact own_go (fun t k' => X.ldc2Long hx hown (mvT hZ w1) (g := mkF m pc Ls rest) rfl hd t k') q
theorem o_iadd (X : Stand p l e R s m args below meth c T locs cells slots) (hx : p.tables.exec = Jvm.exec) (hd : decode c.code pc = .ok (.iadd, 1)) (hp : pc + 1 = pc') {z : Int32} (hz : x + y = z) (q : own_Go p e below Q T (mkF m pc' Ls (.int z :: rest))) : own_Go p e below Q T (mkF m pc Ls (.int y :: .int x :: rest)) := by
  subst hp hz; exact own_go (fun t k' => XS.iadd X.here hx rfl hd rfl k') q
theorem o_isub (X : Stand p l e R s m args below meth c T locs cells slots) (hx : p.tables.exec = Jvm.exec) (hd : decode c.code pc = .ok (.isub, 1)) (hp : pc + 1 = pc') {z : Int32} (hz : x - y = z) (q : own_Go p e below Q T (mkF m pc' Ls (.int z :: rest))) : own_Go p e below Q T (mkF m pc Ls (.int y :: .int x :: rest)) := by
  subst hp hz; exact own_go (fun t k' => XS.isub X.here hx rfl hd rfl k') q
theorem o_imul (X : Stand p l e R s m args below meth c T locs cells slots) (hx : p.tables.exec = Jvm.exec) (hd : decode c.code pc = .ok (.imul, 1)) (hp : pc + 1 = pc') {z : Int32} (hz : x * y = z) (q : own_Go p e below Q T (mkF m pc' Ls (.int z :: rest))) : own_Go p e below Q T (mkF m pc Ls (.int y :: .int x :: rest)) := by
  subst hp hz; exact own_go (fun t k' => XS.imul X.here hx rfl hd rfl k') q
theorem o_iand (X : Stand p l e R s m args below meth c T locs cells slots) (hx : p.tables.exec = Jvm.exec) (hd : decode c.code pc = .ok (.iand, 1)) (hp : pc + 1 = pc') {z : Int32} (hz : x &&& y = z) (q : own_Go p e below Q T (mkF m pc' Ls (.int z :: rest))) : own_Go p e below Q T (mkF m pc Ls (.int y :: .int x :: rest)) := by
  subst hp hz; exact own_go (fun t k' => XS.iand X.here hx rfl hd rfl k') q
theorem o_ior (X : Stand p l e R s m args below meth c T locs cells slots) (hx : p.tables.exec = Jvm.exec) (hd : decode c.code pc = .ok (.ior, 1)) (hp : pc + 1 = pc') {z : Int32} (hz : x ||| y = z) (q : own_Go p e below Q T (mkF m pc' Ls (.int z :: rest))) : own_Go p e below Q T (mkF m pc Ls (.int y :: .int x :: rest)) := by
  subst hp hz; exact own_go (fun t k' => XS.ior X.here hx rfl hd rfl k') q
theorem o_ixor (X : Stand p l e R s m args below meth c T locs cells slots) (hx : p.tables.exec = Jvm.exec) (hd : decode c.code pc = .ok (.ixor, 1)) (hp : pc + 1 = pc') {z : Int32} (hz : x ^^^ y = z) (q : own_Go p e below Q T (mkF m pc' Ls (.int z :: rest))) : own_Go p e below Q T (mkF m pc Ls (.int y :: .int x :: rest)) := by
  subst hp hz; exact own_go (fun t k' => XS.ixor X.here hx rfl hd rfl k') q
/-- Java's shifts, remainders: under names of our own -/
def own_shl (x y : Int32) : Int32 := x <<< (y &&& 31)
def own_shr (x y : Int32) : Int32 := x >>> (y &&& 31)
def own_ushr (x y : Int32) : Int32 := (x.toUInt32 >>> (y &&& 31).toUInt32).toInt32
def own_rem (x y : Int32) : Int32 := x - (x / y) * y
def own_lshl (u : Int64) (y : Int32) : Int64 := u <<< (y &&& 0x3f).toInt64
def own_lushr (u : Int64) (y : Int32) : Int64 := (u.toUInt64 >>> (y &&& 0x3f).toInt64.toUInt64).toInt64
def own_lrem (u w : Int64) : Int64 := u - (u / w) * w
theorem o_ishl (X : Stand p l e R s m args below meth c T locs cells slots) (hx : p.tables.exec = Jvm.exec) (hd : decode c.code pc = .ok (.ishl, 1)) (hp : pc + 1 = pc') {z : Int32} (hz : own_shl x y = z) (q : own_Go p e below Q T (mkF m pc' Ls (.int z :: rest))) : own_Go p e below Q T (mkF m pc Ls (.int y :: .int x :: rest)) := by
  subst hp hz; exact own_go (fun t k' => XS.ishl X.here hx rfl hd rfl k') q
theorem o_ishr (X : Stand p l e R s m args below meth c T locs cells slots) (hx : p.tables.exec = Jvm.exec) (hd : decode c.code pc = .ok (.ishr, 1)) (hp : pc + 1 = pc') {z : Int32} (hz : own_shr x y = z) (q : own_Go p e below Q T (mkF m pc' Ls (.int z :: rest))) : own_Go p e below Q T (mkF m pc Ls (.int y :: .int x :: rest)) := by
  subst hp hz; exact own_go (fun t k' => XS.ishr X.here hx rfl hd rfl k') q
theorem o_iushr (X : Stand p l e R s m args below meth c T locs cells slots) (hx : p.tables.exec = Jvm.exec) (hd : decode c.code pc = .ok (.iushr, 1)) (hp : pc + 1 = pc') {z : Int32} (hz : own_ushr x y = z) (q : own_Go p e below Q T (mkF m pc' Ls (.int z :: rest))) : own_Go p e below Q T (mkF m pc Ls (.int y :: .int x :: rest)) := by
  subst hp hz; exact own_go (fun t k' => XS.iushr X.here hx rfl hd rfl k') q
theorem o_irem (X : Stand p l e R s m args below meth c T locs cells slots) (hx : p.tables.exec = Jvm.exec) (hd : decode c.code pc = .ok (.irem, 1)) (hp : pc + 1 = pc') (hy : y ≠ 0) {z : Int32} (hz : own_rem x y = z) (q : own_Go p e below Q T (mkF m pc' Ls (.int z :: rest))) : own_Go p e below Q T (mkF m pc Ls (.int y :: .int x :: rest)) := by
  subst hp hz; exact own_go (fun t k' => XS.irem X.here hx rfl hd rfl hy k') q
theorem o_idiv (X : Stand p l e R s m args below meth c T locs cells slots) (hx : p.tables.exec = Jvm.exec) (hd : decode c.code pc = .ok (.idiv, 1)) (hp : pc + 1 = pc') (hy : y ≠ 0) {z : Int32} (hz : x / y = z) (q : own_Go p e below Q T (mkF m pc' Ls (.int z :: rest))) : own_Go p e below Q T (mkF m pc Ls (.int y :: .int x :: rest)) := by
  subst hp hz; exact own_go (fun t k' => XS.idiv X.here hx rfl hd rfl hy k') q
theorem o_ineg (X : Stand p l e R s m args below meth c T locs cells slots) (hx : p.tables.exec = Jvm.exec) (hd : decode c.code pc = .ok (.ineg, 1)) (hp : pc + 1 = pc') {z : Int32} (hz : -x = z) (q : own_Go p e below Q T (mkF m pc' Ls (.int z :: rest))) : own_Go p e below Q T (mkF m pc Ls (.int x :: rest)) := by
  subst hp hz; exact own_go (fun t k' => XS.ineg X.here hx rfl hd rfl k') q
theorem o_ladd (X : Stand p l e R s m args below meth c T locs cells slots) (hx : p.tables.exec = Jvm.exec) (hd : decode c.code pc = .ok (.ladd, 1)) (hp : pc + 1 = pc') {z : Int64} (hz : u + w = z) (q : own_Go p e below Q T (mkF m pc' Ls (.long z :: rest))) : own_Go p e below Q T (mkF m pc Ls (.long w :: .long u :: rest)) := by
  subst hp hz; exact own_go (fun t k' => XS.ladd X.here hx rfl hd rfl k') q
theorem o_lsub (X : Stand p l e R s m args below meth c T locs cells slots) (hx : p.tables.exec = Jvm.exec) (hd : decode c.code pc = .ok (.lsub, 1)) (hp : pc + 1 = pc') {z : Int64} (hz : u - w = z) (q : own_Go p e below Q T (mkF m pc' Ls (.long z :: rest))) : own_Go p e below Q T (mkF m pc Ls (.long w :: .long u :: rest)) := by
  subst hp hz; exact own_go (fun t k' => XS.lsub X.here hx rfl hd rfl k') q
theorem o_lmul (X : Stand p l e R s m args below meth c T locs cells slots) (hx : p.tables.exec = Jvm.exec) (hd : decode c.code pc = .ok (.lmul, 1)) (hp : pc + 1 = pc') {z : Int64} (hz : u * w = z) (q : own_Go p e below Q T (mkF m pc' Ls (.long z :: rest))) : own_Go p e below Q T (mkF m pc Ls (.long w :: .long u :: rest)) := by
  subst hp hz; exact own_go (fun t k' => XS.lmul X.here hx rfl hd rfl k') q
theorem o_land (X : Stand p l e R s m args below meth c T locs cells slots) (hx : p.tables.exec = Jvm.exec) (hd : decode c.code pc = .ok (.land, 1)) (hp : pc + 1 = pc') {z : Int64} (hz : u &&& w = z) (q : own_Go p e below Q T (mkF m pc' Ls (.long z :: rest))) : own_Go p e below Q T (mkF m pc Ls (.long w :: .long u :: rest)) := by
  subst hp hz; exact own_go (fun t k' => XS.land X.here hx rfl hd rfl k') q
theorem o_lor (X : Stand p l e R s m args below meth c T locs cells slots) (hx : p.tables.exec = Jvm.exec) (hd : decode c.code pc = .ok (.lor, 1)) (hp : pc + 1 = pc') {z : Int64} (hz : u ||| w = z) (q : own_Go p e below Q T (mkF m pc' Ls (.long z :: rest))) : own_Go p e below Q T (mkF m pc Ls (.long w :: .long u :: rest)) := by
  subst hp hz; exact own_go (fun t k' => XS.lor X.here hx rfl hd rfl k') q
theorem o_lxor (X : Stand p l e R s m args below meth c T locs cells slots) (hx : p.tables.exec = Jvm.exec) (hd : decode c.code pc = .ok (.lxor, 1)) (hp : pc + 1 = pc') {z : Int64} (hz : u ^^^ w = z) (q : own_Go p e below Q T (mkF m pc' Ls (.long z :: rest))) : own_Go p e below Q T (mkF m pc Ls (.long w :: .long u :: rest)) := by
  subst hp hz; exact own_go (fun t k' => XS.lxor X.here hx rfl hd rfl k') q
theorem o_lshl (X : Stand p l e R s m args below meth c T locs cells slots) (hx : p.tables.exec = Jvm.exec) (hd : decode c.code pc = .ok (.lshl, 1)) (hp : pc + 1 = pc') {z : Int64} (hz : own_lshl u y = z) (q : own_Go p e below Q T (mkF m pc' Ls (.long z :: rest))) : own_Go p e below Q T (mkF m pc Ls (.int y :: .long u :: rest)) := by
  subst hp hz; exact own_go (fun t k' => XS.lshl X.here hx rfl hd rfl k') q
theorem o_lushr (X : Stand p l e R s m args below meth c T locs cells slots) (hx : p.tables.exec = Jvm.exec) (hd : decode c.code pc = .ok (.lushr, 1)) (hp : pc + 1 = pc') {z : Int64} (hz : own_lushr u y = z) (q : own_Go p e below Q T (mkF m pc' Ls (.long z :: rest))) : own_Go p e below Q T (mkF m pc Ls (.int y :: .long u :: rest)) := by
  subst hp hz; exact own_go (fun t k' => XS.lushr X.here hx rfl hd rfl k') q
theorem o_ldiv (X : Stand p l e R s m args below meth c T locs cells slots) (hx : p.tables.exec = Jvm.exec) (hd : decode c.code pc = .ok (.ldiv, 1)) (hp : pc + 1 = pc') (hy : w ≠ 0) {z : Int64} (hz : u / w = z) (q : own_Go p e below Q T (mkF m pc' Ls (.long z :: rest))) : own_Go p e below Q T (mkF m pc Ls (.long w :: .long u :: rest)) := by
  subst hp hz; exact own_go (fun t k' => XS.ldiv X.here hx rfl hd rfl hy k') q
theorem o_lrem (X : Stand p l e R s m args below meth c T locs cells slots) (hx : p.tables.exec = Jvm.exec) (hd : decode c.code pc = .ok (.lrem, 1)) (hp : pc + 1 = pc') (hy : w ≠ 0) {z : Int64} (hz : own_lrem u w = z) (q : own_Go p e below Q T (mkF m pc' Ls (.long z :: rest))) : own_Go p e below Q T (mkF m pc Ls (.long w :: .long u :: rest)) := by
  subst hp hz; exact own_go (fun t k' => XS.lrem X.here hx rfl hd rfl hy k') q
theorem o_i2l (X : Stand p l e R s m args below meth c T locs cells slots) (hx : p.tables.exec = Jvm.exec) (hd : decode c.code pc = .ok (.i2l, 1)) (hp : pc + 1 = pc') {z : Int64} (hz : x.toInt64 = z) (q : own_Go p e below Q T (mkF m pc' Ls (.long z :: rest))) : own_Go p e below Q T (mkF m pc Ls (.int x :: rest)) := by
  subst hp hz; exact own_go (fun t k' => XS.i2l X.here hx rfl hd rfl k') q
theorem o_l2i (X : Stand p l e R s m args below meth c T locs cells slots) (hx : p.tables.exec = Jvm.exec) (hd : decode c.code pc = .ok (.l2i, 1)) (hp : pc + 1 = pc') {z : Int32} (hz : u.toInt32 = z) (q : own_Go p e below Q T (mkF m pc' Ls (.int z :: rest))) : own_Go p e below Q T (mkF m pc Ls (.long u :: rest)) := by
  subst hp hz; exact own_go (fun t k' => XS.l2i X.here hx rfl hd rfl k') q
def own_i2b (x : Int32) : Int32 := x.toInt8.toInt32
def own_i2c (x : Int32) : Int32 := x.toUInt32.toUInt16.toUInt32.toInt32
theorem o_i2b (X : Stand p l e R s m args below meth c T locs cells slots) (hx : p.tables.exec = Jvm.exec) (hd : decode c.code pc = .ok (.i2b, 1)) (hp : pc + 1 = pc') {z : Int32} (hz : own_i2b x = z) (q : own_Go p e below Q T (mkF m pc' Ls (.int z :: rest))) : own_Go p e below Q T (mkF m pc Ls (.int x :: rest)) := by
  subst hp hz; exact own_go (fun t k' => XS.i2b X.here hx rfl hd rfl k') q
theorem o_i2c (X : Stand p l e R s m args below meth c T locs cells slots) (hx : p.tables.exec = Jvm.exec) (hd : decode c.code pc = .ok (.i2c, 1)) (hp : pc + 1 = pc') {z : Int32} (hz : own_i2c x = z) (q : own_Go p e below Q T (mkF m pc' Ls (.int z :: rest))) : own_Go p e below Q T (mkF m pc Ls (.int x :: rest)) := by
  subst hp hz; exact own_go (fun t k' => XS.i2c X.here hx rfl hd rfl k') q
theorem o_iinc (X : Stand p l e R s m args below meth c T locs cells slots) (hx : p.tables.exec = Jvm.exec) {k : Nat} {i : Int} (hd : decode c.code pc = .ok (.iinc k i, 3)) (hl : Ls[k]? = some (.val (.int x))) (hz : x + Int32.ofInt i = y) (hl' : storeLocals Ls k (.int y) = some l') (hp : pc + 3 = pc') (q : own_Go p e below Q T (mkF m pc' l' rest)) : own_Go p e below Q T (mkF m pc Ls rest) := by
  subst hp hz; exact own_go (fun t k' => XS.iinc X.here hx rfl hd hl hl' k') q
theorem o_dup (X : Stand p l e R s m args below meth c T locs cells slots) (hx : p.tables.exec = Jvm.exec) {v : Value} (hd : decode c.code pc = .ok (.dup, 1)) (hv : v.category = 1) (hp : pc + 1 = pc') (q : own_Go p e below Q T (mkF m pc' Ls (v :: v :: rest))) : own_Go p e below Q T (mkF m pc Ls (v :: rest)) := by
  subst hp; exact own_go (fun t k' => XS.dup X.here hx rfl hd rfl hv k') q
theorem o_pop (X : Stand p l e R s m args below meth c T locs cells slots) (hx : p.tables.exec = Jvm.exec) {v : Value} (hd : decode c.code pc = .ok (.pop, 1)) (hv : v.category = 1) (hp : pc + 1 = pc') (q : own_Go p e below Q T (mkF m pc' Ls rest)) : own_Go p e below Q T (mkF m pc Ls (v :: rest)) := by
  subst hp; exact own_go (fun t k' => XS.pop X.here hx rfl hd rfl hv k') q
theorem o_goto (X : Stand p l e R s m args below meth c T locs cells slots) (hx : p.tables.exec = Jvm.exec) {o : Int} (hd : decode c.code pc = .ok (.goto o, 3)) (ho : 0 ≤ (pc : Int) + o) (hp : ((pc : Int) + o).toNat = pc') (q : own_Go p e below Q T (mkF m pc' Ls rest)) : own_Go p e below Q T (mkF m pc Ls rest) :=
  own_go (fun t k' => XS.goto X.here hx rfl rfl hd ho hp k') q
theorem o_ifP (X : Stand p l e R s m args below meth c T locs cells slots) (hx : p.tables.exec = Jvm.exec) {cd : ClassFile.Cond} {o : Int} {P : Prop} [Decidable P] (hP : P → ifCond.holds cd x = true) (hN : ¬ P → ifCond.holds cd x = false) (hd : decode c.code pc = .ok (.ifCond cd o, 3)) (ho : 0 ≤ (pc : Int) + o) (hp : ((pc : Int) + o).toNat = pc1) (hp2 : pc + 3 = pc2)
    (kt : P → own_Go p e below Q T (mkF m pc1 Ls rest)) (kf : ¬ P → own_Go p e below Q T (mkF m pc2 Ls rest)) : own_Go p e below Q T (mkF m pc Ls (.int x :: rest)) := by
  subst hp2
  by_cases q : P
  · exact own_go (fun t k' => XS.ifYes X.here hx rfl rfl hd rfl (hP q) ho hp k') (kt q)
  · exact own_go (fun t k' => XS.ifNo X.here hx rfl hd rfl (hN q) k') (kf q)
theorem o_ifN (X : Stand p l e R s m args below meth c T locs cells slots) (hx : p.tables.exec = Jvm.exec) {cd : ClassFile.Cond} {o : Int} {P : Prop} [Decidable P] (hP : P → ifCond.holds cd x = false) (hN : ¬ P → ifCond.holds cd x = true) (hd : decode c.code pc = .ok (.ifCond cd o, 3)) (ho : 0 ≤ (pc : Int) + o) (hp : ((pc : Int) + o).toNat = pc1) (hp2 : pc + 3 = pc2)
    (kt : ¬ P → own_Go p e below Q T (mkF m pc1 Ls rest)) (kf : P → own_Go p e below Q T (mkF m pc2 Ls rest)) : own_Go p e below Q T (mkF m pc Ls (.int x :: rest)) := by
  subst hp2
  by_cases q : P
  · exact own_go (fun t k' => XS.ifNo X.here hx rfl hd rfl (hP q) k') (kf q)
  · exact own_go (fun t k' => XS.ifYes X.here hx rfl rfl hd rfl (hN q) ho hp k') (kt q)
theorem o_icP (X : Stand p l e R s m args below meth c T locs cells slots) (hx : p.tables.exec = Jvm.exec) {cd : ClassFile.Cond} {o : Int} {P : Prop} [Decidable P] (hP : P → if_icmp.holds cd x y = true) (hN : ¬ P → if_icmp.holds cd x y = false) (hd : decode c.code pc = .ok (.if_icmp cd o, 3)) (ho : 0 ≤ (pc : Int) + o) (hp : ((pc : Int) + o).toNat = pc1) (hp2 : pc + 3 = pc2)
    (kt : P → own_Go p e below Q T (mkF m pc1 Ls rest)) (kf : ¬ P → own_Go p e below Q T (mkF m pc2 Ls rest)) : own_Go p e below Q T (mkF m pc Ls (.int y :: .int x :: rest)) := by
  subst hp2
  by_cases q : P
  · exact own_go (fun t k' => XS.icmpYes X.here hx rfl rfl hd rfl (hP q) ho hp k') (kt q)
  · exact own_go (fun t k' => XS.icmpNo X.here hx rfl hd rfl (hN q) k') (kf q)
theorem o_icN (X : Stand p l e R s m args below meth c T locs cells slots) (hx : p.tables.exec = Jvm.exec) {cd : ClassFile.Cond} {o : Int} {P : Prop} [Decidable P] (hP : P → if_icmp.holds cd x y = false) (hN : ¬ P → if_icmp.holds cd x y = true) (hd : decode c.code pc = .ok (.if_icmp cd o, 3)) (ho : 0 ≤ (pc : Int) + o) (hp : ((pc : Int) + o).toNat = pc1) (hp2 : pc + 3 = pc2)
    (kt : ¬ P → own_Go p e below Q T (mkF m pc1 Ls rest)) (kf : P → own_Go p e below Q T (mkF m pc2 Ls rest)) : own_Go p e below Q T (mkF m pc Ls (.int y :: .int x :: rest)) := by
  subst hp2
  by_cases q : P
  · exact own_go (fun t k' => XS.icmpNo X.here hx rfl hd rfl (hP q) k') (kf q)
  · exact own_go (fun t k' => XS.icmpYes X.here hx rfl rfl hd rfl (hN q) ho hp k') (kt q)
/-- a branch that goes one way for sure -/
theorem o_ifY (X : Stand p l e R s m args below meth c T locs cells slots) (hx : p.tables.exec = Jvm.exec) {cd : ClassFile.Cond} {o : Int} (hc : ifCond.holds cd x = true) (hd : decode c.code pc = .ok (.ifCond cd o, 3)) (ho : 0 ≤ (pc : Int) + o) (hp : ((pc : Int) + o).toNat = pc') (q : own_Go p e below Q T (mkF m pc' Ls rest)) : own_Go p e below Q T (mkF m pc Ls (.int x :: rest)) :=
  own_go (fun t k' => XS.ifYes X.here hx rfl rfl hd rfl hc ho hp k') q
theorem o_ifX (X : Stand p l e R s m args below meth c T locs cells slots) (hx : p.tables.exec = Jvm.exec) {cd : ClassFile.Cond} {o : Int} (hc : ifCond.holds cd x = false) (hd : decode c.code pc = .ok (.ifCond cd o, 3)) (hp : pc + 3 = pc') (q : own_Go p e below Q T (mkF m pc' Ls rest)) : own_Go p e below Q T (mkF m pc Ls (.int x :: rest)) := by
  subst hp; exact own_go (fun t k' => XS.ifNo X.here hx rfl hd rfl hc k') q
theorem o_icY (X : Stand p l e R s m args below meth c T locs cells slots) (hx : p.tables.exec = Jvm.exec) {cd : ClassFile.Cond} {o : Int} (hc : if_icmp.holds cd x y = true) (hd : decode c.code pc = .ok (.if_icmp cd o, 3)) (ho : 0 ≤ (pc : Int) + o) (hp : ((pc : Int) + o).toNat = pc') (q : own_Go p e below Q T (mkF m pc' Ls rest)) : own_Go p e below Q T (mkF m pc Ls (.int y :: .int x :: rest)) :=
  own_go (fun t k' => XS.icmpYes X.here hx rfl rfl hd rfl hc ho hp k') q
theorem o_icX (X : Stand p l e R s m args below meth c T locs cells slots) (hx : p.tables.exec = Jvm.exec) {cd : ClassFile.Cond} {o : Int} (hc : if_icmp.holds cd x y = false) (hd : decode c.code pc = .ok (.if_icmp cd o, 3)) (hp : pc + 3 = pc') (q : own_Go p e below Q T (mkF m pc' Ls rest)) : own_Go p e below Q T (mkF m pc Ls (.int y :: .int x :: rest)) := by
  subst hp; exact own_go (fun t k' => XS.icmpNo X.here hx rfl hd rfl hc k') q
theorem o_lcmp (X : Stand p l e R s m args below meth c T locs cells slots) (hx : p.tables.exec = Jvm.exec) (hd : decode c.code pc = .ok (.lcmp, 1)) (hp : pc + 1 = pc') (q : own_Go p e below Q T (mkF m pc' Ls (.int (XT.cmpL u w) :: rest))) : own_Go p e below Q T (mkF m pc Ls (.long w :: .long u :: rest)) := by
  subst hp; exact own_go (fun t k' => XS.lcmp X.here hx rfl hd rfl k') q
theorem o_ifnullX (X : Stand p l e R s m args below meth c T locs cells slots) (hx : p.tables.exec = Jvm.exec) {o : Int} {a : Addr} (hd : decode c.code pc = .ok (.ifnull o, 3)) (hp : pc + 3 = pc') (q : own_Go p e below Q T (mkF m pc' Ls rest)) : own_Go p e below Q T (mkF m pc Ls (.ref a :: rest)) := by
  subst hp; exact own_go (fun t k' => XS.ifnullNo X.here hx rfl hd rfl k') q
/-- the ends -/
theorem o_ret (X : Stand p l e R s m args below meth c T locs cells slots) {v : Option Value} {g : JFrame} (hv : meth.sig.returnType = none → v = none) (hlk : meth.locks = false) (hc : cells ≤ cc) (hs : slots ≤ ss) (eT : T.heap = h) (hK : K v h locs)
    (st : ∀ fs : List Frame, (∀ (f : JFrame) (acts : List Action), f.method = m → f.locked = none → f.entered = [] → (doReturn e (T.setTop f) acts v).1 = T.setFrames fs) → Steps p.tables e below (T.setTop g) (T.setFrames fs)) : own_Go p e below (own_Q s K cc ss) T g := by
  subst eT
  obtain ⟨fs, hr, hrun, hended, hW, hsame⟩ := X.leave (v := v) hv hlk
  exact ⟨_, _, st fs hr, hrun, hended, _, _, rfl, hK, ⟨_, rfl⟩, hW, hsame.mono hc hs⟩
theorem o_retV (X : Stand p l e R s m args below meth c T locs cells slots) (hx : p.tables.exec = Jvm.exec) (hret : meth.sig.returnType = none) (hlk : meth.locks = false) (hd : decode c.code pc = .ok (.return_, 1)) (hc : cells ≤ cc) (hs : slots ≤ ss) (eT : T.heap = h) (hK : K none h locs) : own_Go p e below (own_Q s K cc ss) T (mkF m pc Ls []) :=
  o_ret X (fun _ => rfl) hlk hc hs eT hK fun fs hr => X.returnOut hx hret hd hr
theorem o_retI (X : Stand p l e R s m args below meth c T locs cells slots) (hx : p.tables.exec = Jvm.exec) (hret : meth.sig.returnType = some .int) (hlk : meth.locks = false) (hd : decode c.code pc = .ok (.ireturn, 1)) (hc : cells ≤ cc) (hs : slots ≤ ss) (eT : T.heap = h) (hK : K (some (.int x)) h locs) : own_Go p e below (own_Q s K cc ss) T (mkF m pc Ls (.int x :: rest)) :=
  o_ret X (fun h => by rw [hret] at h; cases h) hlk hc hs eT hK fun fs hr => retI X hx hret hd hr
theorem o_retN (X : Stand p l e R s m args below meth c T locs cells slots) (hx : p.tables.exec = Jvm.exec) {t : FieldType} (hret : meth.sig.returnType = some t) (ht : t = .boolean ∨ t = .byte ∨ t = .char ∨ t = .short) (hlk : meth.locks = false) (hd : decode c.code pc = .ok (.ireturn, 1)) (hc : cells ≤ cc) (hs : slots ≤ ss) (eT : T.heap = h) (hK : K (some (.int (nar t x))) h locs) : own_Go p e below (own_Q s K cc ss) T (mkF m pc Ls (.int x :: rest)) :=
  o_ret X (fun h => by rw [hret] at h; cases h) hlk hc hs eT hK fun fs hr => retN X hx hret ht hd hr
theorem o_retL (X : Stand p l e R s m args below meth c T locs cells slots) (hx : p.tables.exec = Jvm.exec) (hret : meth.sig.returnType = some .long) (hlk : meth.locks = false) (hd : decode c.code pc = .ok (.lreturn, 1)) (hc : cells ≤ cc) (hs : slots ≤ ss) (eT : T.heap = h) (hK : K (some (.long u)) h locs) : own_Go p e below (own_Q s K cc ss) T (mkF m pc Ls (.long u :: rest)) :=
  o_ret X (fun h => by rw [hret] at h; cases h) hlk hc hs eT hK fun fs hr => by
    jvm_step X.here [X.here.top, hx, hd, X.method', hret, narrow]
    first | (intro acts; rw [hr _ acts rfl rfl rfl]) | rw [hr _ _ rfl rfl rfl]
    exact Steps.refl _
theorem o_retA (X : Stand p l e R s m args below meth c T locs cells slots) (hx : p.tables.exec = Jvm.exec) {t : FieldType} (hret : meth.sig.returnType = some (.array t)) (hlk : meth.locks = false) {a : Addr} (hd : decode c.code pc = .ok (.areturn, 1)) (hc : cells ≤ cc) (hs : slots ≤ ss) (eT : T.heap = h) (hK : K (some (.ref a)) h locs) : own_Go p e below (own_Q s K cc ss) T (mkF m pc Ls (.ref a :: rest)) :=
  o_ret X (fun h => by rw [hret] at h; cases h) hlk hc hs eT hK fun fs hr => by
    jvm_step X.here [X.here.top, hx, hd, X.method', hret, Value.isRef, FieldType.isReference]
    first | (intro acts; rw [hr _ acts rfl rfl rfl]) | rw [hr _ _ rfl rfl rfl]
    exact Steps.refl _
/-- arrays as lists -/
def own_AI (Z : State) (h : Heap) (a : Addr) (ty : FieldType) (vs : List Int32) : Prop := ∃ cl : Cell, Arr Z h a cl ty ∧ cl.slots = (vs.map Value.int).toArray
def own_AJ (Z : State) (h : Heap) (a : Addr) (vs : List Int64) : Prop := ∃ cl : Cell, Arr Z h a cl .long ∧ cl.slots = (vs.map Value.long).toArray
def own_in (n : Nat) (j : Int32) : Prop := ¬ j < 0 ∧ j.toNatClampNeg < n
def own_get (vs : List Int32) (j : Int32) : Int32 := vs.getD j.toNatClampNeg 0
def own_getL (vs : List Int64) (j : Int32) : Int64 := vs.getD j.toNatClampNeg 0
def own_set (vs : List Int32) (j x : Int32) : List Int32 := vs.set j.toNatClampNeg x
def own_setL (vs : List Int64) (j : Int32) (u : Int64) : List Int64 := vs.set j.toNatClampNeg u
theorem own_AI.lt {a : Addr} {ty : FieldType} {vs : List Int32} (A : own_AI Z h a ty vs) : a < h.size := by obtain ⟨cl, A, -⟩ := A; exact A.lt
theorem own_AI.ext {a : Addr} {ty : FieldType} {vs : List Int32} (A : own_AI Z h a ty vs) (E : Ext h h') : own_AI Z h' a ty vs := by obtain ⟨cl, A, q⟩ := A; exact ⟨cl, A.ext E, q⟩
theorem own_AI.other {a b : Addr} {ty : FieldType} {vs : List Int32} {sl : Nat} {v : Value} (A : own_AI Z h a ty vs) (W : Wr h h' b sl v) (ne : a ≠ b) : own_AI Z h' a ty vs := by obtain ⟨cl, A, q⟩ := A; exact ⟨cl, A.other W ne, q⟩
theorem own_AI.keep {a : Addr} {ty : FieldType} {vs : List Int32} {ws : List Addr} (A : own_AI Z h a ty vs) (K : Keep h h' ws) (ne : a ∉ ws) : own_AI Z h' a ty vs := by obtain ⟨cl, A, q⟩ := A; exact ⟨cl, ⟨K.2.1 a cl A.1 ne, A.2⟩, q⟩
theorem own_AI.put {a : Addr} {ty : FieldType} {vs : List Int32} {j : Int32} (A : own_AI Z h a ty vs) (W : Wr h h' a j.toNatClampNeg (.int x)) : own_AI Z h' a ty (own_set vs j x) := by
  obtain ⟨cl, A, q⟩ := A
  refine ⟨_, A.same W, ?_⟩
  show cl.slots.setIfInBounds _ _ = _
  rw [q, own_set, List.map_set, List.setIfInBounds_toArray]
theorem own_AJ.lt {a : Addr} {vs : List Int64} (A : own_AJ Z h a vs) : a < h.size := by obtain ⟨cl, A, -⟩ := A; exact A.lt
theorem own_AJ.ext {a : Addr} {vs : List Int64} (A : own_AJ Z h a vs) (E : Ext h h') : own_AJ Z h' a vs := by obtain ⟨cl, A, q⟩ := A; exact ⟨cl, A.ext E, q⟩
theorem own_AJ.other {a b : Addr} {vs : List Int64} {sl : Nat} {v : Value} (A : own_AJ Z h a vs) (W : Wr h h' b sl v) (ne : a ≠ b) : own_AJ Z h' a vs := by obtain ⟨cl, A, q⟩ := A; exact ⟨cl, A.other W ne, q⟩
theorem own_AJ.keep {a : Addr} {vs : List Int64} {ws : List Addr} (A : own_AJ Z h a vs) (K : Keep h h' ws) (ne : a ∉ ws) : own_AJ Z h' a vs := by obtain ⟨cl, A, q⟩ := A; exact ⟨cl, ⟨K.2.1 a cl A.1 ne, A.2⟩, q⟩
theorem own_AJ.put {a : Addr} {vs : List Int64} {j : Int32} (A : own_AJ Z h a vs) (W : Wr h h' a j.toNatClampNeg (.long u)) : own_AJ Z h' a (own_setL vs j u) := by
  obtain ⟨cl, A, q⟩ := A
  refine ⟨_, A.same W, ?_⟩
  show cl.slots.setIfInBounds _ _ = _
  rw [q, own_setL, List.map_set, List.setIfInBounds_toArray]
theorem own_inA {n : Nat} {j : Int32} {cl : Cell} (hj : own_in n j) (hn : cl.slots.size = n) : ¬ (j < 0 ∨ cl.slots.size ≤ j.toNatClampNeg) := fun q => q.elim hj.1 fun q => by rw [hn] at q; exact Nat.not_lt.mpr q hj.2
theorem own_szI {cl : Cell} {vs : List Int32} (q : cl.slots = (vs.map Value.int).toArray) : cl.slots.size = vs.length := by rw [q]; simp
theorem own_szJ {cl : Cell} {vs : List Int64} (q : cl.slots = (vs.map Value.long).toArray) : cl.slots.size = vs.length := by rw [q]; simp
theorem own_atI {cl : Cell} {vs : List Int32} {j : Int32} (q : cl.slots = (vs.map Value.int).toArray) (hj : own_in vs.length j) : cl.slots[j.toNatClampNeg]? = some (.int (own_get vs j)) := by
  rw [q, List.getElem?_toArray, List.getElem?_map, List.getElem?_eq_getElem hj.2, own_get, List.getD_eq_getElem?_getD, List.getElem?_eq_getElem hj.2]; rfl
theorem own_atJ {cl : Cell} {vs : List Int64} {j : Int32} (q : cl.slots = (vs.map Value.long).toArray) (hj : own_in vs.length j) : cl.slots[j.toNatClampNeg]? = some (.long (own_getL vs j)) := by
  rw [q, List.getElem?_toArray, List.getElem?_map, List.getElem?_eq_getElem hj.2, own_getL, List.getD_eq_getElem?_getD, List.getElem?_eq_getElem hj.2]; rfl
theorem o_iaload (X : Stand p l e R s m args below meth c T locs cells slots) (hx : p.tables.exec = Jvm.exec) (hZ : Z.Warmed39 s.vm) (eT : T.heap = h) {a : Addr} {vs : List Int32} {j : Int32} (A : own_AI Z h a .int vs) (hj : own_in vs.length j) (hd : decode c.code pc = .ok (.iaload, 1)) (hp : pc + 1 = pc') (hv : own_get vs j = x) (q : own_Go p e below Q T (mkF m pc' Ls (.int x :: rest))) : own_Go p e below Q T (mkF m pc Ls (.int j :: .ref a :: rest)) := by
  subst hp hv
  obtain ⟨cl, A, qs⟩ := A
  exact own_go (fun t k' => X.iaload hx (by rw [eT]; exact A.1) (State.isArrayOf_alike hZ.alike A.2.1) A.2.2 (own_inA hj (own_szI qs)) (own_atI qs hj) (g := mkF m pc Ls (.int j :: .ref a :: rest)) rfl rfl hd t k') q
theorem o_baload (X : Stand p l e R s m args below meth c T locs cells slots) (hx : p.tables.exec = Jvm.exec) (hZ : Z.Warmed39 s.vm) (eT : T.heap = h) {a : Addr} {vs : List Int32} {j : Int32} (A : own_AI Z h a .byte vs) (hj : own_in vs.length j) (hd : decode c.code pc = .ok (.baload, 1)) (hp : pc + 1 = pc') (hv : own_get vs j = x) (q : own_Go p e below Q T (mkF m pc' Ls (.int x :: rest))) : own_Go p e below Q T (mkF m pc Ls (.int j :: .ref a :: rest)) := by
  subst hp hv
  obtain ⟨cl, A, qs⟩ := A
  exact own_go (fun t k' => X.baloadBytes hx (by rw [eT]; exact A.1) (State.isArrayOf_alike hZ.alike A.2.1) A.2.2 (own_inA hj (own_szI qs)) (own_atI qs hj) (g := mkF m pc Ls (.int j :: .ref a :: rest)) rfl rfl hd t k') q
theorem o_laload (X : Stand p l e R s m args below meth c T locs cells slots) (hx : p.tables.exec = Jvm.exec) (hZ : Z.Warmed39 s.vm) (eT : T.heap = h) {a : Addr} {vs : List Int64} {j : Int32} (A : own_AJ Z h a vs) (hj : own_in vs.length j) (hd : decode c.code pc = .ok (.laload, 1)) (hp : pc + 1 = pc') (hv : own_getL vs j = u) (q : own_Go p e below Q T (mkF m pc' Ls (.long u :: rest))) : own_Go p e below Q T (mkF m pc Ls (.int j :: .ref a :: rest)) := by
  subst hp hv
  obtain ⟨cl, A, qs⟩ := A
  exact own_go (fun t k' => X.laload hx (by rw [eT]; exact A.1) (State.isArrayOf_alike hZ.alike A.2.1) A.2.2 (own_inA hj (own_szJ qs)) (own_atJ qs hj) (g := mkF m pc Ls (.int j :: .ref a :: rest)) rfl rfl hd t k') q
/-- the length as arraylength pushes it -/
def own_len (n : Nat) : Int32 := n.toInt32
theorem o_alenI (X : Stand p l e R s m args below meth c T locs cells slots) (hx : p.tables.exec = Jvm.exec) (hZ : Z.Warmed39 s.vm) (eT : T.heap = h) {a : Addr} {ty : FieldType} {vs : List Int32} (A : own_AI Z h a ty vs) (hd : decode c.code pc = .ok (.arraylength, 1)) (hp : pc + 1 = pc') (hv : own_len vs.length = x) (q : own_Go p e below Q T (mkF m pc' Ls (.int x :: rest))) : own_Go p e below Q T (mkF m pc Ls (.ref a :: rest)) := by
  subst hp hv
  obtain ⟨cl, A, qs⟩ := A
  refine own_go (fun t k' => X.arraylength hx (by rw [eT]; exact A.1) (State.isArrayOf_alike hZ.alike A.2.1) (g := mkF m pc Ls (.ref a :: rest)) rfl rfl hd t k') ?_
  rw [own_szI qs]; exact q
theorem o_alenJ (X : Stand p l e R s m args below meth c T locs cells slots) (hx : p.tables.exec = Jvm.exec) (hZ : Z.Warmed39 s.vm) (eT : T.heap = h) {a : Addr} {vs : List Int64} (A : own_AJ Z h a vs) (hd : decode c.code pc = .ok (.arraylength, 1)) (hp : pc + 1 = pc') (hv : own_len vs.length = x) (q : own_Go p e below Q T (mkF m pc' Ls (.int x :: rest))) : own_Go p e below Q T (mkF m pc Ls (.ref a :: rest)) := by
  subst hp hv
  obtain ⟨cl, A, qs⟩ := A
  refine own_go (fun t k' => X.arraylength hx (by rw [eT]; exact A.1) (State.isArrayOf_alike hZ.alike A.2.1) (g := mkF m pc Ls (.ref a :: rest)) rfl rfl hd t k') ?_
  rw [own_szJ qs]; exact q
/-- stores: the place stays in locs -/
theorem o_iastore (X : Stand p l e R s m args below meth c T locs cells slots) (hx : p.tables.exec = Jvm.exec) (hZ : Z.Warmed39 s.vm) (eT : T.heap = h) {a : Addr} {vs vs' : List Int32} {j : Int32} (A : own_AI Z h a .int vs) (hj : own_in vs.length j) (hd : decode c.code pc = .ok (.iastore, 1)) (hp : pc + 1 = pc') (hv : own_set vs j x = vs')
    (k : ∀ T' h', Stand p l e R s m args below meth c T' (locs ++ [⟨a, j.toNatClampNeg⟩]) cells slots → T'.heap = h' → Wr h h' a j.toNatClampNeg (.int x) → own_AI Z h' a .int vs' → own_Go p e below Q T' (mkF m pc' Ls rest)) : own_Go p e below Q T (mkF m pc Ls (.int x :: .int j :: .ref a :: rest)) := by
  subst hp hv
  obtain ⟨cl, A', qs⟩ := id A
  obtain ⟨T', h', X', e', W, st⟩ := stI X hx hZ eT A' (own_inA hj (own_szI qs)) (g := mkF m pc Ls (.int x :: .int j :: .ref a :: rest)) rfl rfl hd
  exact own_go st (k T' h' X' e' W (A.put W))
theorem o_bastore (X : Stand p l e R s m args below meth c T locs cells slots) (hx : p.tables.exec = Jvm.exec) (hZ : Z.Warmed39 s.vm) (eT : T.heap = h) {a : Addr} {vs vs' : List Int32} {j : Int32} (A : own_AI Z h a .byte vs) (hj : own_in vs.length j) (hd : decode c.code pc = .ok (.bastore, 1)) (hp : pc + 1 = pc') (hv : own_set vs j (own_i2b x) = vs')
    (k : ∀ T' h', Stand p l e R s m args below meth c T' (locs ++ [⟨a, j.toNatClampNeg⟩]) cells slots → T'.heap = h' → Wr h h' a j.toNatClampNeg (.int (own_i2b x)) → own_AI Z h' a .byte vs' → own_Go p e below Q T' (mkF m pc' Ls rest)) : own_Go p e below Q T (mkF m pc Ls (.int x :: .int j :: .ref a :: rest)) := by
  subst hp hv
  obtain ⟨cl, A', qs⟩ := id A
  obtain ⟨T', h', X', e', W, st⟩ := stB X hx hZ eT A' (own_inA hj (own_szI qs)) (g := mkF m pc Ls (.int x :: .int j :: .ref a :: rest)) rfl rfl hd
  exact own_go st (k T' h' X' e' W (A.put W))
theorem o_lastore (X : Stand p l e R s m args below meth c T locs cells slots) (hx : p.tables.exec = Jvm.exec) (hZ : Z.Warmed39 s.vm) (eT : T.heap = h) {a : Addr} {vs vs' : List Int64} {j : Int32} (A : own_AJ Z h a vs) (hj : own_in vs.length j) (hd : decode c.code pc = .ok (.lastore, 1)) (hp : pc + 1 = pc') (hv : own_setL vs j u = vs')
    (k : ∀ T' h', Stand p l e R s m args below meth c T' (locs ++ [⟨a, j.toNatClampNeg⟩]) cells slots → T'.heap = h' → Wr h h' a j.toNatClampNeg (.long u) → own_AJ Z h' a vs' → own_Go p e below Q T' (mkF m pc' Ls rest)) : own_Go p e below Q T (mkF m pc Ls (.long u :: .int j :: .ref a :: rest)) := by
  subst hp hv
  obtain ⟨cl, A', qs⟩ := id A
  obtain ⟨T', h', X', e', W, st⟩ := stJ X hx hZ eT A' (own_inA hj (own_szJ qs)) (g := mkF m pc Ls (.long u :: .int j :: .ref a :: rest)) rfl rfl hd
  exact own_go st (k T' h' X' e' W (A.put W))
theorem own_sz (X : Stand p l e R s m args below meth c T locs cells slots) (eT : T.heap = h) : s.heap.size ≤ h.size := by
  have q := X.same.2.1
  rw [← eT]; exact q
/-- the place written lies in a cell made since the start: it needn't be told -/
theorem own_drop {a : Addr} {j : Nat} (X : Stand p l e R s m args below meth c T (locs ++ [⟨a, j⟩]) cells slots) (ha : s.heap.size ≤ a) : Stand p l e R s m args below meth c T locs cells slots := X.forget fun y hy => by cases List.mem_singleton.mp hy; exact ha
theorem own_dropL {L : List Loc} {k : Nat} (X : Stand p l e R s m args below meth c T (locs ++ L) cells slots) (ha : s.heap.size ≤ k) (hL : ∀ y ∈ L, k ≤ y.base) : Stand p l e R s m args below meth c T locs cells slots := X.forget fun y hy => Nat.le_trans ha (hL y hy)
/-- newarray -/
theorem o_newI (X : Stand p l e R s m args below meth c T locs cells slots) (hx : p.tables.exec = Jvm.exec) (hZ : Z.Warmed39 s.vm) (eT : T.heap = h) {aty : ArrayType} {ty : FieldType} (w1 : (Cond.arrayClass ty).before a0 Z = true) (hty : newarray.typeOf aty = ty) (hdv : defaultValue ty = .int 0) (hd : decode c.code pc = .ok (.newarray aty, 2)) (hp : pc + 2 = pc') (hn : ¬ x < 0) {cap : Nat} (hcap : x.toNatClampNeg ≤ cap) (hb : cap * 8 ≤ 536870912) (hc : cells + 1 ≤ R.cells) (hs : slots + cap ≤ R.slots) {vs : List Int32} (hv : List.replicate x.toNatClampNeg 0 = vs)
    (k : ∀ T' h' a, Stand p l e R s m args below meth c T' locs (cells + 1) (slots + cap) → T'.heap = h' → h.size = a → Ext h h' → own_AI Z h' a ty vs → own_Go p e below Q T' (mkF m pc' Ls (.ref a :: rest))) : own_Go p e below Q T (mkF m pc Ls (.int x :: rest)) := by
  subst hp hv hty
  obtain ⟨T', h', cA, X', e', E, A, st⟩ := newP X hx hZ w1 eT (g := mkF m pc Ls (.int x :: rest)) rfl hd rfl hn hcap hb hc hs
  exact own_go st (k T' h' _ X' e' rfl E ⟨_, A, by simp [newA, hdv]⟩)
theorem o_newJ (X : Stand p l e R s m args below meth c T locs cells slots) (hx : p.tables.exec = Jvm.exec) (hZ : Z.Warmed39 s.vm) (eT : T.heap = h) (w1 : (Cond.arrayClass .long).before a0 Z = true) (hd : decode c.code pc = .ok (.newarray .long, 2)) (hp : pc + 2 = pc') (hn : ¬ x < 0) {cap : Nat} (hcap : x.toNatClampNeg ≤ cap) (hb : cap * 8 ≤ 536870912) (hc : cells + 1 ≤ R.cells) (hs : slots + cap ≤ R.slots) {vs : List Int64} (hv : List.replicate x.toNatClampNeg 0 = vs)
    (k : ∀ T' h' a, Stand p l e R s m args below meth c T' locs (cells + 1) (slots + cap) → T'.heap = h' → h.size = a → Ext h h' → own_AJ Z h' a vs → own_Go p e below Q T' (mkF m pc' Ls (.ref a :: rest))) : own_Go p e below Q T (mkF m pc Ls (.int x :: rest)) := by
  subst hp hv
  obtain ⟨T', h', cA, X', e', E, A, st⟩ := newP X hx hZ (aty := .long) w1 eT (g := mkF m pc Ls (.int x :: rest)) rfl hd rfl hn hcap hb hc hs
  exact own_go st (k T' h' _ X' e' rfl E ⟨_, A, by simp [newA, show defaultValue (newarray.typeOf .long) = Value.long 0 from rfl]⟩)
/-- a static call by the callee's contract -/
theorem o_callS (X : Stand p l e R s m args below meth c T locs cells slots) (hx : p.tables.exec = Jvm.exec) (hZ : Z.Warmed39 s.vm) (eT : T.heap = h) {own : String} {index : Nat} {y : MethodName} {bytes : ByteArray} {maxL : Nat} {ret : Option FieldType} {rm : Room} {W : Nat} (hown : s.vm.findClass own = some m.cls)
    (w1 : (Cond.methodLink own index y).before a0 Z = true) (w2 : (Cond.static y).before a0 Z = true) (w3 : (Cond.initialized y.cls).before a0 Z = true) (w4 : (Cond.code y bytes maxL ret).before a0 Z = true) (hy : y.cls ≠ "java/lang/invoke/MethodHandle" ∧ y.cls ≠ "java/lang/invoke/VarHandle") {as' : Array Value} {K : Option Value → Heap → List Loc → Prop}
    (hM : MetFree l y (head1 [Cond.code y bytes maxL ret] rm) (fun a U => a = as' ∧ Z.Warmed39 U.vm ∧ U.heap = h) (fun _ _ _ _ _ => True) (fun _ U o U' => ∃ v L, o = .returned v ∧ K v U'.heap L ∧ FrameEnd U o U' L rm.cells rm.slots))
    (hf : rm.frames + 1 ≤ R.frames) (hl : W + (maxL + 11) + rm.locals ≤ R.locals) (hml : Ls.size = c.maxLocals) {argsL st : List Value} {sig : MethodDescriptor} (hpd : parseMethodDescriptor y.desc = some sig) (hlen : argsL.length = sig.parameters.length) (hst : st = argsL.reverse ++ rest) (has : argsL.toArray = as') (hW : (rest.map fun v => v.category).sum = W)
    (hd : decode c.code pc = .ok (.invokestatic index, 3)) (hp : pc + 3 = pc') (hc : cells + rm.cells ≤ R.cells) (hs : slots + rm.slots ≤ R.slots)
    (k : ∀ v T' L, Stand p l e R s m args below meth c T' (locs ++ L) (cells + rm.cells) (slots + rm.slots) → K v T'.heap L → own_Go p e below Q T' (mkF m pc' Ls (v.toList ++ rest))) : own_Go p e below Q T (mkF m pc Ls st) := by
  subst hp hst has
  obtain ⟨v, _, ⟨T1, L1, k1, n1⟩, -, X1, ⟨Lc, hQ, l1, y1, z1⟩, st1⟩ := Jvm.LawKit.callS X hx hown (mvT hZ w1) (mvT hZ w2) (mvT hZ w3) (mvT hZ w4) hy (backOf (W := W) hM hZ w4 w3 hf hl) (g := mkF m pc Ls (argsL.reverse ++ rest)) rfl hml (argsL := argsL) (rest := rest) (fun sg hsg => by cases hpd.symm.trans hsg; exact hlen) rfl (by show 2 * 0 + _ ≤ _; rw [hW]; omega) hd (fun _ _ => ⟨rfl, eT, hc, hs⟩)
  dsimp only [Pt.U, Pt.locs, Pt.cells, Pt.slots] at X1 l1 y1 z1 st1 hQ
  subst l1 y1 z1
  exact own_go st1 (k v T1 Lc X1 hQ)
/-- a body that writes nothing: what it returns, the heap as it was -/
def own_KP (V : Option Value) (h0 : Heap) : Option Value → Heap → List Loc → Prop := fun v h L => v = V ∧ h = h0 ∧ L = []
/-- a law: what it returns; nothing old is written -/
def own_KL (V : Option Value) : Option Value → Heap → List Loc → Prop := fun v _ L => v = V ∧ L = []
theorem o_callP (X : Stand p l e R s m args below meth c T locs cells slots) (hx : p.tables.exec = Jvm.exec) (hZ : Z.Warmed39 s.vm) (eT : T.heap = h) {own : String} {index : Nat} {y : MethodName} {bytes : ByteArray} {maxL : Nat} {ret : Option FieldType} {rm : Room} {W : Nat} (hown : s.vm.findClass own = some m.cls)
    (w1 : (Cond.methodLink own index y).before a0 Z = true) (w2 : (Cond.static y).before a0 Z = true) (w3 : (Cond.initialized y.cls).before a0 Z = true) (w4 : (Cond.code y bytes maxL ret).before a0 Z = true) (hy : y.cls ≠ "java/lang/invoke/MethodHandle" ∧ y.cls ≠ "java/lang/invoke/VarHandle") {as' : Array Value} {V : Option Value}
    (hM : MetFree l y (head1 [Cond.code y bytes maxL ret] rm) (fun a U => a = as' ∧ Z.Warmed39 U.vm ∧ U.heap = h) (fun _ _ _ _ _ => True) (fun _ U o U' => ∃ v L, o = .returned v ∧ own_KP V h v U'.heap L ∧ FrameEnd U o U' L rm.cells rm.slots))
    (hf : rm.frames + 1 ≤ R.frames) (hl : W + (maxL + 11) + rm.locals ≤ R.locals) (hml : Ls.size = c.maxLocals) {argsL st : List Value} {sig : MethodDescriptor} (hpd : parseMethodDescriptor y.desc = some sig) (hlen : argsL.length = sig.parameters.length) (hst : st = argsL.reverse ++ rest) (has : argsL.toArray = as') (hW : (rest.map fun v => v.category).sum = W)
    (hd : decode c.code pc = .ok (.invokestatic index, 3)) (hp : pc + 3 = pc') (hc0 : rm.cells = 0) (hs0 : rm.slots = 0) (hc : cells + rm.cells ≤ R.cells) (hs : slots + rm.slots ≤ R.slots)
    {st' : List Value} (hst' : V.toList ++ rest = st')
    (k : ∀ T', Stand p l e R s m args below meth c T' locs cells slots → T'.heap = h → own_Go p e below Q T' (mkF m pc' Ls st')) : own_Go p e below Q T (mkF m pc Ls st) := by
  subst hst'
  refine o_callS X hx hZ eT hown w1 w2 w3 w4 hy hM hf hl hml hpd hlen hst has hW hd hp hc hs fun v T' L X' hK => ?_
  obtain ⟨rfl, e', rfl⟩ := hK
  rw [hc0, hs0, List.append_nil] at X'
  exact k T' X' e'
theorem own_snoc {a : Addr} {L : List Loc} {j : Nat} (N : ∀ y ∈ L, y.base = a) : ∀ y ∈ L ++ [⟨a, j⟩], y.base = a := fun y hy => (List.mem_append.mp hy).elim (N y) fun q => by cases List.mem_singleton.mp q; rfl
theorem own_nil (X : Stand p l e R s m args below meth c T (locs ++ []) cells slots) : Stand p l e R s m args below meth c T locs cells slots := by rw [List.append_nil] at X; exact X
/-- a body that writes into the array a alone -/
def own_KW (Z : State) (a : Addr) (ty : FieldType) (vs : List Int32) (h0 : Heap) : Option Value → Heap → List Loc → Prop := fun v h L => v = none ∧ (∀ y ∈ L, y.base = a) ∧ Keep h0 h [a] ∧ own_AI Z h a ty vs
def own_KWJ (Z : State) (a : Addr) (vs : List Int64) (h0 : Heap) : Option Value → Heap → List Loc → Prop := fun v h L => v = none ∧ (∀ y ∈ L, y.base = a) ∧ Keep h0 h [a] ∧ own_AJ Z h a vs
/-- a body that makes an array and hands it back -/
def own_KM (Z : State) (ty : FieldType) (vs : List Int32) (h0 : Heap) : Option Value → Heap → List Loc → Prop := fun v h L => ∃ b, v = some (.ref b) ∧ L = [] ∧ Keep h0 h [] ∧ h0.size ≤ b ∧ own_AI Z h b ty vs
/-- a store over a local that held nothing or one word -/
theorem o_istoreNS (X : Stand p l e R s m args below meth c T locs cells slots) (hx : p.tables.exec = Jvm.exec) {k : Fin 4} {o : Slot} (hd : decode c.code pc = .ok (.istore_n k, 1)) (hold : Ls[k.val]? = some o) (ho : One o) (hl : Ls.setIfInBounds k.val (.val (.int x)) = l') (hp : pc + 1 = pc') (q : own_Go p e below Q T (mkF m pc' l' rest)) : own_Go p e below Q T (mkF m pc Ls (.int x :: rest)) := by
  subst hp hl; exact own_go (fun t k' => XS.istoreNS X.here hx rfl hd rfl hold ho k') q
theorem o_istoreS (X : Stand p l e R s m args below meth c T locs cells slots) (hx : p.tables.exec = Jvm.exec) {k : Nat} {o : Slot} (hd : decode c.code pc = .ok (.istore k, 2)) (hold : Ls[k]? = some o) (ho : One o) (hl : Ls.setIfInBounds k (.val (.int x)) = l') (hp : pc + 2 = pc') (q : own_Go p e below Q T (mkF m pc' l' rest)) : own_Go p e below Q T (mkF m pc Ls (.int x :: rest)) := by
  subst hp hl; exact own_go (fun t k' => XS.istoreS X.here hx rfl hd rfl hold ho k') q
theorem o_astoreS (X : Stand p l e R s m args below meth c T locs cells slots) (hx : p.tables.exec = Jvm.exec) {k : Nat} {o : Slot} {v : Value} (hd : decode c.code pc = .ok (.astore k, 2)) (hv : v.isRef = true) (hcat : v.category = 1) (hold : Ls[k]? = some o) (ho : One o) (hl : Ls.setIfInBounds k (.val v) = l') (hp : pc + 2 = pc') (q : own_Go p e below Q T (mkF m pc' l' rest)) : own_Go p e below Q T (mkF m pc Ls (v :: rest)) := by
  subst hp hl; exact own_go (fun t k' => XS.astoreS X.here hx rfl hd rfl hv hcat hold ho k') q
end OwnKit
/-! OWN KIT, objects -/
section OwnObj
variable {p : Program} {l : Launch} {e : Env} {R : Room} {s : State} {m : MethodId} {args : Array Value} {below : List Frame} {meth : Method} {c : Code} {T T' : State} {locs : List Loc} {cells slots : Nat} {Z : State} {a0 : Array Value} {h h' : Heap}
variable {Q : Outcome → State → Prop} {pc pc' : Nat} {Ls : Array Slot} {rest : List Value}
theorem own_neO {o b : Addr} {C : String} {k : Nat} {ty : FieldType} {vs : List Int32} (E : Exa Z h o C) (wi : (Cond.instantiable C k).before a0 Z = true) (A : own_AI Z h b ty vs) : o ≠ b := by obtain ⟨cl, A, -⟩ := A; exact ne_arr E wi A
theorem own_neOJ {o b : Addr} {C : String} {k : Nat} {vs : List Int64} (E : Exa Z h o C) (wi : (Cond.instantiable C k).before a0 Z = true) (A : own_AJ Z h b vs) : o ≠ b := by obtain ⟨cl, A, -⟩ := A; exact ne_arr E wi A
theorem o_getF (X : Stand p l e R s m args below meth c T locs cells slots) (hx : p.tables.exec = Jvm.exec) (hZ : Z.Warmed39 s.vm) (eT : T.heap = h) {own O n d : String} {index : Nat} (hown : s.vm.findClass own = some m.cls) (w1 : (Cond.fieldLink own index O n d).before a0 Z = true) {a : Addr} {v : Value} (F : Fld Z h a O n d v) (hd : decode c.code pc = .ok (.getfield index, 3)) (hp : pc + 3 = pc')
    (k : ∀ T', Stand p l e R s m args below meth c T' locs cells slots → T'.heap = h → own_Go p e below Q T' (mkF m pc' Ls (v :: rest))) : own_Go p e below Q T (mkF m pc Ls (.ref a :: rest)) := by
  subst hp
  obtain ⟨T', X', e', st⟩ := getF X hx hZ hown (host := "") (Or.inl w1) Via.refl eT F (g := mkF m pc Ls (.ref a :: rest)) rfl rfl hd
  exact own_go st (k T' X' e')
theorem o_putF (X : Stand p l e R s m args below meth c T locs cells slots) (hx : p.tables.exec = Jvm.exec) (hZ : Z.Warmed39 s.vm) (eT : T.heap = h) {own O n d C : String} {index kk : Nat} {ty : FieldType} (hown : s.vm.findClass own = some m.cls) (w1 : (Cond.fieldLink own index O n d).before a0 Z = true) {a : Addr} {v old : Value} (F : Fld Z h a O n d old) (E : Exa Z h a C)
    (L : (Cond.lays C O n d).before a0 Z = true ∨ ((Cond.laysFinal C O n d).before a0 Z = true ∧ own = O ∧ meth.name = "<init>")) (wi : (Cond.instantiable C kk).before a0 Z = true) (hty : parseFieldDescriptor d = some ty) (hn : narrow ty v = v) (hf : fits ty v = true) (hd : decode c.code pc = .ok (.putfield index, 3)) (hp : pc + 3 = pc')
    (k : ∀ T' h', Stand p l e R s m args below meth c T' (locs ++ [⟨a, Jvm.RoadKit.slotOf Z O n d⟩]) cells slots → T'.heap = h' → Wr h h' a (Jvm.RoadKit.slotOf Z O n d) v → own_Go p e below Q T' (mkF m pc' Ls rest)) : own_Go p e below Q T (mkF m pc Ls (v :: .ref a :: rest)) := by
  subst hp
  obtain ⟨T', h', X', e', W, st⟩ := putF X hx hZ hown (host := "") (Or.inl w1) Via.refl eT F E L wi hty hn hf (g := mkF m pc Ls (v :: .ref a :: rest)) rfl rfl hd
  exact own_go st (k T' h' X' e' W)
theorem o_newO (X : Stand p l e R s m args below meth c T locs cells slots) (hx : p.tables.exec = Jvm.exec) (hZ : Z.Warmed39 s.vm) (eT : T.heap = h) {own C : String} {index n : Nat} (hown : s.vm.findClass own = some m.cls) (w1 : (Cond.classLink own index C).before a0 Z = true) (wi : (Cond.instantiable C n).before a0 Z = true) (wz : (Cond.initialized C).before a0 Z = true) (hd : decode c.code pc = .ok (.new index, 3)) (hp : pc + 3 = pc') (hc : cells + 1 ≤ R.cells) (hs : slots + n ≤ R.slots)
    (k : ∀ T' h' a, Stand p l e R s m args below meth c T' locs (cells + 1) (slots + n) → T'.heap = h' → h.size = a → Ext h h' → Exa Z h' a C → (∀ {O nm d : String} {ty : FieldType}, Laid Z a0 C O nm d → parseFieldDescriptor d = some ty → Fld Z h' a O nm d (defaultValue ty)) → own_Go p e below Q T' (mkF m pc' Ls (.ref a :: rest))) : own_Go p e below Q T (mkF m pc Ls rest) := by
  subst hp
  obtain ⟨T', h', X', e', E, A, D, -, st⟩ := newO X hx hZ hown w1 wi wz eT (g := mkF m pc Ls rest) rfl hd hc hs
  exact own_go st (k T' h' _ X' e' rfl E A D)
theorem o_initO (X : Stand p l e R s m args below meth c T locs cells slots) (hx : p.tables.exec = Jvm.exec) (hZ : Z.Warmed39 s.vm) (eT : T.heap = h) {own : String} {index : Nat} (hown : s.vm.findClass own = some m.cls) (w1 : (Cond.methodLink own index Lib.objectInit).before a0 Z = true) (w2 : (Cond.instanceMethod Lib.objectInit).before a0 Z = true) (w3 : (Cond.code Lib.objectInit ⟨#[0xb1]⟩ 1 none).before a0 Z = true) (hml : Ls.size = c.maxLocals) {a : Addr} {W : Nat} (hW : (rest.map fun v => v.category).sum = W)
    (hd : decode c.code pc = .ok (.invokespecial index, 3)) (hp : pc + 3 = pc') (hf : 1 ≤ R.frames) (hl : W + 12 ≤ R.locals)
    (k : ∀ T', Stand p l e R s m args below meth c T' locs cells slots → T'.heap = h → own_Go p e below Q T' (mkF m pc' Ls rest)) : own_Go p e below Q T (mkF m pc Ls (.ref a :: rest)) := by
  subst hp
  obtain ⟨T', X', e', st⟩ := initO X hx hZ hown w1 w2 w3 eT (g := mkF m pc Ls (.ref a :: rest)) rfl hml rfl hd hf (W := W) (by show 2 * 0 + _ ≤ _; rw [hW]; omega) hl
  exact own_go st (k T' X' e')
theorem o_ctor (X : Stand p l e R s m args below meth c T locs cells slots) (hx : p.tables.exec = Jvm.exec) (hZ : Z.Warmed39 s.vm) (eT : T.heap = h) {own : String} {index : Nat} {y : MethodName} {bytes : ByteArray} {maxL : Nat} {rm : Room} {W : Nat} (hy1 : y.name = "<init>") (hown : s.vm.findClass own = some m.cls)
    (w1 : (Cond.methodLink own index y).before a0 Z = true) (w2 : (Cond.instanceMethod y).before a0 Z = true) (w3 : (Cond.initialized y.cls).before a0 Z = true) (w4 : (Cond.code y bytes maxL none).before a0 Z = true) (hy : y.cls ≠ "java/lang/invoke/MethodHandle" ∧ y.cls ≠ "java/lang/invoke/VarHandle") {as' : Array Value} {K : Option Value → Heap → List Loc → Prop}
    (hM : MetFree l y (head1 [Cond.code y bytes maxL none] rm) (fun a U => a = as' ∧ Z.Warmed39 U.vm ∧ U.heap = h) (fun _ _ _ _ _ => True) (fun _ U o U' => ∃ v L, o = .returned v ∧ K v U'.heap L ∧ FrameEnd U o U' L rm.cells rm.slots))
    (hf : rm.frames + 1 ≤ R.frames) (hl : W + (maxL + 11) + rm.locals ≤ R.locals) (hml : Ls.size = c.maxLocals) {a : Addr} {argsL st : List Value} {sig : MethodDescriptor} (hpd : parseMethodDescriptor y.desc = some sig) (hlen : argsL.length = sig.parameters.length) (hst : st = argsL.reverse ++ .ref a :: rest) (has : (.ref a :: argsL).toArray = as') (hW : (rest.map fun v => v.category).sum = W)
    (hd : decode c.code pc = .ok (.invokespecial index, 3)) (hp : pc + 3 = pc') (hc : cells + rm.cells ≤ R.cells) (hs : slots + rm.slots ≤ R.slots)
    (k : ∀ v T' L, Stand p l e R s m args below meth c T' (locs ++ L) (cells + rm.cells) (slots + rm.slots) → K v T'.heap L → own_Go p e below Q T' (mkF m pc' Ls (v.toList ++ rest))) : own_Go p e below Q T (mkF m pc Ls st) := by
  subst hp hst has
  obtain ⟨v, _, ⟨T1, L1, k1, n1⟩, -, X1, ⟨Lc, hQ, l1, y1, z1⟩, st1⟩ := X.specialBack hx hy1 hown (mvT hZ w1) (mvT hZ w2) (mvT hZ w4) hy (backOf (W := W) hM hZ w4 w3 hf hl) (g := mkF m pc Ls (argsL.reverse ++ .ref a :: rest)) rfl hml (Steps.refl _) (a := a) (argsL := argsL) (rest := rest) (fun sg hsg => by cases hpd.symm.trans hsg; exact hlen) rfl (by show 2 * 0 + _ ≤ _; rw [hW]; omega) hd (fun _ _ => ⟨rfl, eT, hc, hs⟩)
  dsimp only [Pt.U, Pt.locs, Pt.cells, Pt.slots] at X1 l1 y1 z1 st1 hQ
  subst l1 y1 z1
  exact own_go (fun t k' => st1.trans k') (k v T1 Lc X1 hQ)
theorem o_callV (X : Stand p l e R s m args below meth c T locs cells slots) (hx : p.tables.exec = Jvm.exec) (hZ : Z.Warmed39 s.vm) (eT : T.heap = h) {own : String} {index : Nat} {y : MethodName} {bytes : ByteArray} {maxL : Nat} {ret : Option FieldType} {rm : Room} {W : Nat} (hown : s.vm.findClass own = some m.cls)
    (w1 : (Cond.methodLink own index y).before a0 Z = true) (w2 : (Cond.declares y).before a0 Z = true) (w5 : (Cond.selects y.cls y y).before a0 Z = true) (w6 : (Cond.instanceMethod y).before a0 Z = true) (w3 : (Cond.initialized y.cls).before a0 Z = true) (w4 : (Cond.code y bytes maxL ret).before a0 Z = true) (hy : y.cls ≠ "java/lang/invoke/MethodHandle" ∧ y.cls ≠ "java/lang/invoke/VarHandle") {as' : Array Value} {K : Option Value → Heap → List Loc → Prop}
    (hM : MetFree l y (head1 [Cond.code y bytes maxL ret] rm) (fun a U => a = as' ∧ Z.Warmed39 U.vm ∧ U.heap = h) (fun _ _ _ _ _ => True) (fun _ U o U' => ∃ v L, o = .returned v ∧ K v U'.heap L ∧ FrameEnd U o U' L rm.cells rm.slots))
    (hf : rm.frames + 1 ≤ R.frames) (hl : W + (maxL + 11) + rm.locals ≤ R.locals) (hml : Ls.size = c.maxLocals) {a : Addr} (E : Exa Z h a y.cls) {argsL st : List Value} {sig : MethodDescriptor} (hpd : parseMethodDescriptor y.desc = some sig) (hlen : argsL.length = sig.parameters.length) (hst : st = argsL.reverse ++ .ref a :: rest) (has : (.ref a :: argsL).toArray = as') (hW : (rest.map fun v => v.category).sum = W)
    (hd : decode c.code pc = .ok (.invokevirtual index, 3)) (hp : pc + 3 = pc') (hc : cells + rm.cells ≤ R.cells) (hs : slots + rm.slots ≤ R.slots)
    (k : ∀ v T' L, Stand p l e R s m args below meth c T' (locs ++ L) (cells + rm.cells) (slots + rm.slots) → K v T'.heap L → own_Go p e below Q T' (mkF m pc' Ls (v.toList ++ rest))) : own_Go p e below Q T (mkF m pc Ls st) := by
  subst hp hst has
  obtain ⟨cB, kB, qa, qb, qc⟩ := isOf hZ eT E
  obtain ⟨v, _, ⟨T1, L1, k1, n1⟩, -, X1, ⟨Lc, hQ, l1, y1, z1⟩, st1⟩ := X.virtualBack hx (y := y) (z := y) hown (mvT hZ w1) (mvT hZ w2) (notFace_of_selects (args := #[]) (mvT hZ w5)) (mvT hZ w5) (mvT hZ w6) hy (backOf (W := W) hM hZ w4 w3 hf hl) qa qc (g := mkF m pc Ls (argsL.reverse ++ .ref a :: rest)) rfl hml (Steps.refl _) (argsL := argsL) (rest := rest) (fun sg hsg => by cases hpd.symm.trans hsg; exact hlen) rfl (by show 2 * 0 + _ ≤ _; rw [hW]; omega) hd (fun _ _ => ⟨rfl, eT, hc, hs⟩)
  dsimp only [Pt.U, Pt.locs, Pt.cells, Pt.slots] at X1 l1 y1 z1 st1 hQ
  subst l1 y1 z1
  exact own_go (fun t k' => st1.trans k') (k v T1 Lc X1 hQ)
/-- a reference that may be null -/
def own_rv : Option Addr → Value
  | none => .null
  | some a => .ref a
theorem own_rv_ref (o : Option Addr) : (own_rv o).isRef = true := by cases o <;> rfl
theorem own_rv_cat (o : Option Addr) : (own_rv o).category = 1 := by cases o <;> rfl
theorem own_rv_of {v : Value} (h : v.isRef = true) : ∃ o, v = own_rv o := by
  rcases ref_cases h with rfl | ⟨a, rfl⟩
  · exact ⟨none, rfl⟩
  · exact ⟨some a, rfl⟩
theorem o_getS (X : Stand p l e R s m args below meth c T locs cells slots) (hx : p.tables.exec = Jvm.exec) (hZ : Z.Warmed39 s.vm) (eT : T.heap = h) {own O n d : String} {index : Nat} (hown : s.vm.findClass own = some m.cls) (w1 : (Cond.fieldLink own index O n d).before a0 Z = true) {v : Value} (F : Sta Z h O n d v) (hd : decode c.code pc = .ok (.getstatic index, 3)) (hp : pc + 3 = pc')
    (k : ∀ T', Stand p l e R s m args below meth c T' locs cells slots → T'.heap = h → own_Go p e below Q T' (mkF m pc' Ls (v :: rest))) : own_Go p e below Q T (mkF m pc Ls rest) := by
  subst hp
  obtain ⟨T', X', e', st⟩ := getS X hx hZ (host := "") hown w1 Via.refl eT F (g := mkF m pc Ls rest) rfl hd
  exact own_go st (k T' X' e')
end OwnObj
/-! System.arraycopy of ints into an array made since the start -/
section OwnCopy
variable {p : Program} {l : Launch} {e : Env} {R : Room} {s : State} {m : MethodId} {args : Array Value} {below : List Frame} {meth : Method} {c : Code} {T T' : State} {locs : List Loc} {cells slots : Nat} {Z : State} {a0 : Array Value} {h h' : Heap}
variable {Q : Outcome → State → Prop} {pc pc' : Nat} {Ls : Array Slot} {rest : List Value}
def own_copy (vs vd : List Int32) (sp dp n : Int32) : List Int32 := (List.range vd.length).map fun j => if dp.toNatClampNeg ≤ j ∧ j < dp.toNatClampNeg + n.toNatClampNeg then vs.getD (sp.toNatClampNeg + (j - dp.toNatClampNeg)) 0 else vd.getD j 0
def own_fits (len : Nat) (p n : Int32) : Prop := ¬ p < 0 ∧ p.toNatClampNeg + n.toNatClampNeg ≤ len
theorem o_copyI (X : Stand p l e R s m args below meth c T locs cells slots) (hx : p.tables.exec = Jvm.exec) (hZ : Z.Warmed39 s.vm) (eT : T.heap = h) {own : String} {index : Nat} (hown : s.vm.findClass own = some m.cls)
    (w1 : (Cond.methodLink own index Stand.acN).before a0 Z = true) (w2 : (Cond.native Stand.acN).before a0 Z = true) (w3 : (Cond.static Stand.acN).before a0 Z = true) (w4 : (Cond.initialized "java/lang/System").before a0 Z = true)
    {src dst : Addr} {sp dp n : Int32} {vs vd vd' : List Int32} (A : own_AI Z h src .int vs) (B : own_AI Z h dst .int vd) (hg : s.heap.size ≤ dst) (h3 : ¬ n < 0) (h4 : own_fits vs.length sp n) (h5 : own_fits vd.length dp n) (hv : own_copy vs vd sp dp n = vd')
    (hml : Ls.size = c.maxLocals) {W : Nat} (hW : (rest.map fun v => v.category).sum = W) (hd : decode c.code pc = .ok (.invokestatic index, 3)) (hp : pc + 3 = pc') (hf : 1 ≤ R.frames) (hl : W + 18 ≤ R.locals)
    (k : ∀ T' h', Stand p l e R s m args below meth c T' locs cells slots → T'.heap = h' → Keep h h' [dst] → own_AI Z h' dst .int vd' → own_Go p e below Q T' (mkF m pc' Ls rest)) : own_Go p e below Q T (mkF m pc Ls (.int n :: .int dp :: .ref dst :: .int sp :: .ref src :: rest)) := by
  subst hp hv
  obtain ⟨cs, As, qs⟩ := A
  obtain ⟨cd, Ad, qd⟩ := B
  obtain ⟨sn1, ks, hks, sComp, hsk⟩ := State.isArrayOf_alike hZ.alike As.2.1
  obtain ⟨dn1, kd, hkd, dComp, hdk⟩ := State.isArrayOf_alike hZ.alike Ad.2.1
  have ss : cs.slots.size = vs.length := own_szI qs
  have sd : cd.slots.size = vd.length := own_szI qd
  have cl (x : Int32) (hx0 : ¬ x < 0) : (x.toNatClampNeg : Int) = x.toInt := by
    have := mt Int32.lt_iff_toInt_lt.mpr hx0
    rw [Int32.toInt_zero] at this
    rw [Int32.toNatClampNeg]; omega
  have c1 := cl sp h4.1; have c2 := cl dp h5.1; have c3 := cl n h3
  have b4 := h4.2; have b5 := h5.2
  have hval (i : Nat) (hi : i < n.toNatClampNeg) : cs.slots.getD (sp.toNatClampNeg + i) .null = .int (vs.getD (sp.toNatClampNeg + i) 0) := by
    have hlt : sp.toNatClampNeg + i < vs.length := by omega
    rw [Array.getD_eq_getD_getElem?, qs, List.getElem?_toArray, List.getElem?_map, List.getElem?_eq_getElem hlt, List.getD_eq_getElem?_getD, List.getElem?_eq_getElem hlt]
    rfl
  obtain ⟨vm₁, hW₁, X₁, st⟩ := X.arraycopyK hx hown (mvT hZ w1) (mvT hZ w2) (mvT hZ w3) (mvT hZ w4) (src := src) (dst := dst) (srcPos := sp) (destPos := dp) (n := n) (cs := cs) (cd := cd) (ks := ks) (kd := kd) (sComp := sComp) (dComp := dComp) (sType := .int) (dType := .int)
    (by rw [eT]; exact As.1) (by rw [eT]; exact Ad.1) sn1 dn1 As.2.2 Ad.2.2 hks hkd hsk hdk (by decide) h4.1 h5.1 h3 (by rw [ss]; omega) (by rw [sd]; omega)
    (fun _ _ i hi => by rw [hval i hi]; exact ⟨rfl, trivial⟩) (g := mkF m pc Ls (.int n :: .int dp :: .ref dst :: .int sp :: .ref src :: rest)) rfl hml rfl hd hf (by show 2 * 0 + _ + (7 + 11) ≤ _; rw [hW]; omega)
  have X₂ := Stand.arraycopyFresh X₁ hg
  subst eT
  have facts := Cell.storeRun_facts cd dp.toNatClampNeg (cs.stretch sp.toNatClampNeg n.toNatClampNeg)
  have hlt : dst < T.heap.size := Ad.lt
  have hh : ((T.setVm vm₁).setCell dst (copied cs cd sp dp n)).heap = T.heap.setIfInBounds dst (copied cs cd sp dp n) := rfl
  refine own_go st (k _ _ X₂ rfl ?_ ?_)
  · rw [hh]
    refine ⟨by simp, fun x cx hx' hne => ?_, fun x cx hx' => ?_⟩
    · rw [Array.getElem?_setIfInBounds_ne (fun q => hne (by rw [q]; exact List.mem_singleton.mpr rfl))]; exact hx'
    · by_cases q : dst = x
      · subst q
        cases Ad.1.symm.trans hx'
        exact ⟨copied cs cd sp dp n, by simp [hlt], facts.1, facts.2.1, facts.2.2.1⟩
      · exact ⟨cx, by rw [Array.getElem?_setIfInBounds_ne q]; exact hx', rfl, rfl, rfl⟩
  · rw [hh]
    refine ⟨copied cs cd sp dp n, ⟨by simp [hlt], ?_, ?_⟩, ?_⟩
    · obtain ⟨q1, kz, q2, q3⟩ := Ad.2.1
      have f1 : (copied cs cd sp dp n).vm = cd.vm := facts.2.1
      have f2 : (copied cs cd sp dp n).cls = cd.cls := facts.1
      exact ⟨by rw [f1]; exact q1, kz, by rw [f2]; exact q2, q3⟩
    · have f1 : (copied cs cd sp dp n).vm = cd.vm := facts.2.1
      rw [f1]; exact Ad.2.2
    · apply Array.ext_getElem?
      intro j
      have g := Cell.storeRun_get cd dp.toNatClampNeg (cs.stretch sp.toNatClampNeg n.toNatClampNeg) j (by rw [Cell.stretch_length]; omega)
      rw [Cell.stretch_length] at g
      have e0 : (copied cs cd sp dp n).slots[j]? = (cd.storeRun dp.toNatClampNeg (cs.stretch sp.toNatClampNeg n.toNatClampNeg)).slots[j]? := rfl
      rw [e0, g, show ((own_copy vs vd sp dp n).map Value.int).toArray[j]? = ((own_copy vs vd sp dp n).map Value.int)[j]? from by simp, List.getElem?_map, own_copy, List.getElem?_map]
      by_cases hj : j < vd.length
      · rw [List.getElem?_range hj]
        by_cases hc : dp.toNatClampNeg ≤ j ∧ j < dp.toNatClampNeg + n.toNatClampNeg
        · rw [if_pos hc]
          have hi : j - dp.toNatClampNeg < n.toNatClampNeg := by omega
          simp only [Cell.stretch, List.getElem?_map, List.getElem?_range hi, Option.map_some, if_pos hc]
          rw [hval _ hi]
        · rw [if_neg hc, qd, List.getElem?_toArray, List.getElem?_map, List.getElem?_eq_getElem hj]
          simp only [Option.map_some, if_neg hc]
          rw [List.getD_eq_getElem?_getD, List.getElem?_eq_getElem hj]; rfl
      · have n1 : (List.range vd.length)[j]? = none := List.getElem?_eq_none (by simp; omega)
        rw [n1, if_neg (by omega), qd, List.getElem?_toArray, List.getElem?_eq_none (by simp; omega)]; rfl
end OwnCopy
/-! own facts on numbers (with kit/NumsL) -/
theorem own_tmod (x y : Int32) : (own_rem x y).toInt = x.toInt.tmod y.toInt := by
  have a := (x % y).toInt_lt; have b := (x % y).le_toInt
  rw [Int32.toInt_mod] at a b
  show (x - (x / y) * y).toInt = _
  rw [Int32.toInt_sub, Int32.toInt_mul, Int32.toInt_div, Int.bmod_mul_bmod, Int.sub_bmod_bmod, Int.mul_comm, ← Int.tmod_def]
  exact Jvm.Kit.bmod32 b a
theorem own_emod {x y : Int32} (hx : 0 ≤ x.toInt) : (own_rem x y).toInt = x.toInt % y.toInt := by rw [own_tmod, Int.tmod_eq_emod_of_nonneg hx]
theorem own_lemod {u w : Int64} (hx : 0 ≤ u.toInt) : (own_lrem u w).toInt = u.toInt % w.toInt := Jvm.Kit.i64_rem_nonneg hx
theorem own_max (x : Int32) : (x &&& 2147483647).toInt = x.toInt % 2 ^ 31 := Jvm.Kit.i32_mask x 2147483647 (by decide) (by decide)
/-- x >>> k, k a number from 1 to 31, as a division of the number without sign -/
theorem own_ushr_toNat (x y : Int32) {k : Nat} (hk : (y &&& 31).toUInt32.toNat = k) (h1 : k < 32) : (own_ushr x y).toBitVec.toNat = x.toBitVec.toNat / 2 ^ k := by
  show ((x.toUInt32 >>> (y &&& 31).toUInt32).toInt32).toBitVec.toNat = _
  rw [UInt32.toBitVec_toInt32, UInt32.toBitVec_shiftRight]
  have e : ((y &&& 31).toUInt32.toBitVec % 32).toNat = k := by
    have e0 : (y &&& 31).toUInt32.toBitVec.toNat = k := hk
    rw [BitVec.toNat_umod, e0]
    exact Nat.mod_eq_of_lt h1
  show (x.toBitVec >>> ((y &&& 31).toUInt32.toBitVec % 32).toNat).toNat = _
  rw [e, BitVec.toNat_ushiftRight, Nat.shiftRight_eq_div_pow]
theorem own_ushr_toInt (x y : Int32) {k : Nat} (hk : (y &&& 31).toUInt32.toNat = k) (h0 : 0 < k) (h1 : k < 32) : (own_ushr x y).toInt = (x.toBitVec.toNat / 2 ^ k : Nat) := by
  have h := own_ushr_toNat x y hk h1
  have hb := x.toBitVec.isLt
  have h2 : x.toBitVec.toNat / 2 ^ k ≤ x.toBitVec.toNat / 2 ^ 1 := Nat.div_le_div_left (Nat.pow_le_pow_right (by decide) h0) (by decide)
  have e : (own_ushr x y).toInt = (own_ushr x y).toBitVec.toInt := rfl
  rw [e, BitVec.toInt_eq_toNat_cond, h, if_pos (by omega)]
theorem own_in_of {n : Nat} {j : Int32} (h0 : 0 ≤ j.toInt) (h1 : j.toInt < n) : own_in n j := by
  refine ⟨fun q => ?_, ?_⟩
  · rw [Int32.lt_iff_toInt_lt] at q
    have : (0 : Int32).toInt = 0 := rfl
    omega
  · rw [Int32.toNatClampNeg]; omega
theorem own_lt {x y : Int32} : x < y ↔ x.toInt < y.toInt := Int32.lt_iff_toInt_lt
theorem own_eq {x y : Int32} : x = y ↔ x.toInt = y.toInt := Int32.toInt_inj.symm
theorem own_ltL {x y : Int64} : x < y ↔ x.toInt < y.toInt := Int64.lt_iff_toInt_lt
theorem own_eqL {x y : Int64} : x = y ↔ x.toInt = y.toInt := Int64.toInt_inj.symm
theorem own_nat_toInt {k : Nat} (h : k < 2 ^ 31) : (Int32.ofNat k).toInt = k := Int32.toInt_ofNat_of_lt (by omega)
theorem own_nat_lt {i n : Nat} (hi : i < 2 ^ 31) (hn : n < 2 ^ 31) : Int32.ofNat i < Int32.ofNat n ↔ i < n := by
  rw [own_lt, own_nat_toInt hi, own_nat_toInt hn]; omega
theorem own_nat_one (i : Nat) : Int32.ofNat i + (1 : Int32) = Int32.ofNat (i + 1) := (Int32.ofNat_add i 1).symm
theorem own_nat_clamp {k : Nat} (h : k < 2 ^ 31) : (Int32.ofNat k).toNatClampNeg = k := by
  rw [Int32.toNatClampNeg, own_nat_toInt h]; rfl
theorem own_nat_get (v : List Int32) {k : Nat} (h : k < 2 ^ 31) : own_get v (Int32.ofNat k) = v.getD k 0 := by rw [own_get, own_nat_clamp h]
theorem own_nat_in {n k : Nat} (h : k < n) (hk : k < 2 ^ 31) : own_in n (Int32.ofNat k) := own_in_of (by rw [own_nat_toInt hk]; omega) (by rw [own_nat_toInt hk]; omega)
theorem own_nat_of {x : Int32} (h : 0 ≤ x.toInt) : ∃ k : Nat, x = Int32.ofNat k ∧ (k : Int) = x.toInt ∧ k < 2 ^ 31 := by
  have u := x.toInt_lt
  refine ⟨x.toInt.toNat, ?_, by omega, by omega⟩
  rw [own_eq, own_nat_toInt (by omega)]; omega
theorem own_nat_sub {a b : Nat} (ha : a < 2 ^ 31) (h : b ≤ a) : Int32.ofNat a - Int32.ofNat b = Int32.ofNat (a - b) := by
  have e1 := own_nat_toInt ha
  have e2 := own_nat_toInt (k := b) (by omega)
  have e3 := own_nat_toInt (k := a - b) (by omega)
  rw [own_eq, Jvm.Kit.i32_sub (by omega) (by omega)]
  omega
theorem own_i2b2 (x : Int32) : own_i2b (own_i2b x) = own_i2b x := by
  show (x.toInt8.toInt32).toInt8.toInt32 = x.toInt8.toInt32
  rw [Int8.toInt8_toInt32]
/-- a hash: 31 * h + the next, count times from place i on -/
def own_h (v : List Int32) : Int32 → Nat → Nat → Int32
  | h, _, 0 => h
  | h, i, c + 1 => own_h v (31 * h + v.getD i 0) (i + 1) c
def own_p : Nat → Int32
  | 0 => 1
  | n + 1 => 31 * own_p n
def own_sum (v : List Int32) : Nat → Nat → Int32
  | _, 0 => 0
  | i, c + 1 => v.getD i 0 * own_p c + own_sum v (i + 1) c
theorem own_h_eq (v : List Int32) : ∀ (c : Nat) (h : Int32) (i : Nat), own_h v h i c = h * own_p c + own_sum v i c := by
  intro c
  induction c with
  | zero => intro h i; simp only [own_h, own_p, own_sum, Int32.mul_one, Int32.add_zero]
  | succ c ih =>
    intro h i
    rw [own_h, ih, own_p, own_sum, Int32.add_mul, Int32.mul_comm 31 h, Int32.mul_assoc, Int32.add_assoc]
theorem own_toNat (x : Int32) : (x.toBitVec.toNat : Int) = x.toInt % 2 ^ 32 := by
  have e : x.toInt = x.toBitVec.toInt := rfl
  have h := x.toBitVec.isLt
  rw [e, BitVec.toInt_eq_toNat_cond]
  split <;> omega
theorem pd_0 : parseMethodDescriptor "(IILjava/util/function/BiFunction;)I" = some ⟨[.int, .int, (.object "java/util/function/BiFunction")], some .int⟩ := by decide +kernel
theorem pd_1 : parseMethodDescriptor "(II)V" = some ⟨[.int, .int], none⟩ := by decide +kernel
theorem pd_2 : parseMethodDescriptor "()Z" = some ⟨[], some .boolean⟩ := by decide +kernel
theorem pd_3 : parseMethodDescriptor "([BI)C" = some ⟨[(.array .byte), .int], some .char⟩ := by decide +kernel
theorem pd_4 : parseMethodDescriptor "(I)C" = some ⟨[.int], some .char⟩ := by decide +kernel
theorem pd_5 : parseMethodDescriptor "(C)I" = some ⟨[.char], some .int⟩ := by decide +kernel
theorem d5_0 : decode jdk_41_method_11_code 0 = .ok (.iload_n 0, 1) := by decide +kernel
theorem d5_1 : decode jdk_41_method_11_code 1 = .ok (.ifCond .lt 8, 3) := by decide +kernel
theorem d5_4 : decode jdk_41_method_11_code 4 = .ok (.iload_n 0, 1) := by decide +kernel
theorem d5_5 : decode jdk_41_method_11_code 5 = .ok (.iload_n 1, 1) := by decide +kernel
theorem d5_6 : decode jdk_41_method_11_code 6 = .ok (.if_icmp .lt 10, 3) := by decide +kernel
theorem d5_9 : decode jdk_41_method_11_code 9 = .ok (.aload_n 2, 1) := by decide +kernel
theorem d5_10 : decode jdk_41_method_11_code 10 = .ok (.iload_n 0, 1) := by decide +kernel
theorem d5_11 : decode jdk_41_method_11_code 11 = .ok (.iload_n 1, 1) := by decide +kernel
theorem d5_12 : decode jdk_41_method_11_code 12 = .ok (.invokestatic 95, 3) := by decide +kernel
theorem d5_15 : decode jdk_41_method_11_code 15 = .ok (.athrow, 1) := by decide +kernel
theorem d5_16 : decode jdk_41_method_11_code 16 = .ok (.iload_n 0, 1) := by decide +kernel
theorem d5_17 : decode jdk_41_method_11_code 17 = .ok (.ireturn, 1) := by decide +kernel
section Body5
variable {p : Program} {l : Launch} {e : Env} {s : State} {m : MethodId} {args : Array Value} {below : List Frame} {meth : Method} {c : Code} {Z : State} {ag : Array Value} {K : Option Value → Heap → List Loc → Prop}
abbrev R5 : Room := { frames := 0, cells := 0, slots := 0, locals := 0 }
abbrev cc5 : Nat := 0
abbrev ss5 : Nat := 0
def f5_9 (x0 : Int32) (x1 : Int32) : Int32 := 0
def s5_9 (x0 : Int32) (x1 : Int32) : Prop := False
set_option maxRecDepth 65536 in
set_option maxHeartbeats 40000000 in
theorem b5_9 (C : own_Cx p s m meth c Z ag jdk_41_method_11_code 3 "jdk/internal/util/Preconditions" (some .int) "checkIndex") {T : State} {h : Heap} (x0 : Int32) (x1 : Int32) (x2 : Option Addr) (X : Stand p l e R5 s m args below meth c T [] 0 0) (eT : T.heap = h) (hs : s5_9 x0 x1) (hK : K (some (.int (f5_9 x0 x1))) h []) : own_Go p e below (own_Q s K cc5 ss5) T (mkF m 9 #[.val (.int x0), .val (.int x1), .val (own_rv x2)] []) := by
  obtain ⟨hx, hZ, hw, hby, hml, hown, hret, hlk, hnm⟩ := id C
  unfold f5_9 at hK
  unfold s5_9 at hs
  refine o_aloadN (pc' := 10) X hx (hb hby d5_9) rfl (own_rv_ref _) rfl ?_
  refine o_iloadN (pc' := 11) X hx (hb hby d5_10) rfl rfl ?_
  refine o_iloadN (pc' := 12) X hx (hb hby d5_11) rfl rfl ?_
  exact False.elim hs

def f5_0 (p0 : Int32) (p1 : Int32) : Int32 := (if p0 < (0 : Int32) then (f5_9 p0 p1) else (if p0 < p1 then p0 else (f5_9 p0 p1)))
def s5_0 (p0 : Int32) (p1 : Int32) : Prop := ((p0 < (0 : Int32) → s5_9 p0 p1) ∧ (¬ (p0 < (0 : Int32)) → ((p0 < p1 → True) ∧ (¬ (p0 < p1) → s5_9 p0 p1))))
set_option maxRecDepth 65536 in
set_option maxHeartbeats 40000000 in
theorem b5_0 (C : own_Cx p s m meth c Z ag jdk_41_method_11_code 3 "jdk/internal/util/Preconditions" (some .int) "checkIndex") {T : State} {h : Heap} (p0 : Int32) (p1 : Int32) (o2 : Option Addr) (X : Stand p l e R5 s m args below meth c T [] 0 0) (eT : T.heap = h) (hs : s5_0 p0 p1) (hK : K (some (.int (f5_0 p0 p1))) h []) : own_Go p e below (own_Q s K cc5 ss5) T (mkF m 0 #[.val (.int p0), .val (.int p1), .val (own_rv o2)] []) := by
  obtain ⟨hx, hZ, hw, hby, hml, hown, hret, hlk, hnm⟩ := id C
  unfold f5_0 at hK
  unfold s5_0 at hs
  refine o_iloadN (pc' := 1) X hx (hb hby d5_0) rfl rfl ?_
  refine o_ifP (P := p0 < (0 : Int32)) (pc1 := 9) (pc2 := 4) X hx XT.i0_lt_t XT.i0_lt_f (hb hby d5_1) (by decide) (by decide) rfl (fun c1 => ?_) (fun c1 => ?_)
  · rw [if_pos c1] at hK
    exact b5_9 C p0 p1 o2 X eT (hs.1 c1) hK
  · rw [if_neg c1] at hK
    refine o_iloadN (pc' := 5) X hx (hb hby d5_4) rfl rfl ?_
    refine o_iloadN (pc' := 6) X hx (hb hby d5_5) rfl rfl ?_
    refine o_icP (P := p0 < p1) (pc1 := 16) (pc2 := 9) X hx XT.ii_lt_t XT.ii_lt_f (hb hby d5_6) (by decide) (by decide) rfl (fun c2 => ?_) (fun c2 => ?_)
    · rw [if_pos c2] at hK
      refine o_iloadN (pc' := 17) X hx (hb hby d5_16) rfl rfl ?_
      exact o_retI X hx hret hlk (hb hby d5_17) (by decide) (by decide) eT (hK)
    · rw [if_neg c2] at hK
      exact b5_9 C p0 p1 o2 X eT ((hs.2 c1).2 c2) hK

end Body5
theorem pn_Preconditions : plainName "jdk/internal/util/Preconditions" = true := by first | (simp [plainName, overriddenIn]; done) | decide +kernel
theorem ef_5 (m : MethodId) (p0 : Int32) (p1 : Int32) (o2 : Option Addr) : entryFrame m #[(.int p0), (.int p1), (own_rv o2)] 3 = mkF m 0 #[.val (.int p0), .val (.int p1), .val (own_rv o2)] [] := by cases o2 <;> first | (simp [entryFrame, mkF, argsToLocals, Value.category, own_rv]; done) | rfl
set_option maxRecDepth 65536 in
set_option maxHeartbeats 40000000 in
theorem rm5 (l : Launch) (Z : State) (ag : Array Value) (hw : ∀ d ∈ tables_1, d.before ag Z = true) (ws : List Jvm.Cond) (p0 : Int32) (p1 : Int32) (o2 : Option Addr) (h0 : Heap) (hs : s5_0 p0 p1) :
    MetFree l (⟨"jdk/internal/util/Preconditions", "checkIndex", "(IILjava/util/function/BiFunction;)I"⟩ : MethodName) (head1 (Jvm.Cond.code (⟨"jdk/internal/util/Preconditions", "checkIndex", "(IILjava/util/function/BiFunction;)I"⟩ : MethodName) jdk_41_method_11_code 3 (some .int) :: ws) R5) (fun a U => a = #[(.int p0), (.int p1), (own_rv o2)] ∧ Z.Warmed39 U.vm ∧ U.heap = h0) (fun _ _ _ _ _ => True) (fun _ U o U' => ∃ v L, o = .returned v ∧ own_KP (some (.int (f5_0 p0 p1))) h0 v U'.heap L ∧ FrameEnd U o U' L R5.cells R5.slots) := by
  refine MetFree.of_bodySF (plainFor_of_name pn_Preconditions) hisR ?_
  intro p e s m args below meth c s₁ Bd hml0 hP hK
  obtain ⟨rfl, hZ, hh⟩ := hP
  have C : own_Cx p s m meth c Z ag jdk_41_method_11_code 3 "jdk/internal/util/Preconditions" (some .int) "checkIndex" := ⟨Bd.exec, hZ, hw, Bd.bytes, hml0, findClass_of_methodNamed Bd.named, Bd.returns, Bd.notSynchronized, (name_of_methodNamed Bd.named Bd.method).1⟩
  have X0 : Stand p l e R5 s m #[(.int p0), (.int p1), (own_rv o2)] below meth c s₁ [] 0 0 := Stand.of_body Bd
  have e0 : s₁.heap = h0 := by rw [← hh, Bd.state]; rfl
  rw [ef_5]
  exact b5_0 (K := own_KP (some (.int (f5_0 p0 p1))) h0) C p0 p1 o2 X0 e0 hs ⟨rfl, rfl, rfl⟩

theorem d4_0 : decode jdk_42_method_155_code 0 = .ok (.iload_n 0, 1) := by decide +kernel
theorem d4_1 : decode jdk_42_method_155_code 1 = .ok (.iload_n 1, 1) := by decide +kernel
theorem d4_2 : decode jdk_42_method_155_code 2 = .ok (.getstatic 1053, 3) := by decide +kernel
theorem d4_5 : decode jdk_42_method_155_code 5 = .ok (.invokestatic 1059, 3) := by decide +kernel
theorem d4_8 : decode jdk_42_method_155_code 8 = .ok (.pop, 1) := by decide +kernel
theorem d4_9 : decode jdk_42_method_155_code 9 = .ok (.return_, 1) := by decide +kernel
section Body4
variable {p : Program} {l : Launch} {e : Env} {s : State} {m : MethodId} {args : Array Value} {below : List Frame} {meth : Method} {c : Code} {Z : State} {ag : Array Value} {K : Option Value → Heap → List Loc → Prop}
abbrev R4 : Room := { frames := 1, cells := 0, slots := 0, locals := 14 }
abbrev cc4 : Nat := 0
abbrev ss4 : Nat := 0
def s4_0 (p0 : Int32) (p1 : Int32) : Prop := ((s5_0 p0 p1) ∧ True)
set_option maxRecDepth 65536 in
set_option maxHeartbeats 40000000 in
theorem b4_0 (C : own_Cx p s m meth c Z ag jdk_42_method_155_code 2 "java/lang/String" none "checkIndex") {T : State} {h : Heap} (k_SIOOBE_FORMATTER : Option Addr) (p0 : Int32) (p1 : Int32) (X : Stand p l e R4 s m args below meth c T [] 0 0) (eT : T.heap = h) (S_SIOOBE_FORMATTER : Sta Z h "jdk/internal/util/Preconditions" "SIOOBE_FORMATTER" "Ljava/util/function/BiFunction;" (own_rv k_SIOOBE_FORMATTER)) (hs : s4_0 p0 p1) (hK : K none h []) : own_Go p e below (own_Q s K cc4 ss4) T (mkF m 0 #[.val (.int p0), .val (.int p1)] []) := by
  obtain ⟨hx, hZ, hw, hby, hml, hown, hret, hlk, hnm⟩ := id C
  unfold s4_0 at hs
  refine o_iloadN (pc' := 1) X hx (hb hby d4_0) rfl rfl ?_
  refine o_iloadN (pc' := 2) X hx (hb hby d4_1) rfl rfl ?_
  refine o_getS (pc' := 5) X hx hZ eT hown (hw _ (List.mem_of_getElem? (i := 29) rfl)) S_SIOOBE_FORMATTER (hb hby d4_2) rfl fun T3 X3 e3 => ?_
  refine o_callP (W := 0) (pc' := 8) (argsL := [(.int p0), (.int p1), (own_rv k_SIOOBE_FORMATTER)]) (rest := []) (st' := [(.int (f5_0 p0 p1))]) X3 hx hZ e3 hown (hw _ (List.mem_of_getElem? (i := 31) rfl)) (hw _ (List.mem_of_getElem? (i := 32) rfl)) (hw _ (List.mem_of_getElem? (i := 30) rfl)) (hw _ (List.mem_of_getElem? (i := 33) rfl)) (by decide) (rm5 l Z ag hw [] p0 p1 k_SIOOBE_FORMATTER h hs.1) (by decide) (by decide) (by rw [hml]; rfl) pd_0 rfl rfl rfl rfl (hb hby d4_5) rfl rfl rfl (by decide) (by decide) rfl fun T4 X4 e4 => ?_
  refine o_pop (pc' := 9) X4 hx (hb hby d4_8) rfl rfl ?_
  exact o_retV X4 hx hret hlk (hb hby d4_9) (by decide) (by decide) e4 (hK)

end Body4
theorem pn_String : plainName "java/lang/String" = true := by first | (simp [plainName, overriddenIn]; done) | decide +kernel
theorem ef_4 (m : MethodId) (p0 : Int32) (p1 : Int32) : entryFrame m #[(.int p0), (.int p1)] 2 = mkF m 0 #[.val (.int p0), .val (.int p1)] [] := by first | (simp [entryFrame, mkF, argsToLocals, Value.category]; done) | rfl
set_option maxRecDepth 65536 in
set_option maxHeartbeats 40000000 in
theorem rm4 (l : Launch) (Z : State) (ag : Array Value) (hw : ∀ d ∈ tables_1, d.before ag Z = true) (ws : List Jvm.Cond) (k_SIOOBE_FORMATTER : Option Addr) (p0 : Int32) (p1 : Int32) (h0 : Heap) (S_SIOOBE_FORMATTER : Sta Z h0 "jdk/internal/util/Preconditions" "SIOOBE_FORMATTER" "Ljava/util/function/BiFunction;" (own_rv k_SIOOBE_FORMATTER)) (hs : s4_0 p0 p1) :
    MetFree l (⟨"java/lang/String", "checkIndex", "(II)V"⟩ : MethodName) (head1 (Jvm.Cond.code (⟨"java/lang/String", "checkIndex", "(II)V"⟩ : MethodName) jdk_42_method_155_code 2 none :: ws) R4) (fun a U => a = #[(.int p0), (.int p1)] ∧ Z.Warmed39 U.vm ∧ U.heap = h0) (fun _ _ _ _ _ => True) (fun _ U o U' => ∃ v L, o = .returned v ∧ own_KP none h0 v U'.heap L ∧ FrameEnd U o U' L R4.cells R4.slots) := by
  refine MetFree.of_bodySF (plainFor_of_name pn_String) hisR ?_
  intro p e s m args below meth c s₁ Bd hml0 hP hK
  obtain ⟨rfl, hZ, hh⟩ := hP
  have C : own_Cx p s m meth c Z ag jdk_42_method_155_code 2 "java/lang/String" none "checkIndex" := ⟨Bd.exec, hZ, hw, Bd.bytes, hml0, findClass_of_methodNamed Bd.named, Bd.returns, Bd.notSynchronized, (name_of_methodNamed Bd.named Bd.method).1⟩
  have X0 : Stand p l e R4 s m #[(.int p0), (.int p1)] below meth c s₁ [] 0 0 := Stand.of_body Bd
  have e0 : s₁.heap = h0 := by rw [← hh, Bd.state]; rfl
  rw [ef_4]
  exact b4_0 (K := own_KP none h0) C k_SIOOBE_FORMATTER p0 p1 X0 e0 S_SIOOBE_FORMATTER hs ⟨rfl, rfl, rfl⟩

theorem d3_0 : decode jdk_43_method_2_code 0 = .ok (.iload_n 1, 1) := by decide +kernel
theorem d3_1 : decode jdk_43_method_2_code 1 = .ok (.aload_n 0, 1) := by decide +kernel
theorem d3_2 : decode jdk_43_method_2_code 2 = .ok (.arraylength, 1) := by decide +kernel
theorem d3_3 : decode jdk_43_method_2_code 3 = .ok (.invokestatic 9, 3) := by decide +kernel
theorem d3_6 : decode jdk_43_method_2_code 6 = .ok (.aload_n 0, 1) := by decide +kernel
theorem d3_7 : decode jdk_43_method_2_code 7 = .ok (.iload_n 1, 1) := by decide +kernel
theorem d3_8 : decode jdk_43_method_2_code 8 = .ok (.baload, 1) := by decide +kernel
theorem d3_9 : decode jdk_43_method_2_code 9 = .ok (.sipush 255, 3) := by decide +kernel
theorem d3_12 : decode jdk_43_method_2_code 12 = .ok (.iand, 1) := by decide +kernel
theorem d3_13 : decode jdk_43_method_2_code 13 = .ok (.i2c, 1) := by decide +kernel
theorem d3_14 : decode jdk_43_method_2_code 14 = .ok (.ireturn, 1) := by decide +kernel
section Body3
variable {p : Program} {l : Launch} {e : Env} {s : State} {m : MethodId} {args : Array Value} {below : List Frame} {meth : Method} {c : Code} {Z : State} {ag : Array Value} {K : Option Value → Heap → List Loc → Prop}
abbrev R3 : Room := { frames := 2, cells := 0, slots := 0, locals := 27 }
abbrev cc3 : Nat := 0
abbrev ss3 : Nat := 0
def f3_0 (v0 : List Int32) (p1 : Int32) : Int32 := (own_i2c (own_i2c ((own_get v0 p1) &&& (255 : Int32))))
def s3_0 (v0 : List Int32) (p1 : Int32) : Prop := ((s4_0 p1 (own_len v0.length)) ∧ own_in v0.length p1 ∧ True)
set_option maxRecDepth 65536 in
set_option maxHeartbeats 40000000 in
theorem b3_0 (C : own_Cx p s m meth c Z ag jdk_43_method_2_code 2 "java/lang/StringLatin1" (some .char) "charAt") {T : State} {h : Heap} (k_SIOOBE_FORMATTER : Option Addr) (a0 : Addr) (v0 : List Int32) (p1 : Int32) (X : Stand p l e R3 s m args below meth c T [] 0 0) (eT : T.heap = h) (Aa0 : own_AI Z h a0 .byte v0) (S_SIOOBE_FORMATTER : Sta Z h "jdk/internal/util/Preconditions" "SIOOBE_FORMATTER" "Ljava/util/function/BiFunction;" (own_rv k_SIOOBE_FORMATTER)) (hs : s3_0 v0 p1) (hK : K (some (.int (f3_0 v0 p1))) h []) : own_Go p e below (own_Q s K cc3 ss3) T (mkF m 0 #[.val (.ref a0), .val (.int p1)] []) := by
  obtain ⟨hx, hZ, hw, hby, hml, hown, hret, hlk, hnm⟩ := id C
  unfold f3_0 at hK
  unfold s3_0 at hs
  refine o_iloadN (pc' := 1) X hx (hb hby d3_0) rfl rfl ?_
  refine o_aloadN (pc' := 2) X hx (hb hby d3_1) rfl rfl rfl ?_
  refine o_alenI (pc' := 3)  X hx hZ eT Aa0 (hb hby d3_2) rfl rfl ?_
  refine o_callP (W := 0) (pc' := 6) (argsL := [(.int p1), (.int (own_len v0.length))]) (rest := []) (st' := []) X hx hZ eT hown (hw _ (List.mem_of_getElem? (i := 26) rfl)) (hw _ (List.mem_of_getElem? (i := 27) rfl)) (hw _ (List.mem_of_getElem? (i := 1) rfl)) (hw _ (List.mem_of_getElem? (i := 28) rfl)) (by decide) (rm4 l Z ag hw [] k_SIOOBE_FORMATTER p1 (own_len v0.length) h S_SIOOBE_FORMATTER hs.1) (by decide) (by decide) (by rw [hml]; rfl) pd_1 rfl rfl rfl rfl (hb hby d3_3) rfl rfl rfl (by decide) (by decide) rfl fun T5 X5 e5 => ?_
  refine o_aloadN (pc' := 7) X5 hx (hb hby d3_6) rfl rfl rfl ?_
  refine o_iloadN (pc' := 8) X5 hx (hb hby d3_7) rfl rfl ?_
  refine o_baload (pc' := 9)  X5 hx hZ e5 Aa0 hs.2.1 (hb hby d3_8) rfl rfl ?_
  refine o_sipush (pc' := 12) (x := (255 : Int32)) X5 hx (hb hby d3_9) (by decide) rfl ?_
  refine o_iand (pc' := 13)  X5 hx (hb hby d3_12) rfl rfl ?_
  refine o_i2c (pc' := 14)  X5 hx (hb hby d3_13) rfl rfl ?_
  exact o_retN X5 hx (t := .char) hret (by simp) hlk (hb hby d3_14) (by decide) (by decide) e5 (hK)

end Body3
theorem pn_StringLatin1 : plainName "java/lang/StringLatin1" = true := by first | (simp [plainName, overriddenIn]; done) | decide +kernel
theorem ef_3 (m : MethodId) (a0 : Addr) (p1 : Int32) : entryFrame m #[(.ref a0), (.int p1)] 2 = mkF m 0 #[.val (.ref a0), .val (.int p1)] [] := by first | (simp [entryFrame, mkF, argsToLocals, Value.category]; done) | rfl
set_option maxRecDepth 65536 in
set_option maxHeartbeats 40000000 in
theorem rm3 (l : Launch) (Z : State) (ag : Array Value) (hw : ∀ d ∈ tables_1, d.before ag Z = true) (ws : List Jvm.Cond) (k_SIOOBE_FORMATTER : Option Addr) (a0 : Addr) (v0 : List Int32) (p1 : Int32) (h0 : Heap) (Aa0 : own_AI Z h0 a0 .byte v0) (S_SIOOBE_FORMATTER : Sta Z h0 "jdk/internal/util/Preconditions" "SIOOBE_FORMATTER" "Ljava/util/function/BiFunction;" (own_rv k_SIOOBE_FORMATTER)) (hs : s3_0 v0 p1) :
    MetFree l (⟨"java/lang/StringLatin1", "charAt", "([BI)C"⟩ : MethodName) (head1 (Jvm.Cond.code (⟨"java/lang/StringLatin1", "charAt", "([BI)C"⟩ : MethodName) jdk_43_method_2_code 2 (some .char) :: ws) R3) (fun a U => a = #[(.ref a0), (.int p1)] ∧ Z.Warmed39 U.vm ∧ U.heap = h0) (fun _ _ _ _ _ => True) (fun _ U o U' => ∃ v L, o = .returned v ∧ own_KP (some (.int (f3_0 v0 p1))) h0 v U'.heap L ∧ FrameEnd U o U' L R3.cells R3.slots) := by
  refine MetFree.of_bodySF (plainFor_of_name pn_StringLatin1) hisR ?_
  intro p e s m args below meth c s₁ Bd hml0 hP hK
  obtain ⟨rfl, hZ, hh⟩ := hP
  have C : own_Cx p s m meth c Z ag jdk_43_method_2_code 2 "java/lang/StringLatin1" (some .char) "charAt" := ⟨Bd.exec, hZ, hw, Bd.bytes, hml0, findClass_of_methodNamed Bd.named, Bd.returns, Bd.notSynchronized, (name_of_methodNamed Bd.named Bd.method).1⟩
  have X0 : Stand p l e R3 s m #[(.ref a0), (.int p1)] below meth c s₁ [] 0 0 := Stand.of_body Bd
  have e0 : s₁.heap = h0 := by rw [← hh, Bd.state]; rfl
  rw [ef_3]
  exact b3_0 (K := own_KP (some (.int (f3_0 v0 p1))) h0) C k_SIOOBE_FORMATTER a0 v0 p1 X0 e0 Aa0 S_SIOOBE_FORMATTER hs ⟨rfl, rfl, rfl⟩

theorem d2_0 : decode jdk_42_method_154_code 0 = .ok (.getstatic 38, 3) := by decide +kernel
theorem d2_3 : decode jdk_42_method_154_code 3 = .ok (.ifCond .eq 14, 3) := by decide +kernel
theorem d2_6 : decode jdk_42_method_154_code 6 = .ok (.aload_n 0, 1) := by decide +kernel
theorem d2_7 : decode jdk_42_method_154_code 7 = .ok (.getfield 15, 3) := by decide +kernel
theorem d2_10 : decode jdk_42_method_154_code 10 = .ok (.ifCond .ne 7, 3) := by decide +kernel
theorem d2_13 : decode jdk_42_method_154_code 13 = .ok (.iconst 1, 1) := by decide +kernel
theorem d2_14 : decode jdk_42_method_154_code 14 = .ok (.goto 4, 3) := by decide +kernel
theorem d2_17 : decode jdk_42_method_154_code 17 = .ok (.iconst 0, 1) := by decide +kernel
theorem d2_18 : decode jdk_42_method_154_code 18 = .ok (.ireturn, 1) := by decide +kernel
section Body2
variable {p : Program} {l : Launch} {e : Env} {s : State} {m : MethodId} {args : Array Value} {below : List Frame} {meth : Method} {c : Code} {Z : State} {ag : Array Value} {K : Option Value → Heap → List Loc → Prop}
abbrev R2 : Room := { frames := 0, cells := 0, slots := 0, locals := 0 }
abbrev cc2 : Nat := 0
abbrev ss2 : Nat := 0
def f2_18 (k_COMPACT_STRINGS : Int32) : Int32 := (0 : Int32)
set_option maxRecDepth 65536 in
set_option maxHeartbeats 40000000 in
theorem b2_18 (C : own_Cx p s m meth c Z ag jdk_42_method_154_code 1 "java/lang/String" (some .boolean) "isLatin1") {T : State} {h : Heap} {z0 : Slot} (k_COMPACT_STRINGS : Int32) (X : Stand p l e R2 s m args below meth c T [] 0 0) (eT : T.heap = h) (S_COMPACT_STRINGS : Sta Z h "java/lang/String" "COMPACT_STRINGS" "Z" (.int k_COMPACT_STRINGS)) (hz0 : One z0) (hK : K (some (.int (f2_18 k_COMPACT_STRINGS))) h []) : own_Go p e below (own_Q s K cc2 ss2) T (mkF m 18 #[z0] [(.int (0 : Int32))]) := by
  obtain ⟨hx, hZ, hw, hby, hml, hown, hret, hlk, hnm⟩ := id C
  unfold f2_18 at hK
  exact o_retN X hx (t := .boolean) hret (by simp) hlk (hb hby d2_18) (by decide) (by decide) eT (hK)

def f2_17 (k_COMPACT_STRINGS : Int32) : Int32 := (f2_18 k_COMPACT_STRINGS)
set_option maxRecDepth 65536 in
set_option maxHeartbeats 40000000 in
theorem b2_17 (C : own_Cx p s m meth c Z ag jdk_42_method_154_code 1 "java/lang/String" (some .boolean) "isLatin1") {T : State} {h : Heap} {z0 : Slot} (k_COMPACT_STRINGS : Int32) (X : Stand p l e R2 s m args below meth c T [] 0 0) (eT : T.heap = h) (S_COMPACT_STRINGS : Sta Z h "java/lang/String" "COMPACT_STRINGS" "Z" (.int k_COMPACT_STRINGS)) (hz0 : One z0) (hK : K (some (.int (f2_17 k_COMPACT_STRINGS))) h []) : own_Go p e below (own_Q s K cc2 ss2) T (mkF m 17 #[z0] []) := by
  obtain ⟨hx, hZ, hw, hby, hml, hown, hret, hlk, hnm⟩ := id C
  unfold f2_17 at hK
  refine o_iconst (pc' := 18) (x := (0 : Int32)) X hx (hb hby d2_17) (by decide) rfl ?_
  exact b2_18 C k_COMPACT_STRINGS X eT S_COMPACT_STRINGS hz0 hK

def f2_18_3 (k_COMPACT_STRINGS : Int32) : Int32 := (1 : Int32)
set_option maxRecDepth 65536 in
set_option maxHeartbeats 40000000 in
theorem b2_18_3 (C : own_Cx p s m meth c Z ag jdk_42_method_154_code 1 "java/lang/String" (some .boolean) "isLatin1") {T : State} {h : Heap} {z0 : Slot} (k_COMPACT_STRINGS : Int32) (X : Stand p l e R2 s m args below meth c T [] 0 0) (eT : T.heap = h) (S_COMPACT_STRINGS : Sta Z h "java/lang/String" "COMPACT_STRINGS" "Z" (.int k_COMPACT_STRINGS)) (hz0 : One z0) (hK : K (some (.int (f2_18_3 k_COMPACT_STRINGS))) h []) : own_Go p e below (own_Q s K cc2 ss2) T (mkF m 18 #[z0] [(.int (1 : Int32))]) := by
  obtain ⟨hx, hZ, hw, hby, hml, hown, hret, hlk, hnm⟩ := id C
  unfold f2_18_3 at hK
  exact o_retN X hx (t := .boolean) hret (by simp) hlk (hb hby d2_18) (by decide) (by decide) eT (hK)

def f2_0 (k_COMPACT_STRINGS : Int32) (w0_coder : Int32) : Int32 := (if k_COMPACT_STRINGS = (0 : Int32) then (f2_17 k_COMPACT_STRINGS) else (if w0_coder = (0 : Int32) then (f2_18_3 k_COMPACT_STRINGS) else (f2_17 k_COMPACT_STRINGS)))
set_option maxRecDepth 65536 in
set_option maxHeartbeats 40000000 in
theorem b2_0 (C : own_Cx p s m meth c Z ag jdk_42_method_154_code 1 "java/lang/String" (some .boolean) "isLatin1") {T : State} {h : Heap} (k_COMPACT_STRINGS : Int32) (a0 : Addr) (w0_coder : Int32) (X : Stand p l e R2 s m args below meth c T [] 0 0) (eT : T.heap = h) (S_COMPACT_STRINGS : Sta Z h "java/lang/String" "COMPACT_STRINGS" "Z" (.int k_COMPACT_STRINGS)) (Ea0 : Exa Z h a0 "java/lang/String") (Fa0_coder : Fld Z h a0 "java/lang/String" "coder" "B" (.int w0_coder)) (hK : K (some (.int (f2_0 k_COMPACT_STRINGS w0_coder))) h []) : own_Go p e below (own_Q s K cc2 ss2) T (mkF m 0 #[.val (.ref a0)] []) := by
  obtain ⟨hx, hZ, hw, hby, hml, hown, hret, hlk, hnm⟩ := id C
  unfold f2_0 at hK
  refine o_getS (pc' := 3) X hx hZ eT hown (hw _ (List.mem_of_getElem? (i := 19) rfl)) S_COMPACT_STRINGS (hb hby d2_0) rfl fun T6 X6 e6 => ?_
  refine o_ifP (P := k_COMPACT_STRINGS = (0 : Int32)) (pc1 := 17) (pc2 := 6) X6 hx XT.i0_eq_t XT.i0_eq_f (hb hby d2_3) (by decide) (by decide) rfl (fun c7 => ?_) (fun c7 => ?_)
  · rw [if_pos c7] at hK
    exact b2_17 C k_COMPACT_STRINGS X6 e6 S_COMPACT_STRINGS (One.val rfl) hK
  · rw [if_neg c7] at hK
    refine o_aloadN (pc' := 7) X6 hx (hb hby d2_6) rfl rfl rfl ?_
    refine o_getF (pc' := 10) X6 hx hZ e6 hown (hw _ (List.mem_of_getElem? (i := 20) rfl)) Fa0_coder (hb hby d2_7) rfl fun T8 X8 e8 => ?_
    refine o_ifN (P := w0_coder = (0 : Int32)) (pc1 := 17) (pc2 := 13) X8 hx XT.i0_ne_f XT.i0_ne_t (hb hby d2_10) (by decide) (by decide) rfl (fun c9 => ?_) (fun c9 => ?_)
    · rw [if_neg c9] at hK
      exact b2_17 C k_COMPACT_STRINGS X8 e8 S_COMPACT_STRINGS (One.val rfl) hK
    · rw [if_pos c9] at hK
      refine o_iconst (pc' := 14) (x := (1 : Int32)) X8 hx (hb hby d2_13) (by decide) rfl ?_
      refine o_goto (pc' := 18) X8 hx (hb hby d2_14) (by decide) (by decide) ?_
      exact b2_18_3 C k_COMPACT_STRINGS X8 e8 S_COMPACT_STRINGS (One.val rfl) hK

end Body2
theorem ef_2 (m : MethodId) (a0 : Addr) : entryFrame m #[(.ref a0)] 1 = mkF m 0 #[.val (.ref a0)] [] := by first | (simp [entryFrame, mkF, argsToLocals, Value.category]; done) | rfl
set_option maxRecDepth 65536 in
set_option maxHeartbeats 40000000 in
theorem rm2 (l : Launch) (Z : State) (ag : Array Value) (hw : ∀ d ∈ tables_1, d.before ag Z = true) (ws : List Jvm.Cond) (k_COMPACT_STRINGS : Int32) (a0 : Addr) (w0_coder : Int32) (h0 : Heap) (S_COMPACT_STRINGS : Sta Z h0 "java/lang/String" "COMPACT_STRINGS" "Z" (.int k_COMPACT_STRINGS)) (Ea0 : Exa Z h0 a0 "java/lang/String") (Fa0_coder : Fld Z h0 a0 "java/lang/String" "coder" "B" (.int w0_coder)) :
    MetFree l (⟨"java/lang/String", "isLatin1", "()Z"⟩ : MethodName) (head1 (Jvm.Cond.code (⟨"java/lang/String", "isLatin1", "()Z"⟩ : MethodName) jdk_42_method_154_code 1 (some .boolean) :: ws) R2) (fun a U => a = #[(.ref a0)] ∧ Z.Warmed39 U.vm ∧ U.heap = h0) (fun _ _ _ _ _ => True) (fun _ U o U' => ∃ v L, o = .returned v ∧ own_KP (some (.int (f2_0 k_COMPACT_STRINGS w0_coder))) h0 v U'.heap L ∧ FrameEnd U o U' L R2.cells R2.slots) := by
  refine MetFree.of_bodySF (plainFor_of_name pn_String) hisR ?_
  intro p e s m args below meth c s₁ Bd hml0 hP hK
  obtain ⟨rfl, hZ, hh⟩ := hP
  have C : own_Cx p s m meth c Z ag jdk_42_method_154_code 1 "java/lang/String" (some .boolean) "isLatin1" := ⟨Bd.exec, hZ, hw, Bd.bytes, hml0, findClass_of_methodNamed Bd.named, Bd.returns, Bd.notSynchronized, (name_of_methodNamed Bd.named Bd.method).1⟩
  have X0 : Stand p l e R2 s m #[(.ref a0)] below meth c s₁ [] 0 0 := Stand.of_body Bd
  have e0 : s₁.heap = h0 := by rw [← hh, Bd.state]; rfl
  rw [ef_2]
  exact b2_0 (K := own_KP (some (.int (f2_0 k_COMPACT_STRINGS w0_coder))) h0) C k_COMPACT_STRINGS a0 w0_coder X0 e0 S_COMPACT_STRINGS Ea0 Fa0_coder ⟨rfl, rfl, rfl⟩

theorem d1_0 : decode jdk_42_method_56_code 0 = .ok (.aload_n 0, 1) := by decide +kernel
theorem d1_1 : decode jdk_42_method_56_code 1 = .ok (.invokevirtual 492, 3) := by decide +kernel
theorem d1_4 : decode jdk_42_method_56_code 4 = .ok (.ifCond .eq 12, 3) := by decide +kernel
theorem d1_7 : decode jdk_42_method_56_code 7 = .ok (.aload_n 0, 1) := by decide +kernel
theorem d1_8 : decode jdk_42_method_56_code 8 = .ok (.getfield 9, 3) := by decide +kernel
theorem d1_11 : decode jdk_42_method_56_code 11 = .ok (.iload_n 1, 1) := by decide +kernel
theorem d1_12 : decode jdk_42_method_56_code 12 = .ok (.invokestatic 495, 3) := by decide +kernel
theorem d1_15 : decode jdk_42_method_56_code 15 = .ok (.ireturn, 1) := by decide +kernel
theorem d1_16 : decode jdk_42_method_56_code 16 = .ok (.aload_n 0, 1) := by decide +kernel
theorem d1_17 : decode jdk_42_method_56_code 17 = .ok (.getfield 9, 3) := by decide +kernel
theorem d1_20 : decode jdk_42_method_56_code 20 = .ok (.iload_n 1, 1) := by decide +kernel
theorem d1_21 : decode jdk_42_method_56_code 21 = .ok (.invokestatic 498, 3) := by decide +kernel
theorem d1_24 : decode jdk_42_method_56_code 24 = .ok (.ireturn, 1) := by decide +kernel
section Body1
variable {p : Program} {l : Launch} {e : Env} {s : State} {m : MethodId} {args : Array Value} {below : List Frame} {meth : Method} {c : Code} {Z : State} {ag : Array Value} {K : Option Value → Heap → List Loc → Prop}
abbrev R1 : Room := { frames := 3, cells := 0, slots := 0, locals := 40 }
abbrev cc1 : Nat := 0
abbrev ss1 : Nat := 0
def f1_0 (k_COMPACT_STRINGS : Int32) (w0_coder : Int32) (v_value : List Int32) (p1 : Int32) : Int32 := (if (f2_0 k_COMPACT_STRINGS w0_coder) = (0 : Int32) then 0 else (own_i2c (f3_0 v_value p1)))
def s1_0 (k_COMPACT_STRINGS : Int32) (w0_coder : Int32) (v_value : List Int32) (p1 : Int32) : Prop := (((f2_0 k_COMPACT_STRINGS w0_coder) = (0 : Int32) → False) ∧ (¬ ((f2_0 k_COMPACT_STRINGS w0_coder) = (0 : Int32)) → ((s3_0 v_value p1) ∧ True)))
set_option maxRecDepth 65536 in
set_option maxHeartbeats 40000000 in
theorem b1_0 (C : own_Cx p s m meth c Z ag jdk_42_method_56_code 2 "java/lang/String" (some .char) "charAt") {T : State} {h : Heap} (k_COMPACT_STRINGS : Int32) (k_SIOOBE_FORMATTER : Option Addr) (a0 : Addr) (w0_coder : Int32) (r_value : Addr) (v_value : List Int32) (p1 : Int32) (X : Stand p l e R1 s m args below meth c T [] 0 0) (eT : T.heap = h) (Ar_value : own_AI Z h r_value .byte v_value) (S_COMPACT_STRINGS : Sta Z h "java/lang/String" "COMPACT_STRINGS" "Z" (.int k_COMPACT_STRINGS)) (S_SIOOBE_FORMATTER : Sta Z h "jdk/internal/util/Preconditions" "SIOOBE_FORMATTER" "Ljava/util/function/BiFunction;" (own_rv k_SIOOBE_FORMATTER)) (Ea0 : Exa Z h a0 "java/lang/String") (Fa0_coder : Fld Z h a0 "java/lang/String" "coder" "B" (.int w0_coder)) (Fa0_value : Fld Z h a0 "java/lang/String" "value" "[B" (.ref r_value)) (hs : s1_0 k_COMPACT_STRINGS w0_coder v_value p1) (hK : K (some (.int (f1_0 k_COMPACT_STRINGS w0_coder v_value p1))) h []) : own_Go p e below (own_Q s K cc1 ss1) T (mkF m 0 #[.val (.ref a0), .val (.int p1)] []) := by
  obtain ⟨hx, hZ, hw, hby, hml, hown, hret, hlk, hnm⟩ := id C
  unfold f1_0 at hK
  unfold s1_0 at hs
  refine o_aloadN (pc' := 1) X hx (hb hby d1_0) rfl rfl rfl ?_
  refine o_callV (W := 0) (pc' := 4) (a := a0) (argsL := []) (rest := []) X hx hZ eT hown (hw _ (List.mem_of_getElem? (i := 14) rfl)) (hw _ (List.mem_of_getElem? (i := 15) rfl)) (hw _ (List.mem_of_getElem? (i := 17) rfl)) (hw _ (List.mem_of_getElem? (i := 16) rfl)) (hw _ (List.mem_of_getElem? (i := 1) rfl)) (hw _ (List.mem_of_getElem? (i := 18) rfl)) (by decide) (rm2 l Z ag hw [] k_COMPACT_STRINGS a0 w0_coder h S_COMPACT_STRINGS Ea0 Fa0_coder) (by decide) (by decide) (by rw [hml]; rfl) Ea0 pd_2 rfl rfl rfl rfl (hb hby d1_1) rfl (by decide) (by decide) fun v10 T10 L10 X10 k10 => ?_
  obtain ⟨rfl, e10, rfl⟩ := k10
  have Y10 : Stand p l e R1 s m args below meth c T10 [] 0 0 := own_nil X10
  show own_Go p e below _ T10 (mkF m 4 #[.val (.ref a0), .val (.int p1)] [(.int (f2_0 k_COMPACT_STRINGS w0_coder))])
  refine o_ifP (P := (f2_0 k_COMPACT_STRINGS w0_coder) = (0 : Int32)) (pc1 := 16) (pc2 := 7) Y10 hx XT.i0_eq_t XT.i0_eq_f (hb hby d1_4) (by decide) (by decide) rfl (fun c11 => ?_) (fun c11 => ?_)
  · rw [if_pos c11] at hK
    refine o_aloadN (pc' := 17) Y10 hx (hb hby d1_16) rfl rfl rfl ?_
    refine o_getF (pc' := 20) Y10 hx hZ e10 hown (hw _ (List.mem_of_getElem? (i := 21) rfl)) Fa0_value (hb hby d1_17) rfl fun T12 X12 e12 => ?_
    refine o_iloadN (pc' := 21) X12 hx (hb hby d1_20) rfl rfl ?_
    exact False.elim (hs.1 c11)
  · rw [if_neg c11] at hK
    refine o_aloadN (pc' := 8) Y10 hx (hb hby d1_7) rfl rfl rfl ?_
    refine o_getF (pc' := 11) Y10 hx hZ e10 hown (hw _ (List.mem_of_getElem? (i := 21) rfl)) Fa0_value (hb hby d1_8) rfl fun T13 X13 e13 => ?_
    refine o_iloadN (pc' := 12) X13 hx (hb hby d1_11) rfl rfl ?_
    refine o_callP (W := 0) (pc' := 15) (argsL := [(.ref r_value), (.int p1)]) (rest := []) (st' := [(.int (f3_0 v_value p1))]) X13 hx hZ e13 hown (hw _ (List.mem_of_getElem? (i := 22) rfl)) (hw _ (List.mem_of_getElem? (i := 23) rfl)) (hw _ (List.mem_of_getElem? (i := 24) rfl)) (hw _ (List.mem_of_getElem? (i := 25) rfl)) (by decide) (rm3 l Z ag hw [] k_SIOOBE_FORMATTER r_value v_value p1 h Ar_value S_SIOOBE_FORMATTER (hs.2 c11).1) (by decide) (by decide) (by rw [hml]; rfl) pd_3 rfl rfl rfl rfl (hb hby d1_12) rfl rfl rfl (by decide) (by decide) rfl fun T14 X14 e14 => ?_
    exact o_retN X14 hx (t := .char) hret (by simp) hlk (hb hby d1_15) (by decide) (by decide) e14 (hK)

end Body1
theorem ef_1 (m : MethodId) (a0 : Addr) (p1 : Int32) : entryFrame m #[(.ref a0), (.int p1)] 2 = mkF m 0 #[.val (.ref a0), .val (.int p1)] [] := by first | (simp [entryFrame, mkF, argsToLocals, Value.category]; done) | rfl
set_option maxRecDepth 65536 in
set_option maxHeartbeats 40000000 in
theorem rm1 (l : Launch) (Z : State) (ag : Array Value) (hw : ∀ d ∈ tables_1, d.before ag Z = true) (ws : List Jvm.Cond) (k_COMPACT_STRINGS : Int32) (k_SIOOBE_FORMATTER : Option Addr) (a0 : Addr) (w0_coder : Int32) (r_value : Addr) (v_value : List Int32) (p1 : Int32) (h0 : Heap) (Ar_value : own_AI Z h0 r_value .byte v_value) (S_COMPACT_STRINGS : Sta Z h0 "java/lang/String" "COMPACT_STRINGS" "Z" (.int k_COMPACT_STRINGS)) (S_SIOOBE_FORMATTER : Sta Z h0 "jdk/internal/util/Preconditions" "SIOOBE_FORMATTER" "Ljava/util/function/BiFunction;" (own_rv k_SIOOBE_FORMATTER)) (Ea0 : Exa Z h0 a0 "java/lang/String") (Fa0_coder : Fld Z h0 a0 "java/lang/String" "coder" "B" (.int w0_coder)) (Fa0_value : Fld Z h0 a0 "java/lang/String" "value" "[B" (.ref r_value)) (hs : s1_0 k_COMPACT_STRINGS w0_coder v_value p1) :
    MetFree l (⟨"java/lang/String", "charAt", "(I)C"⟩ : MethodName) (head1 (Jvm.Cond.code (⟨"java/lang/String", "charAt", "(I)C"⟩ : MethodName) jdk_42_method_56_code 2 (some .char) :: ws) R1) (fun a U => a = #[(.ref a0), (.int p1)] ∧ Z.Warmed39 U.vm ∧ U.heap = h0) (fun _ _ _ _ _ => True) (fun _ U o U' => ∃ v L, o = .returned v ∧ own_KP (some (.int (f1_0 k_COMPACT_STRINGS w0_coder v_value p1))) h0 v U'.heap L ∧ FrameEnd U o U' L R1.cells R1.slots) := by
  refine MetFree.of_bodySF (plainFor_of_name pn_String) hisR ?_
  intro p e s m args below meth c s₁ Bd hml0 hP hK
  obtain ⟨rfl, hZ, hh⟩ := hP
  have C : own_Cx p s m meth c Z ag jdk_42_method_56_code 2 "java/lang/String" (some .char) "charAt" := ⟨Bd.exec, hZ, hw, Bd.bytes, hml0, findClass_of_methodNamed Bd.named, Bd.returns, Bd.notSynchronized, (name_of_methodNamed Bd.named Bd.method).1⟩
  have X0 : Stand p l e R1 s m #[(.ref a0), (.int p1)] below meth c s₁ [] 0 0 := Stand.of_body Bd
  have e0 : s₁.heap = h0 := by rw [← hh, Bd.state]; rfl
  rw [ef_1]
  exact b1_0 (K := own_KP (some (.int (f1_0 k_COMPACT_STRINGS w0_coder v_value p1))) h0) C k_COMPACT_STRINGS k_SIOOBE_FORMATTER a0 w0_coder r_value v_value p1 X0 e0 Ar_value S_COMPACT_STRINGS S_SIOOBE_FORMATTER Ea0 Fa0_coder Fa0_value hs ⟨rfl, rfl, rfl⟩

theorem d6_0 : decode prog_42_method_4_code 0 = .ok (.iload_n 0, 1) := by decide +kernel
theorem d6_1 : decode prog_42_method_4_code 1 = .ok (.bipush 48, 2) := by decide +kernel
theorem d6_3 : decode prog_42_method_4_code 3 = .ok (.if_icmp .lt 14, 3) := by decide +kernel
theorem d6_6 : decode prog_42_method_4_code 6 = .ok (.iload_n 0, 1) := by decide +kernel
theorem d6_7 : decode prog_42_method_4_code 7 = .ok (.bipush 57, 2) := by decide +kernel
theorem d6_9 : decode prog_42_method_4_code 9 = .ok (.if_icmp .gt 8, 3) := by decide +kernel
theorem d6_12 : decode prog_42_method_4_code 12 = .ok (.iload_n 0, 1) := by decide +kernel
theorem d6_13 : decode prog_42_method_4_code 13 = .ok (.bipush 48, 2) := by decide +kernel
theorem d6_15 : decode prog_42_method_4_code 15 = .ok (.isub, 1) := by decide +kernel
theorem d6_16 : decode prog_42_method_4_code 16 = .ok (.ireturn, 1) := by decide +kernel
theorem d6_17 : decode prog_42_method_4_code 17 = .ok (.iload_n 0, 1) := by decide +kernel
theorem d6_18 : decode prog_42_method_4_code 18 = .ok (.bipush 97, 2) := by decide +kernel
theorem d6_20 : decode prog_42_method_4_code 20 = .ok (.if_icmp .lt 17, 3) := by decide +kernel
theorem d6_23 : decode prog_42_method_4_code 23 = .ok (.iload_n 0, 1) := by decide +kernel
theorem d6_24 : decode prog_42_method_4_code 24 = .ok (.bipush 102, 2) := by decide +kernel
theorem d6_26 : decode prog_42_method_4_code 26 = .ok (.if_icmp .gt 11, 3) := by decide +kernel
theorem d6_29 : decode prog_42_method_4_code 29 = .ok (.iload_n 0, 1) := by decide +kernel
theorem d6_30 : decode prog_42_method_4_code 30 = .ok (.bipush 97, 2) := by decide +kernel
theorem d6_32 : decode prog_42_method_4_code 32 = .ok (.isub, 1) := by decide +kernel
theorem d6_33 : decode prog_42_method_4_code 33 = .ok (.bipush 10, 2) := by decide +kernel
theorem d6_35 : decode prog_42_method_4_code 35 = .ok (.iadd, 1) := by decide +kernel
theorem d6_36 : decode prog_42_method_4_code 36 = .ok (.ireturn, 1) := by decide +kernel
theorem d6_37 : decode prog_42_method_4_code 37 = .ok (.iload_n 0, 1) := by decide +kernel
theorem d6_38 : decode prog_42_method_4_code 38 = .ok (.bipush 65, 2) := by decide +kernel
theorem d6_40 : decode prog_42_method_4_code 40 = .ok (.if_icmp .lt 17, 3) := by decide +kernel
theorem d6_43 : decode prog_42_method_4_code 43 = .ok (.iload_n 0, 1) := by decide +kernel
theorem d6_44 : decode prog_42_method_4_code 44 = .ok (.bipush 70, 2) := by decide +kernel
theorem d6_46 : decode prog_42_method_4_code 46 = .ok (.if_icmp .gt 11, 3) := by decide +kernel
theorem d6_49 : decode prog_42_method_4_code 49 = .ok (.iload_n 0, 1) := by decide +kernel
theorem d6_50 : decode prog_42_method_4_code 50 = .ok (.bipush 65, 2) := by decide +kernel
theorem d6_52 : decode prog_42_method_4_code 52 = .ok (.isub, 1) := by decide +kernel
theorem d6_53 : decode prog_42_method_4_code 53 = .ok (.bipush 10, 2) := by decide +kernel
theorem d6_55 : decode prog_42_method_4_code 55 = .ok (.iadd, 1) := by decide +kernel
theorem d6_56 : decode prog_42_method_4_code 56 = .ok (.ireturn, 1) := by decide +kernel
theorem d6_57 : decode prog_42_method_4_code 57 = .ok (.iconst (-1), 1) := by decide +kernel
theorem d6_58 : decode prog_42_method_4_code 58 = .ok (.ireturn, 1) := by decide +kernel
section Body6
variable {p : Program} {l : Launch} {e : Env} {s : State} {m : MethodId} {args : Array Value} {below : List Frame} {meth : Method} {c : Code} {Z : State} {ag : Array Value} {K : Option Value → Heap → List Loc → Prop}
abbrev R6 : Room := { frames := 0, cells := 0, slots := 0, locals := 0 }
abbrev cc6 : Nat := 0
abbrev ss6 : Nat := 0
def f6_57 : Int32 := (-1 : Int32)
set_option maxRecDepth 65536 in
set_option maxHeartbeats 40000000 in
theorem b6_57 (C : own_Cx p s m meth c Z ag prog_42_method_4_code 1 "com/example/plumbline/plumbline/core/Hex" (some .int) "digitValue") {T : State} {h : Heap} {z0 : Slot} (X : Stand p l e R6 s m args below meth c T [] 0 0) (eT : T.heap = h) (hz0 : One z0) (hK : K (some (.int (f6_57))) h []) : own_Go p e below (own_Q s K cc6 ss6) T (mkF m 57 #[z0] []) := by
  obtain ⟨hx, hZ, hw, hby, hml, hown, hret, hlk, hnm⟩ := id C
  unfold f6_57 at hK
  refine o_iconst (pc' := 58) (x := (-1 : Int32)) X hx (hb hby d6_57) (by decide) rfl ?_
  exact o_retI X hx hret hlk (hb hby d6_58) (by decide) (by decide) eT (hK)

def f6_37 (x0 : Int32) : Int32 := (if x0 < (65 : Int32) then f6_57 else (if (70 : Int32) < x0 then f6_57 else ((x0 - (65 : Int32)) + (10 : Int32))))
set_option maxRecDepth 65536 in
set_option maxHeartbeats 40000000 in
theorem b6_37 (C : own_Cx p s m meth c Z ag prog_42_method_4_code 1 "com/example/plumbline/plumbline/core/Hex" (some .int) "digitValue") {T : State} {h : Heap} (x0 : Int32) (X : Stand p l e R6 s m args below meth c T [] 0 0) (eT : T.heap = h) (hK : K (some (.int (f6_37 x0))) h []) : own_Go p e below (own_Q s K cc6 ss6) T (mkF m 37 #[.val (.int x0)] []) := by
  obtain ⟨hx, hZ, hw, hby, hml, hown, hret, hlk, hnm⟩ := id C
  unfold f6_37 at hK
  refine o_iloadN (pc' := 38) X hx (hb hby d6_37) rfl rfl ?_
  refine o_bipush (pc' := 40) (x := (65 : Int32)) X hx (hb hby d6_38) (by decide) rfl ?_
  refine o_icP (P := x0 < (65 : Int32)) (pc1 := 57) (pc2 := 43) X hx XT.ii_lt_t XT.ii_lt_f (hb hby d6_40) (by decide) (by decide) rfl (fun c17 => ?_) (fun c17 => ?_)
  · rw [if_pos c17] at hK
    exact b6_57 C X eT (One.val rfl) hK
  · rw [if_neg c17] at hK
    refine o_iloadN (pc' := 44) X hx (hb hby d6_43) rfl rfl ?_
    refine o_bipush (pc' := 46) (x := (70 : Int32)) X hx (hb hby d6_44) (by decide) rfl ?_
    refine o_icP (P := (70 : Int32) < x0) (pc1 := 57) (pc2 := 49) X hx XT.ii_gt_t XT.ii_gt_f (hb hby d6_46) (by decide) (by decide) rfl (fun c18 => ?_) (fun c18 => ?_)
    · rw [if_pos c18] at hK
      exact b6_57 C X eT (One.val rfl) hK
    · rw [if_neg c18] at hK
      refine o_iloadN (pc' := 50) X hx (hb hby d6_49) rfl rfl ?_
      refine o_bipush (pc' := 52) (x := (65 : Int32)) X hx (hb hby d6_50) (by decide) rfl ?_
      refine o_isub (pc' := 53)  X hx (hb hby d6_52) rfl rfl ?_
      refine o_bipush (pc' := 55) (x := (10 : Int32)) X hx (hb hby d6_53) (by decide) rfl ?_
      refine o_iadd (pc' := 56)  X hx (hb hby d6_55) rfl rfl ?_
      exact o_retI X hx hret hlk (hb hby d6_56) (by decide) (by decide) eT (hK)

def f6_17 (x0 : Int32) : Int32 := (if x0 < (97 : Int32) then (f6_37 x0) else (if (102 : Int32) < x0 then (f6_37 x0) else ((x0 - (97 : Int32)) + (10 : Int32))))
set_option maxRecDepth 65536 in
set_option maxHeartbeats 40000000 in
theorem b6_17 (C : own_Cx p s m meth c Z ag prog_42_method_4_code 1 "com/example/plumbline/plumbline/core/Hex" (some .int) "digitValue") {T : State} {h : Heap} (x0 : Int32) (X : Stand p l e R6 s m args below meth c T [] 0 0) (eT : T.heap = h) (hK : K (some (.int (f6_17 x0))) h []) : own_Go p e below (own_Q s K cc6 ss6) T (mkF m 17 #[.val (.int x0)] []) := by
  obtain ⟨hx, hZ, hw, hby, hml, hown, hret, hlk, hnm⟩ := id C
  unfold f6_17 at hK
  refine o_iloadN (pc' := 18) X hx (hb hby d6_17) rfl rfl ?_
  refine o_bipush (pc' := 20) (x := (97 : Int32)) X hx (hb hby d6_18) (by decide) rfl ?_
  refine o_icP (P := x0 < (97 : Int32)) (pc1 := 37) (pc2 := 23) X hx XT.ii_lt_t XT.ii_lt_f (hb hby d6_20) (by decide) (by decide) rfl (fun c16 => ?_) (fun c16 => ?_)
  · rw [if_pos c16] at hK
    exact b6_37 C x0 X eT hK
  · rw [if_neg c16] at hK
    refine o_iloadN (pc' := 24) X hx (hb hby d6_23) rfl rfl ?_
    refine o_bipush (pc' := 26) (x := (102 : Int32)) X hx (hb hby d6_24) (by decide) rfl ?_
    refine o_icP (P := (102 : Int32) < x0) (pc1 := 37) (pc2 := 29) X hx XT.ii_gt_t XT.ii_gt_f (hb hby d6_26) (by decide) (by decide) rfl (fun c19 => ?_) (fun c19 => ?_)
    · rw [if_pos c19] at hK
      exact b6_37 C x0 X eT hK
    · rw [if_neg c19] at hK
      refine o_iloadN (pc' := 30) X hx (hb hby d6_29) rfl rfl ?_
      refine o_bipush (pc' := 32) (x := (97 : Int32)) X hx (hb hby d6_30) (by decide) rfl ?_
      refine o_isub (pc' := 33)  X hx (hb hby d6_32) rfl rfl ?_
      refine o_bipush (pc' := 35) (x := (10 : Int32)) X hx (hb hby d6_33) (by decide) rfl ?_
      refine o_iadd (pc' := 36)  X hx (hb hby d6_35) rfl rfl ?_
      exact o_retI X hx hret hlk (hb hby d6_36) (by decide) (by decide) eT (hK)

def f6_0 (p0 : Int32) : Int32 := (if p0 < (48 : Int32) then (f6_17 p0) else (if (57 : Int32) < p0 then (f6_17 p0) else (p0 - (48 : Int32))))
set_option maxRecDepth 65536 in
set_option maxHeartbeats 40000000 in
theorem b6_0 (C : own_Cx p s m meth c Z ag prog_42_method_4_code 1 "com/example/plumbline/plumbline/core/Hex" (some .int) "digitValue") {T : State} {h : Heap} (p0 : Int32) (X : Stand p l e R6 s m args below meth c T [] 0 0) (eT : T.heap = h) (hK : K (some (.int (f6_0 p0))) h []) : own_Go p e below (own_Q s K cc6 ss6) T (mkF m 0 #[.val (.int p0)] []) := by
  obtain ⟨hx, hZ, hw, hby, hml, hown, hret, hlk, hnm⟩ := id C
  unfold f6_0 at hK
  refine o_iloadN (pc' := 1) X hx (hb hby d6_0) rfl rfl ?_
  refine o_bipush (pc' := 3) (x := (48 : Int32)) X hx (hb hby d6_1) (by decide) rfl ?_
  refine o_icP (P := p0 < (48 : Int32)) (pc1 := 17) (pc2 := 6) X hx XT.ii_lt_t XT.ii_lt_f (hb hby d6_3) (by decide) (by decide) rfl (fun c15 => ?_) (fun c15 => ?_)
  · rw [if_pos c15] at hK
    exact b6_17 C p0 X eT hK
  · rw [if_neg c15] at hK
    refine o_iloadN (pc' := 7) X hx (hb hby d6_6) rfl rfl ?_
    refine o_bipush (pc' := 9) (x := (57 : Int32)) X hx (hb hby d6_7) (by decide) rfl ?_
    refine o_icP (P := (57 : Int32) < p0) (pc1 := 17) (pc2 := 12) X hx XT.ii_gt_t XT.ii_gt_f (hb hby d6_9) (by decide) (by decide) rfl (fun c20 => ?_) (fun c20 => ?_)
    · rw [if_pos c20] at hK
      exact b6_17 C p0 X eT hK
    · rw [if_neg c20] at hK
      refine o_iloadN (pc' := 13) X hx (hb hby d6_12) rfl rfl ?_
      refine o_bipush (pc' := 15) (x := (48 : Int32)) X hx (hb hby d6_13) (by decide) rfl ?_
      refine o_isub (pc' := 16)  X hx (hb hby d6_15) rfl rfl ?_
      exact o_retI X hx hret hlk (hb hby d6_16) (by decide) (by decide) eT (hK)

end Body6
theorem pn_Hex : plainName "com/example/plumbline/plumbline/core/Hex" = true := by first | (simp [plainName, overriddenIn]; done) | decide +kernel
theorem ef_6 (m : MethodId) (p0 : Int32) : entryFrame m #[(.int p0)] 1 = mkF m 0 #[.val (.int p0)] [] := by first | (simp [entryFrame, mkF, argsToLocals, Value.category]; done) | rfl
set_option maxRecDepth 65536 in
set_option maxHeartbeats 40000000 in
theorem rm6 (l : Launch) (Z : State) (ag : Array Value) (hw : ∀ d ∈ tables_1, d.before ag Z = true) (ws : List Jvm.Cond) (p0 : Int32) (h0 : Heap) :
    MetFree l (⟨"com/example/plumbline/plumbline/core/Hex", "digitValue", "(C)I"⟩ : MethodName) (head1 (Jvm.Cond.code (⟨"com/example/plumbline/plumbline/core/Hex", "digitValue", "(C)I"⟩ : MethodName) prog_42_method_4_code 1 (some .int) :: ws) R6) (fun a U => a = #[(.int p0)] ∧ Z.Warmed39 U.vm ∧ U.heap = h0) (fun _ _ _ _ _ => True) (fun _ U o U' => ∃ v L, o = .returned v ∧ own_KP (some (.int (f6_0 p0))) h0 v U'.heap L ∧ FrameEnd U o U' L R6.cells R6.slots) := by
  refine MetFree.of_bodySF (plainFor_of_name pn_Hex) hisR ?_
  intro p e s m args below meth c s₁ Bd hml0 hP hK
  obtain ⟨rfl, hZ, hh⟩ := hP
  have C : own_Cx p s m meth c Z ag prog_42_method_4_code 1 "com/example/plumbline/plumbline/core/Hex" (some .int) "digitValue" := ⟨Bd.exec, hZ, hw, Bd.bytes, hml0, findClass_of_methodNamed Bd.named, Bd.returns, Bd.notSynchronized, (name_of_methodNamed Bd.named Bd.method).1⟩
  have X0 : Stand p l e R6 s m #[(.int p0)] below meth c s₁ [] 0 0 := Stand.of_body Bd
  have e0 : s₁.heap = h0 := by rw [← hh, Bd.state]; rfl
  rw [ef_6]
  exact b6_0 (K := own_KP (some (.int (f6_0 p0))) h0) C p0 X0 e0 ⟨rfl, rfl, rfl⟩

section Body0
variable {p : Program} {l : Launch} {e : Env} {s : State} {m : MethodId} {args : Array Value} {below : List Frame} {meth : Method} {c : Code} {Z : State} {ag : Array Value} {K : Option Value → Heap → List Loc → Prop}
abbrev R0 : Room := room_1
abbrev cc0 : Nat := 4
abbrev ss0 : Nat := 136
def f0_143 (k_COMPACT_STRINGS : Int32) : Int32 := (0 : Int32)
set_option maxRecDepth 65536 in
set_option maxHeartbeats 40000000 in
theorem b0_143 (C : own_Cx p s m meth c Z ag code maxLocals "com/example/plumbline/plumbline/core/HexDigitValuePinLaw" ret "law") {T : State} {h : Heap} {z0 : Slot} {z1 : Slot} {z2 : Slot} {z3 : Slot} {z4 : Slot} {z5 : Slot} {z6 : Slot} {z7 : Slot} {z8 : Slot} {z9 : Slot} {z10 : Slot} (k_COMPACT_STRINGS : Int32) (k_SIOOBE_FORMATTER : Option Addr) (X : Stand p l e R0 s m args below meth c T [] 4 136) (eT : T.heap = h) (S_COMPACT_STRINGS : Sta Z h "java/lang/String" "COMPACT_STRINGS" "Z" (.int k_COMPACT_STRINGS)) (S_SIOOBE_FORMATTER : Sta Z h "jdk/internal/util/Preconditions" "SIOOBE_FORMATTER" "Ljava/util/function/BiFunction;" (own_rv k_SIOOBE_FORMATTER)) (hz0 : One z0) (hz1 : One z1) (hz2 : One z2) (hz3 : One z3) (hz4 : One z4) (hz5 : One z5) (hz6 : One z6) (hz7 : One z7) (hz8 : One z8) (hz9 : One z9) (hz10 : One z10) (hK : K (some (.int (f0_143 k_COMPACT_STRINGS))) h []) : own_Go p e below (own_Q s K cc0 ss0) T (mkF m 143 #[z0, z1, z2, z3, z4, z5, z6, z7, z8, z9, z10] [(.int (0 : Int32))]) := by
  obtain ⟨hx, hZ, hw, hby, hml, hown, hret, hlk, hnm⟩ := id C
  unfold f0_143 at hK
  exact o_retN X hx (t := .boolean) hret (by simp) hlk (hb hby at_143) (by decide) (by decide) eT (hK)

def f0_142 (k_COMPACT_STRINGS : Int32) : Int32 := (f0_143 k_COMPACT_STRINGS)
set_option maxRecDepth 65536 in
set_option maxHeartbeats 40000000 in
theorem b0_142 (C : own_Cx p s m meth c Z ag code maxLocals "com/example/plumbline/plumbline/core/HexDigitValuePinLaw" ret "law") {T : State} {h : Heap} {z0 : Slot} {z1 : Slot} {z2 : Slot} {z3 : Slot} {z4 : Slot} {z5 : Slot} {z6 : Slot} {z7 : Slot} {z8 : Slot} {z9 : Slot} {z10 : Slot} (k_COMPACT_STRINGS : Int32) (k_SIOOBE_FORMATTER : Option Addr) (X : Stand p l e R0 s m args below meth c T [] 4 136) (eT : T.heap = h) (S_COMPACT_STRINGS : Sta Z h "java/lang/String" "COMPACT_STRINGS" "Z" (.int k_COMPACT_STRINGS)) (S_SIOOBE_FORMATTER : Sta Z h "jdk/internal/util/Preconditions" "SIOOBE_FORMATTER" "Ljava/util/function/BiFunction;" (own_rv k_SIOOBE_FORMATTER)) (hz0 : One z0) (hz1 : One z1) (hz2 : One z2) (hz3 : One z3) (hz4 : One z4) (hz5 : One z5) (hz6 : One z6) (hz7 : One z7) (hz8 : One z8) (hz9 : One z9) (hz10 : One z10) (hK : K (some (.int (f0_142 k_COMPACT_STRINGS))) h []) : own_Go p e below (own_Q s K cc0 ss0) T (mkF m 142 #[z0, z1, z2, z3, z4, z5, z6, z7, z8, z9, z10] []) := by
  obtain ⟨hx, hZ, hw, hby, hml, hown, hret, hlk, hnm⟩ := id C
  unfold f0_142 at hK
  refine o_iconst (pc' := 143) (x := (0 : Int32)) X hx (hb hby at_142) (by decide) rfl ?_
  exact b0_143 C k_COMPACT_STRINGS k_SIOOBE_FORMATTER X eT S_COMPACT_STRINGS S_SIOOBE_FORMATTER hz0 hz1 hz2 hz3 hz4 hz5 hz6 hz7 hz8 hz9 hz10 hK

def f0_128 (k_COMPACT_STRINGS : Int32) : Int32 := (f0_142 k_COMPACT_STRINGS)
set_option maxRecDepth 65536 in
set_option maxHeartbeats 40000000 in
theorem b0_128 (C : own_Cx p s m meth c Z ag code maxLocals "com/example/plumbline/plumbline/core/HexDigitValuePinLaw" ret "law") {T : State} {h : Heap} {z0 : Slot} {z1 : Slot} {z2 : Slot} {z3 : Slot} {z4 : Slot} {z5 : Slot} {z6 : Slot} {z8 : Slot} {z9 : Slot} (k_COMPACT_STRINGS : Int32) (k_SIOOBE_FORMATTER : Option Addr) (X : Stand p l e R0 s m args below meth c T [] 4 136) (eT : T.heap = h) (S_COMPACT_STRINGS : Sta Z h "java/lang/String" "COMPACT_STRINGS" "Z" (.int k_COMPACT_STRINGS)) (S_SIOOBE_FORMATTER : Sta Z h "jdk/internal/util/Preconditions" "SIOOBE_FORMATTER" "Ljava/util/function/BiFunction;" (own_rv k_SIOOBE_FORMATTER)) (hz0 : One z0) (hz1 : One z1) (hz2 : One z2) (hz3 : One z3) (hz4 : One z4) (hz5 : One z5) (hz6 : One z6) (hz8 : One z8) (hz9 : One z9) (hK : K (some (.int (f0_128 k_COMPACT_STRINGS))) h []) : own_Go p e below (own_Q s K cc0 ss0) T (mkF m 128 #[z0, z1, z2, z3, z4, z5, z6, .val (.int (0 : Int32)), z8, z9, .val (.int (0 : Int32))] []) := by
  obtain ⟨hx, hZ, hw, hby, hml, hown, hret, hlk, hnm⟩ := id C
  unfold f0_128 at hK
  refine o_iload (pc' := 130) X hx (hb hby at_128) rfl rfl ?_
  refine o_ifY (pc' := 142) X hx (by decide) (hb hby at_130) (by decide) (by decide) ?_
  exact b0_142 C k_COMPACT_STRINGS k_SIOOBE_FORMATTER X eT S_COMPACT_STRINGS S_SIOOBE_FORMATTER hz0 hz1 hz2 hz3 hz4 hz5 hz6 (One.val rfl) hz8 hz9 (One.val rfl) hK

def f0_125 (k_COMPACT_STRINGS : Int32) : Int32 := (f0_128 k_COMPACT_STRINGS)
set_option maxRecDepth 65536 in
set_option maxHeartbeats 40000000 in
theorem b0_125 (C : own_Cx p s m meth c Z ag code maxLocals "com/example/plumbline/plumbline/core/HexDigitValuePinLaw" ret "law") {T : State} {h : Heap} {z0 : Slot} {z1 : Slot} {z2 : Slot} {z3 : Slot} {z4 : Slot} {z5 : Slot} {z6 : Slot} {z8 : Slot} {z9 : Slot} {z10 : Slot} (k_COMPACT_STRINGS : Int32) (k_SIOOBE_FORMATTER : Option Addr) (X : Stand p l e R0 s m args below meth c T [] 4 136) (eT : T.heap = h) (S_COMPACT_STRINGS : Sta Z h "java/lang/String" "COMPACT_STRINGS" "Z" (.int k_COMPACT_STRINGS)) (S_SIOOBE_FORMATTER : Sta Z h "jdk/internal/util/Preconditions" "SIOOBE_FORMATTER" "Ljava/util/function/BiFunction;" (own_rv k_SIOOBE_FORMATTER)) (hz0 : One z0) (hz1 : One z1) (hz2 : One z2) (hz3 : One z3) (hz4 : One z4) (hz5 : One z5) (hz6 : One z6) (hz8 : One z8) (hz9 : One z9) (hz10 : One z10) (hK : K (some (.int (f0_125 k_COMPACT_STRINGS))) h []) : own_Go p e below (own_Q s K cc0 ss0) T (mkF m 125 #[z0, z1, z2, z3, z4, z5, z6, .val (.int (0 : Int32)), z8, z9, z10] []) := by
  obtain ⟨hx, hZ, hw, hby, hml, hown, hret, hlk, hnm⟩ := id C
  unfold f0_125 at hK
  refine o_iconst (pc' := 126) (x := (0 : Int32)) X hx (hb hby at_125) (by decide) rfl ?_
  refine o_istoreS (pc' := 128) (l' := #[z0, z1, z2, z3, z4, z5, z6, .val (.int (0 : Int32)), z8, z9, .val (.int (0 : Int32))]) X hx (hb hby at_126) rfl hz10 rfl rfl ?_
  exact b0_128 C k_COMPACT_STRINGS k_SIOOBE_FORMATTER X eT S_COMPACT_STRINGS S_SIOOBE_FORMATTER hz0 hz1 hz2 hz3 hz4 hz5 hz6 hz8 hz9 hK

def f0_128_9 (k_COMPACT_STRINGS : Int32) : Int32 := (f0_142 k_COMPACT_STRINGS)
set_option maxRecDepth 65536 in
set_option maxHeartbeats 40000000 in
theorem b0_128_9 (C : own_Cx p s m meth c Z ag code maxLocals "com/example/plumbline/plumbline/core/HexDigitValuePinLaw" ret "law") {T : State} {h : Heap} {z0 : Slot} {z1 : Slot} {z2 : Slot} {z3 : Slot} {z4 : Slot} {z5 : Slot} {z6 : Slot} {z8 : Slot} {z9 : Slot} (k_COMPACT_STRINGS : Int32) (k_SIOOBE_FORMATTER : Option Addr) (X : Stand p l e R0 s m args below meth c T [] 4 136) (eT : T.heap = h) (S_COMPACT_STRINGS : Sta Z h "java/lang/String" "COMPACT_STRINGS" "Z" (.int k_COMPACT_STRINGS)) (S_SIOOBE_FORMATTER : Sta Z h "jdk/internal/util/Preconditions" "SIOOBE_FORMATTER" "Ljava/util/function/BiFunction;" (own_rv k_SIOOBE_FORMATTER)) (hz0 : One z0) (hz1 : One z1) (hz2 : One z2) (hz3 : One z3) (hz4 : One z4) (hz5 : One z5) (hz6 : One z6) (hz8 : One z8) (hz9 : One z9) (hK : K (some (.int (f0_128_9 k_COMPACT_STRINGS))) h []) : own_Go p e below (own_Q s K cc0 ss0) T (mkF m 128 #[z0, z1, z2, z3, z4, z5, z6, .val (.int (0 : Int32)), z8, z9, .val (.int (1 : Int32))] []) := by
  obtain ⟨hx, hZ, hw, hby, hml, hown, hret, hlk, hnm⟩ := id C
  unfold f0_128_9 at hK
  refine o_iload (pc' := 130) X hx (hb hby at_128) rfl rfl ?_
  refine o_ifY (pc' := 142) X hx (by decide) (hb hby at_130) (by decide) (by decide) ?_
  exact b0_142 C k_COMPACT_STRINGS k_SIOOBE_FORMATTER X eT S_COMPACT_STRINGS S_SIOOBE_FORMATTER hz0 hz1 hz2 hz3 hz4 hz5 hz6 (One.val rfl) hz8 hz9 (One.val rfl) hK

def f0_120 (k_COMPACT_STRINGS : Int32) : Int32 := (f0_128_9 k_COMPACT_STRINGS)
set_option maxRecDepth 65536 in
set_option maxHeartbeats 40000000 in
theorem b0_120 (C : own_Cx p s m meth c Z ag code maxLocals "com/example/plumbline/plumbline/core/HexDigitValuePinLaw" ret "law") {T : State} {h : Heap} {z0 : Slot} {z1 : Slot} {z2 : Slot} {z3 : Slot} {z4 : Slot} {z5 : Slot} {z6 : Slot} {z8 : Slot} {z9 : Slot} {z10 : Slot} (k_COMPACT_STRINGS : Int32) (k_SIOOBE_FORMATTER : Option Addr) (X : Stand p l e R0 s m args below meth c T [] 4 136) (eT : T.heap = h) (S_COMPACT_STRINGS : Sta Z h "java/lang/String" "COMPACT_STRINGS" "Z" (.int k_COMPACT_STRINGS)) (S_SIOOBE_FORMATTER : Sta Z h "jdk/internal/util/Preconditions" "SIOOBE_FORMATTER" "Ljava/util/function/BiFunction;" (own_rv k_SIOOBE_FORMATTER)) (hz0 : One z0) (hz1 : One z1) (hz2 : One z2) (hz3 : One z3) (hz4 : One z4) (hz5 : One z5) (hz6 : One z6) (hz8 : One z8) (hz9 : One z9) (hz10 : One z10) (hK : K (some (.int (f0_120 k_COMPACT_STRINGS))) h []) : own_Go p e below (own_Q s K cc0 ss0) T (mkF m 120 #[z0, z1, z2, z3, z4, z5, z6, .val (.int (0 : Int32)), z8, z9, z10] [(.int (1 : Int32))]) := by
  obtain ⟨hx, hZ, hw, hby, hml, hown, hret, hlk, hnm⟩ := id C
  unfold f0_120 at hK
  refine o_istoreS (pc' := 122) (l' := #[z0, z1, z2, z3, z4, z5, z6, .val (.int (0 : Int32)), z8, z9, .val (.int (1 : Int32))]) X hx (hb hby at_120) rfl hz10 rfl rfl ?_
  refine o_goto (pc' := 128) X hx (hb hby at_122) (by decide) (by decide) ?_
  exact b0_128_9 C k_COMPACT_STRINGS k_SIOOBE_FORMATTER X eT S_COMPACT_STRINGS S_SIOOBE_FORMATTER hz0 hz1 hz2 hz3 hz4 hz5 hz6 hz8 hz9 hK

def f0_115 (k_COMPACT_STRINGS : Int32) : Int32 := (f0_120 k_COMPACT_STRINGS)
set_option maxRecDepth 65536 in
set_option maxHeartbeats 40000000 in
theorem b0_115 (C : own_Cx p s m meth c Z ag code maxLocals "com/example/plumbline/plumbline/core/HexDigitValuePinLaw" ret "law") {T : State} {h : Heap} {z0 : Slot} {z1 : Slot} {z2 : Slot} {z3 : Slot} {z4 : Slot} {z5 : Slot} {z6 : Slot} {z8 : Slot} {z9 : Slot} {z10 : Slot} (k_COMPACT_STRINGS : Int32) (k_SIOOBE_FORMATTER : Option Addr) (X : Stand p l e R0 s m args below meth c T [] 4 136) (eT : T.heap = h) (S_COMPACT_STRINGS : Sta Z h "java/lang/String" "COMPACT_STRINGS" "Z" (.int k_COMPACT_STRINGS)) (S_SIOOBE_FORMATTER : Sta Z h "jdk/internal/util/Preconditions" "SIOOBE_FORMATTER" "Ljava/util/function/BiFunction;" (own_rv k_SIOOBE_FORMATTER)) (hz0 : One z0) (hz1 : One z1) (hz2 : One z2) (hz3 : One z3) (hz4 : One z4) (hz5 : One z5) (hz6 : One z6) (hz8 : One z8) (hz9 : One z9) (hz10 : One z10) (hK : K (some (.int (f0_115 k_COMPACT_STRINGS))) h []) : own_Go p e below (own_Q s K cc0 ss0) T (mkF m 115 #[z0, z1, z2, z3, z4, z5, z6, .val (.int (0 : Int32)), z8, z9, z10] []) := by
  obtain ⟨hx, hZ, hw, hby, hml, hown, hret, hlk, hnm⟩ := id C
  unfold f0_115 at hK
  refine o_iconst (pc' := 116) (x := (1 : Int32)) X hx (hb hby at_115) (by decide) rfl ?_
  refine o_goto (pc' := 120) X hx (hb hby at_116) (by decide) (by decide) ?_
  exact b0_120 C k_COMPACT_STRINGS k_SIOOBE_FORMATTER X eT S_COMPACT_STRINGS S_SIOOBE_FORMATTER hz0 hz1 hz2 hz3 hz4 hz5 hz6 hz8 hz9 hz10 hK

def f0_120_10 (k_COMPACT_STRINGS : Int32) : Int32 := (f0_128 k_COMPACT_STRINGS)
set_option maxRecDepth 65536 in
set_option maxHeartbeats 40000000 in
theorem b0_120_10 (C : own_Cx p s m meth c Z ag code maxLocals "com/example/plumbline/plumbline/core/HexDigitValuePinLaw" ret "law") {T : State} {h : Heap} {z0 : Slot} {z1 : Slot} {z2 : Slot} {z3 : Slot} {z4 : Slot} {z5 : Slot} {z6 : Slot} {z8 : Slot} {z9 : Slot} {z10 : Slot} (k_COMPACT_STRINGS : Int32) (k_SIOOBE_FORMATTER : Option Addr) (X : Stand p l e R0 s m args below meth c T [] 4 136) (eT : T.heap = h) (S_COMPACT_STRINGS : Sta Z h "java/lang/String" "COMPACT_STRINGS" "Z" (.int k_COMPACT_STRINGS)) (S_SIOOBE_FORMATTER : Sta Z h "jdk/internal/util/Preconditions" "SIOOBE_FORMATTER" "Ljava/util/function/BiFunction;" (own_rv k_SIOOBE_FORMATTER)) (hz0 : One z0) (hz1 : One z1) (hz2 : One z2) (hz3 : One z3) (hz4 : One z4) (hz5 : One z5) (hz6 : One z6) (hz8 : One z8) (hz9 : One z9) (hz10 : One z10) (hK : K (some (.int (f0_120_10 k_COMPACT_STRINGS))) h []) : own_Go p e below (own_Q s K cc0 ss0) T (mkF m 120 #[z0, z1, z2, z3, z4, z5, z6, .val (.int (0 : Int32)), z8, z9, z10] [(.int (0 : Int32))]) := by
  obtain ⟨hx, hZ, hw, hby, hml, hown, hret, hlk, hnm⟩ := id C
  unfold f0_120_10 at hK
  refine o_istoreS (pc' := 122) (l' := #[z0, z1, z2, z3, z4, z5, z6, .val (.int (0 : Int32)), z8, z9, .val (.int (0 : Int32))]) X hx (hb hby at_120) rfl hz10 rfl rfl ?_
  refine o_goto (pc' := 128) X hx (hb hby at_122) (by decide) (by decide) ?_
  exact b0_128 C k_COMPACT_STRINGS k_SIOOBE_FORMATTER X eT S_COMPACT_STRINGS S_SIOOBE_FORMATTER hz0 hz1 hz2 hz3 hz4 hz5 hz6 hz8 hz9 hK

def f0_53 (k_COMPACT_STRINGS : Int32) (x0 : Int32) (v1 : List Int32) (v3 : List Int32) : Int32 := (if (f6_0 (own_i2c (x0 &&& (65535 : Int32)))) = (-1 : Int32) then (f0_128_9 k_COMPACT_STRINGS) else (if (f6_0 (own_i2c (x0 &&& (65535 : Int32)))) < (0 : Int32) then (f0_125 k_COMPACT_STRINGS) else (if (15 : Int32) < (f6_0 (own_i2c (x0 &&& (65535 : Int32)))) then (f0_125 k_COMPACT_STRINGS) else (if (own_i2c (x0 &&& (65535 : Int32))) = (f1_0 k_COMPACT_STRINGS (0 : Int32) v1 (f6_0 (own_i2c (x0 &&& (65535 : Int32))))) then (f0_115 k_COMPACT_STRINGS) else (if (own_i2c (x0 &&& (65535 : Int32))) = (f1_0 k_COMPACT_STRINGS (0 : Int32) v3 (f6_0 (own_i2c (x0 &&& (65535 : Int32))))) then (f0_115 k_COMPACT_STRINGS) else (f0_120_10 k_COMPACT_STRINGS))))))
def s0_53 (k_COMPACT_STRINGS : Int32) (x0 : Int32) (v1 : List Int32) (v3 : List Int32) : Prop := (((f6_0 (own_i2c (x0 &&& (65535 : Int32)))) = (-1 : Int32) → True) ∧ (¬ ((f6_0 (own_i2c (x0 &&& (65535 : Int32)))) = (-1 : Int32)) → (((f6_0 (own_i2c (x0 &&& (65535 : Int32)))) < (0 : Int32) → True) ∧ (¬ ((f6_0 (own_i2c (x0 &&& (65535 : Int32)))) < (0 : Int32)) → (((15 : Int32) < (f6_0 (own_i2c (x0 &&& (65535 : Int32)))) → True) ∧ (¬ ((15 : Int32) < (f6_0 (own_i2c (x0 &&& (65535 : Int32))))) → ((s1_0 k_COMPACT_STRINGS (0 : Int32) v1 (f6_0 (own_i2c (x0 &&& (65535 : Int32))))) ∧ (((own_i2c (x0 &&& (65535 : Int32))) = (f1_0 k_COMPACT_STRINGS (0 : Int32) v1 (f6_0 (own_i2c (x0 &&& (65535 : Int32))))) → True) ∧ (¬ ((own_i2c (x0 &&& (65535 : Int32))) = (f1_0 k_COMPACT_STRINGS (0 : Int32) v1 (f6_0 (own_i2c (x0 &&& (65535 : Int32)))))) → ((s1_0 k_COMPACT_STRINGS (0 : Int32) v3 (f6_0 (own_i2c (x0 &&& (65535 : Int32))))) ∧ True))))))))))
set_option maxRecDepth 65536 in
set_option maxHeartbeats 40000000 in
theorem b0_53 (C : own_Cx p s m meth c Z ag code maxLocals "com/example/plumbline/plumbline/core/HexDigitValuePinLaw" ret "law") {T : State} {h : Heap} {z1 : Slot} {z4 : Slot} {z5 : Slot} {z6 : Slot} {z7 : Slot} {z8 : Slot} {z9 : Slot} {z10 : Slot} (k_COMPACT_STRINGS : Int32) (k_SIOOBE_FORMATTER : Option Addr) (x0 : Int32) (a0 : Addr) (a1 : Addr) (v1 : List Int32) (a2 : Addr) (a3 : Addr) (v3 : List Int32) (X : Stand p l e R0 s m args below meth c T [] 4 136) (eT : T.heap = h) (Aa1 : own_AI Z h a1 .byte v1) (Aa3 : own_AI Z h a3 .byte v3) (S_COMPACT_STRINGS : Sta Z h "java/lang/String" "COMPACT_STRINGS" "Z" (.int k_COMPACT_STRINGS)) (S_SIOOBE_FORMATTER : Sta Z h "jdk/internal/util/Preconditions" "SIOOBE_FORMATTER" "Ljava/util/function/BiFunction;" (own_rv k_SIOOBE_FORMATTER)) (Ea0 : Exa Z h a0 "java/lang/String") (Fa0_coder : Fld Z h a0 "java/lang/String" "coder" "B" (.int (0 : Int32))) (Fa0_value : Fld Z h a0 "java/lang/String" "value" "[B" (.ref a1)) (Ea2 : Exa Z h a2 "java/lang/String") (Fa2_coder : Fld Z h a2 "java/lang/String" "coder" "B" (.int (0 : Int32))) (Fa2_value : Fld Z h a2 "java/lang/String" "value" "[B" (.ref a3)) (hz1 : One z1) (hz4 : One z4) (hz5 : One z5) (hz6 : One z6) (hz7 : One z7) (hz8 : One z8) (hz9 : One z9) (hz10 : One z10) (hs : s0_53 k_COMPACT_STRINGS x0 v1 v3) (hK : K (some (.int (f0_53 k_COMPACT_STRINGS x0 v1 v3))) h []) : own_Go p e below (own_Q s K cc0 ss0) T (mkF m 53 #[.val (.int x0), z1, .val (.ref a0), .val (.ref a2), z4, z5, z6, z7, z8, z9, z10] [(.int (0 : Int32))]) := by
  obtain ⟨hx, hZ, hw, hby, hml, hown, hret, hlk, hnm⟩ := id C
  unfold f0_53 at hK
  unfold s0_53 at hs
  refine o_istoreS (pc' := 55) (l' := #[.val (.int x0), z1, .val (.ref a0), .val (.ref a2), z4, z5, z6, .val (.int (0 : Int32)), z8, z9, z10]) X hx (hb hby at_53) rfl hz7 rfl rfl ?_
  refine o_iloadN (pc' := 56) X hx (hb hby at_55) rfl rfl ?_
  refine o_ldcI (pc' := 58) X hx hZ hown (hw _ (List.mem_of_getElem? (i := 38) rfl)) (hb hby at_56) rfl ?_
  refine o_iand (pc' := 59)  X hx (hb hby at_58) rfl rfl ?_
  refine o_i2c (pc' := 60)  X hx (hb hby at_59) rfl rfl ?_
  refine o_istoreS (pc' := 62) (l' := #[.val (.int x0), z1, .val (.ref a0), .val (.ref a2), z4, z5, z6, .val (.int (0 : Int32)), .val (.int (own_i2c (x0 &&& (65535 : Int32)))), z9, z10]) X hx (hb hby at_60) rfl hz8 rfl rfl ?_
  refine o_iload (pc' := 64) X hx (hb hby at_62) rfl rfl ?_
  refine o_callP (W := 0) (pc' := 67) (argsL := [(.int (own_i2c (x0 &&& (65535 : Int32))))]) (rest := []) (st' := [(.int (f6_0 (own_i2c (x0 &&& (65535 : Int32)))))]) X hx hZ eT hown (hw _ (List.mem_of_getElem? (i := 34) rfl)) (hw _ (List.mem_of_getElem? (i := 35) rfl)) (hw _ (List.mem_of_getElem? (i := 36) rfl)) (hw _ (List.mem_of_getElem? (i := 37) rfl)) (by decide) (rm6 l Z ag hw [] (own_i2c (x0 &&& (65535 : Int32))) h) (by decide) (by decide) (by rw [hml]; rfl) pd_5 rfl rfl rfl rfl (hb hby at_64) rfl rfl rfl (by decide) (by decide) rfl fun T25 X25 e25 => ?_
  refine o_istoreS (pc' := 69) (l' := #[.val (.int x0), z1, .val (.ref a0), .val (.ref a2), z4, z5, z6, .val (.int (0 : Int32)), .val (.int (own_i2c (x0 &&& (65535 : Int32)))), .val (.int (f6_0 (own_i2c (x0 &&& (65535 : Int32))))), z10]) X25 hx (hb hby at_67) rfl hz9 rfl rfl ?_
  refine o_iload (pc' := 71) X25 hx (hb hby at_69) rfl rfl ?_
  refine o_iconst (pc' := 72) (x := (-1 : Int32)) X25 hx (hb hby at_71) (by decide) rfl ?_
  refine o_icN (P := (f6_0 (own_i2c (x0 &&& (65535 : Int32)))) = (-1 : Int32)) (pc1 := 81) (pc2 := 75) X25 hx XT.ii_ne_f XT.ii_ne_t (hb hby at_72) (by decide) (by decide) rfl (fun c26 => ?_) (fun c26 => ?_)
  · rw [if_neg c26] at hK
    refine o_iload (pc' := 83) X25 hx (hb hby at_81) rfl rfl ?_
    refine o_ifP (P := (f6_0 (own_i2c (x0 &&& (65535 : Int32)))) < (0 : Int32)) (pc1 := 125) (pc2 := 86) X25 hx XT.i0_lt_t XT.i0_lt_f (hb hby at_83) (by decide) (by decide) rfl (fun c27 => ?_) (fun c27 => ?_)
    · rw [if_pos c27] at hK
      exact b0_125 C k_COMPACT_STRINGS k_SIOOBE_FORMATTER X25 e25 S_COMPACT_STRINGS S_SIOOBE_FORMATTER (One.val rfl) hz1 (One.val rfl) (One.val rfl) hz4 hz5 hz6 (One.val rfl) (One.val rfl) hz10 hK
    · rw [if_neg c27] at hK
      refine o_iload (pc' := 88) X25 hx (hb hby at_86) rfl rfl ?_
      refine o_bipush (pc' := 90) (x := (15 : Int32)) X25 hx (hb hby at_88) (by decide) rfl ?_
      refine o_icP (P := (15 : Int32) < (f6_0 (own_i2c (x0 &&& (65535 : Int32))))) (pc1 := 125) (pc2 := 93) X25 hx XT.ii_gt_t XT.ii_gt_f (hb hby at_90) (by decide) (by decide) rfl (fun c28 => ?_) (fun c28 => ?_)
      · rw [if_pos c28] at hK
        exact b0_125 C k_COMPACT_STRINGS k_SIOOBE_FORMATTER X25 e25 S_COMPACT_STRINGS S_SIOOBE_FORMATTER (One.val rfl) hz1 (One.val rfl) (One.val rfl) hz4 hz5 hz6 (One.val rfl) (One.val rfl) hz10 hK
      · rw [if_neg c28] at hK
        refine o_iload (pc' := 95) X25 hx (hb hby at_93) rfl rfl ?_
        refine o_aloadN (pc' := 96) X25 hx (hb hby at_95) rfl rfl rfl ?_
        refine o_iload (pc' := 98) X25 hx (hb hby at_96) rfl rfl ?_
        refine o_callV (W := 1) (pc' := 101) (a := a0) (argsL := [(.int (f6_0 (own_i2c (x0 &&& (65535 : Int32)))))]) (rest := [(.int (own_i2c (x0 &&& (65535 : Int32))))]) X25 hx hZ e25 hown (hw _ (List.mem_of_getElem? (i := 9) rfl)) (hw _ (List.mem_of_getElem? (i := 10) rfl)) (hw _ (List.mem_of_getElem? (i := 12) rfl)) (hw _ (List.mem_of_getElem? (i := 11) rfl)) (hw _ (List.mem_of_getElem? (i := 1) rfl)) (hw _ (List.mem_of_getElem? (i := 13) rfl)) (by decide) (rm1 l Z ag hw [] k_COMPACT_STRINGS k_SIOOBE_FORMATTER a0 (0 : Int32) a1 v1 (f6_0 (own_i2c (x0 &&& (65535 : Int32)))) h Aa1 S_COMPACT_STRINGS S_SIOOBE_FORMATTER Ea0 Fa0_coder Fa0_value (((hs.2 c26).2 c27).2 c28).1) (by decide) (by decide) (by rw [hml]; rfl) Ea0 pd_4 rfl rfl rfl rfl (hb hby at_98) rfl (by decide) (by decide) fun v29 T29 L29 X29 k29 => ?_
        obtain ⟨rfl, e29, rfl⟩ := k29
        have Y29 : Stand p l e R0 s m args below meth c T29 [] 4 136 := own_nil X29
        show own_Go p e below _ T29 (mkF m 101 #[.val (.int x0), z1, .val (.ref a0), .val (.ref a2), z4, z5, z6, .val (.int (0 : Int32)), .val (.int (own_i2c (x0 &&& (65535 : Int32)))), .val (.int (f6_0 (own_i2c (x0 &&& (65535 : Int32))))), z10] [(.int (f1_0 k_COMPACT_STRINGS (0 : Int32) v1 (f6_0 (own_i2c (x0 &&& (65535 : Int32)))))), (.int (own_i2c (x0 &&& (65535 : Int32))))])
        refine o_icP (P := (own_i2c (x0 &&& (65535 : Int32))) = (f1_0 k_COMPACT_STRINGS (0 : Int32) v1 (f6_0 (own_i2c (x0 &&& (65535 : Int32)))))) (pc1 := 115) (pc2 := 104) Y29 hx XT.ii_eq_t XT.ii_eq_f (hb hby at_101) (by decide) (by decide) rfl (fun c30 => ?_) (fun c30 => ?_)
        · rw [if_pos c30] at hK
          exact b0_115 C k_COMPACT_STRINGS k_SIOOBE_FORMATTER Y29 e29 S_COMPACT_STRINGS S_SIOOBE_FORMATTER (One.val rfl) hz1 (One.val rfl) (One.val rfl) hz4 hz5 hz6 (One.val rfl) (One.val rfl) hz10 hK
        · rw [if_neg c30] at hK
          refine o_iload (pc' := 106) Y29 hx (hb hby at_104) rfl rfl ?_
          refine o_aloadN (pc' := 107) Y29 hx (hb hby at_106) rfl rfl rfl ?_
          refine o_iload (pc' := 109) Y29 hx (hb hby at_107) rfl rfl ?_
          refine o_callV (W := 1) (pc' := 112) (a := a2) (argsL := [(.int (f6_0 (own_i2c (x0 &&& (65535 : Int32)))))]) (rest := [(.int (own_i2c (x0 &&& (65535 : Int32))))]) Y29 hx hZ e29 hown (hw _ (List.mem_of_getElem? (i := 9) rfl)) (hw _ (List.mem_of_getElem? (i := 10) rfl)) (hw _ (List.mem_of_getElem? (i := 12) rfl)) (hw _ (List.mem_of_getElem? (i := 11) rfl)) (hw _ (List.mem_of_getElem? (i := 1) rfl)) (hw _ (List.mem_of_getElem? (i := 13) rfl)) (by decide) (rm1 l Z ag hw [] k_COMPACT_STRINGS k_SIOOBE_FORMATTER a2 (0 : Int32) a3 v3 (f6_0 (own_i2c (x0 &&& (65535 : Int32)))) h Aa3 S_COMPACT_STRINGS S_SIOOBE_FORMATTER Ea2 Fa2_coder Fa2_value ((((hs.2 c26).2 c27).2 c28).2.2 c30).1) (by decide) (by decide) (by rw [hml]; rfl) Ea2 pd_4 rfl rfl rfl rfl (hb hby at_109) rfl (by decide) (by decide) fun v31 T31 L31 X31 k31 => ?_
          obtain ⟨rfl, e31, rfl⟩ := k31
          have Y31 : Stand p l e R0 s m args below meth c T31 [] 4 136 := own_nil X31
          show own_Go p e below _ T31 (mkF m 112 #[.val (.int x0), z1, .val (.ref a0), .val (.ref a2), z4, z5, z6, .val (.int (0 : Int32)), .val (.int (own_i2c (x0 &&& (65535 : Int32)))), .val (.int (f6_0 (own_i2c (x0 &&& (65535 : Int32))))), z10] [(.int (f1_0 k_COMPACT_STRINGS (0 : Int32) v3 (f6_0 (own_i2c (x0 &&& (65535 : Int32)))))), (.int (own_i2c (x0 &&& (65535 : Int32))))])
          refine o_icN (P := (own_i2c (x0 &&& (65535 : Int32))) = (f1_0 k_COMPACT_STRINGS (0 : Int32) v3 (f6_0 (own_i2c (x0 &&& (65535 : Int32)))))) (pc1 := 119) (pc2 := 115) Y31 hx XT.ii_ne_f XT.ii_ne_t (hb hby at_112) (by decide) (by decide) rfl (fun c32 => ?_) (fun c32 => ?_)
          · rw [if_neg c32] at hK
            refine o_iconst (pc' := 120) (x := (0 : Int32)) Y31 hx (hb hby at_119) (by decide) rfl ?_
            exact b0_120_10 C k_COMPACT_STRINGS k_SIOOBE_FORMATTER Y31 e31 S_COMPACT_STRINGS S_SIOOBE_FORMATTER (One.val rfl) hz1 (One.val rfl) (One.val rfl) hz4 hz5 hz6 (One.val rfl) (One.val rfl) hz10 hK
          · rw [if_pos c32] at hK
            exact b0_115 C k_COMPACT_STRINGS k_SIOOBE_FORMATTER Y31 e31 S_COMPACT_STRINGS S_SIOOBE_FORMATTER (One.val rfl) hz1 (One.val rfl) (One.val rfl) hz4 hz5 hz6 (One.val rfl) (One.val rfl) hz10 hK
  · rw [if_pos c26] at hK
    refine o_iconst (pc' := 76) (x := (1 : Int32)) X25 hx (hb hby at_75) (by decide) rfl ?_
    refine o_istoreS (pc' := 78) (l' := #[.val (.int x0), z1, .val (.ref a0), .val (.ref a2), z4, z5, z6, .val (.int (0 : Int32)), .val (.int (own_i2c (x0 &&& (65535 : Int32)))), .val (.int (f6_0 (own_i2c (x0 &&& (65535 : Int32))))), .val (.int (1 : Int32))]) X25 hx (hb hby at_76) rfl hz10 rfl rfl ?_
    refine o_goto (pc' := 128) X25 hx (hb hby at_78) (by decide) (by decide) ?_
    exact b0_128_9 C k_COMPACT_STRINGS k_SIOOBE_FORMATTER X25 e25 S_COMPACT_STRINGS S_SIOOBE_FORMATTER (One.val rfl) hz1 (One.val rfl) (One.val rfl) hz4 hz5 hz6 (One.val rfl) (One.val rfl) hK

def f0_52 (k_COMPACT_STRINGS : Int32) (x0 : Int32) (v1 : List Int32) (v3 : List Int32) : Int32 := (f0_53 k_COMPACT_STRINGS x0 v1 v3)
def s0_52 (k_COMPACT_STRINGS : Int32) (x0 : Int32) (v1 : List Int32) (v3 : List Int32) : Prop := s0_53 k_COMPACT_STRINGS x0 v1 v3
set_option maxRecDepth 65536 in
set_option maxHeartbeats 40000000 in
theorem b0_52 (C : own_Cx p s m meth c Z ag code maxLocals "com/example/plumbline/plumbline/core/HexDigitValuePinLaw" ret "law") {T : State} {h : Heap} {z1 : Slot} {z4 : Slot} {z5 : Slot} {z6 : Slot} {z7 : Slot} {z8 : Slot} {z9 : Slot} {z10 : Slot} (k_COMPACT_STRINGS : Int32) (k_SIOOBE_FORMATTER : Option Addr) (x0 : Int32) (a0 : Addr) (a1 : Addr) (v1 : List Int32) (a2 : Addr) (a3 : Addr) (v3 : List Int32) (X : Stand p l e R0 s m args below meth c T [] 4 136) (eT : T.heap = h) (Aa1 : own_AI Z h a1 .byte v1) (Aa3 : own_AI Z h a3 .byte v3) (S_COMPACT_STRINGS : Sta Z h "java/lang/String" "COMPACT_STRINGS" "Z" (.int k_COMPACT_STRINGS)) (S_SIOOBE_FORMATTER : Sta Z h "jdk/internal/util/Preconditions" "SIOOBE_FORMATTER" "Ljava/util/function/BiFunction;" (own_rv k_SIOOBE_FORMATTER)) (Ea0 : Exa Z h a0 "java/lang/String") (Fa0_coder : Fld Z h a0 "java/lang/String" "coder" "B" (.int (0 : Int32))) (Fa0_value : Fld Z h a0 "java/lang/String" "value" "[B" (.ref a1)) (Ea2 : Exa Z h a2 "java/lang/String") (Fa2_coder : Fld Z h a2 "java/lang/String" "coder" "B" (.int (0 : Int32))) (Fa2_value : Fld Z h a2 "java/lang/String" "value" "[B" (.ref a3)) (hz1 : One z1) (hz4 : One z4) (hz5 : One z5) (hz6 : One z6) (hz7 : One z7) (hz8 : One z8) (hz9 : One z9) (hz10 : One z10) (hs : s0_52 k_COMPACT_STRINGS x0 v1 v3) (hK : K (some (.int (f0_52 k_COMPACT_STRINGS x0 v1 v3))) h []) : own_Go p e below (own_Q s K cc0 ss0) T (mkF m 52 #[.val (.int x0), z1, .val (.ref a0), .val (.ref a2), z4, z5, z6, z7, z8, z9, z10] []) := by
  obtain ⟨hx, hZ, hw, hby, hml, hown, hret, hlk, hnm⟩ := id C
  unfold f0_52 at hK
  unfold s0_52 at hs
  refine o_iconst (pc' := 53) (x := (0 : Int32)) X hx (hb hby at_52) (by decide) rfl ?_
  exact b0_53 C k_COMPACT_STRINGS k_SIOOBE_FORMATTER x0 a0 a1 v1 a2 a3 v3 X eT Aa1 Aa3 S_COMPACT_STRINGS S_SIOOBE_FORMATTER Ea0 Fa0_coder Fa0_value Ea2 Fa2_coder Fa2_value hz1 hz4 hz5 hz6 hz7 hz8 hz9 hz10 hs hK

def f0_128_13 (k_COMPACT_STRINGS : Int32) : Int32 := (f0_142 k_COMPACT_STRINGS)
set_option maxRecDepth 65536 in
set_option maxHeartbeats 40000000 in
theorem b0_128_13 (C : own_Cx p s m meth c Z ag code maxLocals "com/example/plumbline/plumbline/core/HexDigitValuePinLaw" ret "law") {T : State} {h : Heap} {z0 : Slot} {z1 : Slot} {z2 : Slot} {z3 : Slot} {z4 : Slot} {z5 : Slot} {z6 : Slot} {z8 : Slot} {z9 : Slot} (k_COMPACT_STRINGS : Int32) (k_SIOOBE_FORMATTER : Option Addr) (X : Stand p l e R0 s m args below meth c T [] 4 136) (eT : T.heap = h) (S_COMPACT_STRINGS : Sta Z h "java/lang/String" "COMPACT_STRINGS" "Z" (.int k_COMPACT_STRINGS)) (S_SIOOBE_FORMATTER : Sta Z h "jdk/internal/util/Preconditions" "SIOOBE_FORMATTER" "Ljava/util/function/BiFunction;" (own_rv k_SIOOBE_FORMATTER)) (hz0 : One z0) (hz1 : One z1) (hz2 : One z2) (hz3 : One z3) (hz4 : One z4) (hz5 : One z5) (hz6 : One z6) (hz8 : One z8) (hz9 : One z9) (hK : K (some (.int (f0_128_13 k_COMPACT_STRINGS))) h []) : own_Go p e below (own_Q s K cc0 ss0) T (mkF m 128 #[z0, z1, z2, z3, z4, z5, z6, .val (.int (1 : Int32)), z8, z9, .val (.int (0 : Int32))] []) := by
  obtain ⟨hx, hZ, hw, hby, hml, hown, hret, hlk, hnm⟩ := id C
  unfold f0_128_13 at hK
  refine o_iload (pc' := 130) X hx (hb hby at_128) rfl rfl ?_
  refine o_ifX (pc' := 133) X hx (by decide) (hb hby at_130) rfl ?_
  refine o_iload (pc' := 135) X hx (hb hby at_133) rfl rfl ?_
  refine o_ifY (pc' := 142) X hx (by decide) (hb hby at_135) (by decide) (by decide) ?_
  exact b0_142 C k_COMPACT_STRINGS k_SIOOBE_FORMATTER X eT S_COMPACT_STRINGS S_SIOOBE_FORMATTER hz0 hz1 hz2 hz3 hz4 hz5 hz6 (One.val rfl) hz8 hz9 (One.val rfl) hK

def f0_125_12 (k_COMPACT_STRINGS : Int32) : Int32 := (f0_128_13 k_COMPACT_STRINGS)
set_option maxRecDepth 65536 in
set_option maxHeartbeats 40000000 in
theorem b0_125_12 (C : own_Cx p s m meth c Z ag code maxLocals "com/example/plumbline/plumbline/core/HexDigitValuePinLaw" ret "law") {T : State} {h : Heap} {z0 : Slot} {z1 : Slot} {z2 : Slot} {z3 : Slot} {z4 : Slot} {z5 : Slot} {z6 : Slot} {z8 : Slot} {z9 : Slot} {z10 : Slot} (k_COMPACT_STRINGS : Int32) (k_SIOOBE_FORMATTER : Option Addr) (X : Stand p l e R0 s m args below meth c T [] 4 136) (eT : T.heap = h) (S_COMPACT_STRINGS : Sta Z h "java/lang/String" "COMPACT_STRINGS" "Z" (.int k_COMPACT_STRINGS)) (S_SIOOBE_FORMATTER : Sta Z h "jdk/internal/util/Preconditions" "SIOOBE_FORMATTER" "Ljava/util/function/BiFunction;" (own_rv k_SIOOBE_FORMATTER)) (hz0 : One z0) (hz1 : One z1) (hz2 : One z2) (hz3 : One z3) (hz4 : One z4) (hz5 : One z5) (hz6 : One z6) (hz8 : One z8) (hz9 : One z9) (hz10 : One z10) (hK : K (some (.int (f0_125_12 k_COMPACT_STRINGS))) h []) : own_Go p e below (own_Q s K cc0 ss0) T (mkF m 125 #[z0, z1, z2, z3, z4, z5, z6, .val (.int (1 : Int32)), z8, z9, z10] []) := by
  obtain ⟨hx, hZ, hw, hby, hml, hown, hret, hlk, hnm⟩ := id C
  unfold f0_125_12 at hK
  refine o_iconst (pc' := 126) (x := (0 : Int32)) X hx (hb hby at_125) (by decide) rfl ?_
  refine o_istoreS (pc' := 128) (l' := #[z0, z1, z2, z3, z4, z5, z6, .val (.int (1 : Int32)), z8, z9, .val (.int (0 : Int32))]) X hx (hb hby at_126) rfl hz10 rfl rfl ?_
  exact b0_128_13 C k_COMPACT_STRINGS k_SIOOBE_FORMATTER X eT S_COMPACT_STRINGS S_SIOOBE_FORMATTER hz0 hz1 hz2 hz3 hz4 hz5 hz6 hz8 hz9 hK

def f0_143_17 (k_COMPACT_STRINGS : Int32) : Int32 := (1 : Int32)
set_option maxRecDepth 65536 in
set_option maxHeartbeats 40000000 in
theorem b0_143_17 (C : own_Cx p s m meth c Z ag code maxLocals "com/example/plumbline/plumbline/core/HexDigitValuePinLaw" ret "law") {T : State} {h : Heap} {z0 : Slot} {z1 : Slot} {z2 : Slot} {z3 : Slot} {z4 : Slot} {z5 : Slot} {z6 : Slot} {z7 : Slot} {z8 : Slot} {z9 : Slot} {z10 : Slot} (k_COMPACT_STRINGS : Int32) (k_SIOOBE_FORMATTER : Option Addr) (X : Stand p l e R0 s m args below meth c T [] 4 136) (eT : T.heap = h) (S_COMPACT_STRINGS : Sta Z h "java/lang/String" "COMPACT_STRINGS" "Z" (.int k_COMPACT_STRINGS)) (S_SIOOBE_FORMATTER : Sta Z h "jdk/internal/util/Preconditions" "SIOOBE_FORMATTER" "Ljava/util/function/BiFunction;" (own_rv k_SIOOBE_FORMATTER)) (hz0 : One z0) (hz1 : One z1) (hz2 : One z2) (hz3 : One z3) (hz4 : One z4) (hz5 : One z5) (hz6 : One z6) (hz7 : One z7) (hz8 : One z8) (hz9 : One z9) (hz10 : One z10) (hK : K (some (.int (f0_143_17 k_COMPACT_STRINGS))) h []) : own_Go p e below (own_Q s K cc0 ss0) T (mkF m 143 #[z0, z1, z2, z3, z4, z5, z6, z7, z8, z9, z10] [(.int (1 : Int32))]) := by
  obtain ⟨hx, hZ, hw, hby, hml, hown, hret, hlk, hnm⟩ := id C
  unfold f0_143_17 at hK
  exact o_retN X hx (t := .boolean) hret (by simp) hlk (hb hby at_143) (by decide) (by decide) eT (hK)

def f0_128_16 (k_COMPACT_STRINGS : Int32) : Int32 := (f0_143_17 k_COMPACT_STRINGS)
set_option maxRecDepth 65536 in
set_option maxHeartbeats 40000000 in
theorem b0_128_16 (C : own_Cx p s m meth c Z ag code maxLocals "com/example/plumbline/plumbline/core/HexDigitValuePinLaw" ret "law") {T : State} {h : Heap} {z0 : Slot} {z1 : Slot} {z2 : Slot} {z3 : Slot} {z4 : Slot} {z5 : Slot} {z6 : Slot} {z8 : Slot} {z9 : Slot} (k_COMPACT_STRINGS : Int32) (k_SIOOBE_FORMATTER : Option Addr) (X : Stand p l e R0 s m args below meth c T [] 4 136) (eT : T.heap = h) (S_COMPACT_STRINGS : Sta Z h "java/lang/String" "COMPACT_STRINGS" "Z" (.int k_COMPACT_STRINGS)) (S_SIOOBE_FORMATTER : Sta Z h "jdk/internal/util/Preconditions" "SIOOBE_FORMATTER" "Ljava/util/function/BiFunction;" (own_rv k_SIOOBE_FORMATTER)) (hz0 : One z0) (hz1 : One z1) (hz2 : One z2) (hz3 : One z3) (hz4 : One z4) (hz5 : One z5) (hz6 : One z6) (hz8 : One z8) (hz9 : One z9) (hK : K (some (.int (f0_128_16 k_COMPACT_STRINGS))) h []) : own_Go p e below (own_Q s K cc0 ss0) T (mkF m 128 #[z0, z1, z2, z3, z4, z5, z6, .val (.int (1 : Int32)), z8, z9, .val (.int (1 : Int32))] []) := by
  obtain ⟨hx, hZ, hw, hby, hml, hown, hret, hlk, hnm⟩ := id C
  unfold f0_128_16 at hK
  refine o_iload (pc' := 130) X hx (hb hby at_128) rfl rfl ?_
  refine o_ifX (pc' := 133) X hx (by decide) (hb hby at_130) rfl ?_
  refine o_iload (pc' := 135) X hx (hb hby at_133) rfl rfl ?_
  refine o_ifX (pc' := 138) X hx (by decide) (hb hby at_135) rfl ?_
  refine o_iconst (pc' := 139) (x := (1 : Int32)) X hx (hb hby at_138) (by decide) rfl ?_
  refine o_goto (pc' := 143) X hx (hb hby at_139) (by decide) (by decide) ?_
  exact b0_143_17 C k_COMPACT_STRINGS k_SIOOBE_FORMATTER X eT S_COMPACT_STRINGS S_SIOOBE_FORMATTER hz0 hz1 hz2 hz3 hz4 hz5 hz6 (One.val rfl) hz8 hz9 (One.val rfl) hK

def f0_120_15 (k_COMPACT_STRINGS : Int32) : Int32 := (f0_128_16 k_COMPACT_STRINGS)
set_option maxRecDepth 65536 in
set_option maxHeartbeats 40000000 in
theorem b0_120_15 (C : own_Cx p s m meth c Z ag code maxLocals "com/example/plumbline/plumbline/core/HexDigitValuePinLaw" ret "law") {T : State} {h : Heap} {z0 : Slot} {z1 : Slot} {z2 : Slot} {z3 : Slot} {z4 : Slot} {z5 : Slot} {z6 : Slot} {z8 : Slot} {z9 : Slot} {z10 : Slot} (k_COMPACT_STRINGS : Int32) (k_SIOOBE_FORMATTER : Option Addr) (X : Stand p l e R0 s m args below meth c T [] 4 136) (eT : T.heap = h) (S_COMPACT_STRINGS : Sta Z h "java/lang/String" "COMPACT_STRINGS" "Z" (.int k_COMPACT_STRINGS)) (S_SIOOBE_FORMATTER : Sta Z h "jdk/internal/util/Preconditions" "SIOOBE_FORMATTER" "Ljava/util/function/BiFunction;" (own_rv k_SIOOBE_FORMATTER)) (hz0 : One z0) (hz1 : One z1) (hz2 : One z2) (hz3 : One z3) (hz4 : One z4) (hz5 : One z5) (hz6 : One z6) (hz8 : One z8) (hz9 : One z9) (hz10 : One z10) (hK : K (some (.int (f0_120_15 k_COMPACT_STRINGS))) h []) : own_Go p e below (own_Q s K cc0 ss0) T (mkF m 120 #[z0, z1, z2, z3, z4, z5, z6, .val (.int (1 : Int32)), z8, z9, z10] [(.int (1 : Int32))]) := by
  obtain ⟨hx, hZ, hw, hby, hml, hown, hret, hlk, hnm⟩ := id C
  unfold f0_120_15 at hK
  refine o_istoreS (pc' := 122) (l' := #[z0, z1, z2, z3, z4, z5, z6, .val (.int (1 : Int32)), z8, z9, .val (.int (1 : Int32))]) X hx (hb hby at_120) rfl hz10 rfl rfl ?_
  refine o_goto (pc' := 128) X hx (hb hby at_122) (by decide) (by decide) ?_
  exact b0_128_16 C k_COMPACT_STRINGS k_SIOOBE_FORMATTER X eT S_COMPACT_STRINGS S_SIOOBE_FORMATTER hz0 hz1 hz2 hz3 hz4 hz5 hz6 hz8 hz9 hK

def f0_115_14 (k_COMPACT_STRINGS : Int32) : Int32 := (f0_120_15 k_COMPACT_STRINGS)
set_option maxRecDepth 65536 in
set_option maxHeartbeats 40000000 in
theorem b0_115_14 (C : own_Cx p s m meth c Z ag code maxLocals "com/example/plumbline/plumbline/core/HexDigitValuePinLaw" ret "law") {T : State} {h : Heap} {z0 : Slot} {z1 : Slot} {z2 : Slot} {z3 : Slot} {z4 : Slot} {z5 : Slot} {z6 : Slot} {z8 : Slot} {z9 : Slot} {z10 : Slot} (k_COMPACT_STRINGS : Int32) (k_SIOOBE_FORMATTER : Option Addr) (X : Stand p l e R0 s m args below meth c T [] 4 136) (eT : T.heap = h) (S_COMPACT_STRINGS : Sta Z h "java/lang/String" "COMPACT_STRINGS" "Z" (.int k_COMPACT_STRINGS)) (S_SIOOBE_FORMATTER : Sta Z h "jdk/internal/util/Preconditions" "SIOOBE_FORMATTER" "Ljava/util/function/BiFunction;" (own_rv k_SIOOBE_FORMATTER)) (hz0 : One z0) (hz1 : One z1) (hz2 : One z2) (hz3 : One z3) (hz4 : One z4) (hz5 : One z5) (hz6 : One z6) (hz8 : One z8) (hz9 : One z9) (hz10 : One z10) (hK : K (some (.int (f0_115_14 k_COMPACT_STRINGS))) h []) : own_Go p e below (own_Q s K cc0 ss0) T (mkF m 115 #[z0, z1, z2, z3, z4, z5, z6, .val (.int (1 : Int32)), z8, z9, z10] []) := by
  obtain ⟨hx, hZ, hw, hby, hml, hown, hret, hlk, hnm⟩ := id C
  unfold f0_115_14 at hK
  refine o_iconst (pc' := 116) (x := (1 : Int32)) X hx (hb hby at_115) (by decide) rfl ?_
  refine o_goto (pc' := 120) X hx (hb hby at_116) (by decide) (by decide) ?_
  exact b0_120_15 C k_COMPACT_STRINGS k_SIOOBE_FORMATTER X eT S_COMPACT_STRINGS S_SIOOBE_FORMATTER hz0 hz1 hz2 hz3 hz4 hz5 hz6 hz8 hz9 hz10 hK

def f0_120_18 (k_COMPACT_STRINGS : Int32) : Int32 := (f0_128_13 k_COMPACT_STRINGS)
set_option maxRecDepth 65536 in
set_option maxHeartbeats 40000000 in
theorem b0_120_18 (C : own_Cx p s m meth c Z ag code maxLocals "com/example/plumbline/plumbline/core/HexDigitValuePinLaw" ret "law") {T : State} {h : Heap} {z0 : Slot} {z1 : Slot} {z2 : Slot} {z3 : Slot} {z4 : Slot} {z5 : Slot} {z6 : Slot} {z8 : Slot} {z9 : Slot} {z10 : Slot} (k_COMPACT_STRINGS : Int32) (k_SIOOBE_FORMATTER : Option Addr) (X : Stand p l e R0 s m args below meth c T [] 4 136) (eT : T.heap = h) (S_COMPACT_STRINGS : Sta Z h "java/lang/String" "COMPACT_STRINGS" "Z" (.int k_COMPACT_STRINGS)) (S_SIOOBE_FORMATTER : Sta Z h "jdk/internal/util/Preconditions" "SIOOBE_FORMATTER" "Ljava/util/function/BiFunction;" (own_rv k_SIOOBE_FORMATTER)) (hz0 : One z0) (hz1 : One z1) (hz2 : One z2) (hz3 : One z3) (hz4 : One z4) (hz5 : One z5) (hz6 : One z6) (hz8 : One z8) (hz9 : One z9) (hz10 : One z10) (hK : K (some (.int (f0_120_18 k_COMPACT_STRINGS))) h []) : own_Go p e below (own_Q s K cc0 ss0) T (mkF m 120 #[z0, z1, z2, z3, z4, z5, z6, .val (.int (1 : Int32)), z8, z9, z10] [(.int (0 : Int32))]) := by
  obtain ⟨hx, hZ, hw, hby, hml, hown, hret, hlk, hnm⟩ := id C
  unfold f0_120_18 at hK
  refine o_istoreS (pc' := 122) (l' := #[z0, z1, z2, z3, z4, z5, z6, .val (.int (1 : Int32)), z8, z9, .val (.int (0 : Int32))]) X hx (hb hby at_120) rfl hz10 rfl rfl ?_
  refine o_goto (pc' := 128) X hx (hb hby at_122) (by decide) (by decide) ?_
  exact b0_128_13 C k_COMPACT_STRINGS k_SIOOBE_FORMATTER X eT S_COMPACT_STRINGS S_SIOOBE_FORMATTER hz0 hz1 hz2 hz3 hz4 hz5 hz6 hz8 hz9 hK

def f0_53_11 (k_COMPACT_STRINGS : Int32) (x0 : Int32) (v1 : List Int32) (v3 : List Int32) : Int32 := (if (f6_0 (own_i2c (x0 &&& (65535 : Int32)))) = (-1 : Int32) then (f0_128_16 k_COMPACT_STRINGS) else (if (f6_0 (own_i2c (x0 &&& (65535 : Int32)))) < (0 : Int32) then (f0_125_12 k_COMPACT_STRINGS) else (if (15 : Int32) < (f6_0 (own_i2c (x0 &&& (65535 : Int32)))) then (f0_125_12 k_COMPACT_STRINGS) else (if (own_i2c (x0 &&& (65535 : Int32))) = (f1_0 k_COMPACT_STRINGS (0 : Int32) v1 (f6_0 (own_i2c (x0 &&& (65535 : Int32))))) then (f0_115_14 k_COMPACT_STRINGS) else (if (own_i2c (x0 &&& (65535 : Int32))) = (f1_0 k_COMPACT_STRINGS (0 : Int32) v3 (f6_0 (own_i2c (x0 &&& (65535 : Int32))))) then (f0_115_14 k_COMPACT_STRINGS) else (f0_120_18 k_COMPACT_STRINGS))))))
def s0_53_11 (k_COMPACT_STRINGS : Int32) (x0 : Int32) (v1 : List Int32) (v3 : List Int32) : Prop := (((f6_0 (own_i2c (x0 &&& (65535 : Int32)))) = (-1 : Int32) → True) ∧ (¬ ((f6_0 (own_i2c (x0 &&& (65535 : Int32)))) = (-1 : Int32)) → (((f6_0 (own_i2c (x0 &&& (65535 : Int32)))) < (0 : Int32) → True) ∧ (¬ ((f6_0 (own_i2c (x0 &&& (65535 : Int32)))) < (0 : Int32)) → (((15 : Int32) < (f6_0 (own_i2c (x0 &&& (65535 : Int32)))) → True) ∧ (¬ ((15 : Int32) < (f6_0 (own_i2c (x0 &&& (65535 : Int32))))) → ((s1_0 k_COMPACT_STRINGS (0 : Int32) v1 (f6_0 (own_i2c (x0 &&& (65535 : Int32))))) ∧ (((own_i2c (x0 &&& (65535 : Int32))) = (f1_0 k_COMPACT_STRINGS (0 : Int32) v1 (f6_0 (own_i2c (x0 &&& (65535 : Int32))))) → True) ∧ (¬ ((own_i2c (x0 &&& (65535 : Int32))) = (f1_0 k_COMPACT_STRINGS (0 : Int32) v1 (f6_0 (own_i2c (x0 &&& (65535 : Int32)))))) → ((s1_0 k_COMPACT_STRINGS (0 : Int32) v3 (f6_0 (own_i2c (x0 &&& (65535 : Int32))))) ∧ True))))))))))
set_option maxRecDepth 65536 in
set_option maxHeartbeats 40000000 in
theorem b0_53_11 (C : own_Cx p s m meth c Z ag code maxLocals "com/example/plumbline/plumbline/core/HexDigitValuePinLaw" ret "law") {T : State} {h : Heap} {z1 : Slot} {z4 : Slot} {z5 : Slot} {z6 : Slot} {z7 : Slot} {z8 : Slot} {z9 : Slot} {z10 : Slot} (k_COMPACT_STRINGS : Int32) (k_SIOOBE_FORMATTER : Option Addr) (x0 : Int32) (a0 : Addr) (a1 : Addr) (v1 : List Int32) (a2 : Addr) (a3 : Addr) (v3 : List Int32) (X : Stand p l e R0 s m args below meth c T [] 4 136) (eT : T.heap = h) (Aa1 : own_AI Z h a1 .byte v1) (Aa3 : own_AI Z h a3 .byte v3) (S_COMPACT_STRINGS : Sta Z h "java/lang/String" "COMPACT_STRINGS" "Z" (.int k_COMPACT_STRINGS)) (S_SIOOBE_FORMATTER : Sta Z h "jdk/internal/util/Preconditions" "SIOOBE_FORMATTER" "Ljava/util/function/BiFunction;" (own_rv k_SIOOBE_FORMATTER)) (Ea0 : Exa Z h a0 "java/lang/String") (Fa0_coder : Fld Z h a0 "java/lang/String" "coder" "B" (.int (0 : Int32))) (Fa0_value : Fld Z h a0 "java/lang/String" "value" "[B" (.ref a1)) (Ea2 : Exa Z h a2 "java/lang/String") (Fa2_coder : Fld Z h a2 "java/lang/String" "coder" "B" (.int (0 : Int32))) (Fa2_value : Fld Z h a2 "java/lang/String" "value" "[B" (.ref a3)) (hz1 : One z1) (hz4 : One z4) (hz5 : One z5) (hz6 : One z6) (hz7 : One z7) (hz8 : One z8) (hz9 : One z9) (hz10 : One z10) (hs : s0_53_11 k_COMPACT_STRINGS x0 v1 v3) (hK : K (some (.int (f0_53_11 k_COMPACT_STRINGS x0 v1 v3))) h []) : own_Go p e below (own_Q s K cc0 ss0) T (mkF m 53 #[.val (.int x0), z1, .val (.ref a0), .val (.ref a2), z4, z5, z6, z7, z8, z9, z10] [(.int (1 : Int32))]) := by
  obtain ⟨hx, hZ, hw, hby, hml, hown, hret, hlk, hnm⟩ := id C
  unfold f0_53_11 at hK
  unfold s0_53_11 at hs
  refine o_istoreS (pc' := 55) (l' := #[.val (.int x0), z1, .val (.ref a0), .val (.ref a2), z4, z5, z6, .val (.int (1 : Int32)), z8, z9, z10]) X hx (hb hby at_53) rfl hz7 rfl rfl ?_
  refine o_iloadN (pc' := 56) X hx (hb hby at_55) rfl rfl ?_
  refine o_ldcI (pc' := 58) X hx hZ hown (hw _ (List.mem_of_getElem? (i := 38) rfl)) (hb hby at_56) rfl ?_
  refine o_iand (pc' := 59)  X hx (hb hby at_58) rfl rfl ?_
  refine o_i2c (pc' := 60)  X hx (hb hby at_59) rfl rfl ?_
  refine o_istoreS (pc' := 62) (l' := #[.val (.int x0), z1, .val (.ref a0), .val (.ref a2), z4, z5, z6, .val (.int (1 : Int32)), .val (.int (own_i2c (x0 &&& (65535 : Int32)))), z9, z10]) X hx (hb hby at_60) rfl hz8 rfl rfl ?_
  refine o_iload (pc' := 64) X hx (hb hby at_62) rfl rfl ?_
  refine o_callP (W := 0) (pc' := 67) (argsL := [(.int (own_i2c (x0 &&& (65535 : Int32))))]) (rest := []) (st' := [(.int (f6_0 (own_i2c (x0 &&& (65535 : Int32)))))]) X hx hZ eT hown (hw _ (List.mem_of_getElem? (i := 34) rfl)) (hw _ (List.mem_of_getElem? (i := 35) rfl)) (hw _ (List.mem_of_getElem? (i := 36) rfl)) (hw _ (List.mem_of_getElem? (i := 37) rfl)) (by decide) (rm6 l Z ag hw [] (own_i2c (x0 &&& (65535 : Int32))) h) (by decide) (by decide) (by rw [hml]; rfl) pd_5 rfl rfl rfl rfl (hb hby at_64) rfl rfl rfl (by decide) (by decide) rfl fun T35 X35 e35 => ?_
  refine o_istoreS (pc' := 69) (l' := #[.val (.int x0), z1, .val (.ref a0), .val (.ref a2), z4, z5, z6, .val (.int (1 : Int32)), .val (.int (own_i2c (x0 &&& (65535 : Int32)))), .val (.int (f6_0 (own_i2c (x0 &&& (65535 : Int32))))), z10]) X35 hx (hb hby at_67) rfl hz9 rfl rfl ?_
  refine o_iload (pc' := 71) X35 hx (hb hby at_69) rfl rfl ?_
  refine o_iconst (pc' := 72) (x := (-1 : Int32)) X35 hx (hb hby at_71) (by decide) rfl ?_
  refine o_icN (P := (f6_0 (own_i2c (x0 &&& (65535 : Int32)))) = (-1 : Int32)) (pc1 := 81) (pc2 := 75) X35 hx XT.ii_ne_f XT.ii_ne_t (hb hby at_72) (by decide) (by decide) rfl (fun c36 => ?_) (fun c36 => ?_)
  · rw [if_neg c36] at hK
    refine o_iload (pc' := 83) X35 hx (hb hby at_81) rfl rfl ?_
    refine o_ifP (P := (f6_0 (own_i2c (x0 &&& (65535 : Int32)))) < (0 : Int32)) (pc1 := 125) (pc2 := 86) X35 hx XT.i0_lt_t XT.i0_lt_f (hb hby at_83) (by decide) (by decide) rfl (fun c37 => ?_) (fun c37 => ?_)
    · rw [if_pos c37] at hK
      exact b0_125_12 C k_COMPACT_STRINGS k_SIOOBE_FORMATTER X35 e35 S_COMPACT_STRINGS S_SIOOBE_FORMATTER (One.val rfl) hz1 (One.val rfl) (One.val rfl) hz4 hz5 hz6 (One.val rfl) (One.val rfl) hz10 hK
    · rw [if_neg c37] at hK
      refine o_iload (pc' := 88) X35 hx (hb hby at_86) rfl rfl ?_
      refine o_bipush (pc' := 90) (x := (15 : Int32)) X35 hx (hb hby at_88) (by decide) rfl ?_
      refine o_icP (P := (15 : Int32) < (f6_0 (own_i2c (x0 &&& (65535 : Int32))))) (pc1 := 125) (pc2 := 93) X35 hx XT.ii_gt_t XT.ii_gt_f (hb hby at_90) (by decide) (by decide) rfl (fun c38 => ?_) (fun c38 => ?_)
      · rw [if_pos c38] at hK
        exact b0_125_12 C k_COMPACT_STRINGS k_SIOOBE_FORMATTER X35 e35 S_COMPACT_STRINGS S_SIOOBE_FORMATTER (One.val rfl) hz1 (One.val rfl) (One.val rfl) hz4 hz5 hz6 (One.val rfl) (One.val rfl) hz10 hK
      · rw [if_neg c38] at hK
        refine o_iload (pc' := 95) X35 hx (hb hby at_93) rfl rfl ?_
        refine o_aloadN (pc' := 96) X35 hx (hb hby at_95) rfl rfl rfl ?_
        refine o_iload (pc' := 98) X35 hx (hb hby at_96) rfl rfl ?_
        refine o_callV (W := 1) (pc' := 101) (a := a0) (argsL := [(.int (f6_0 (own_i2c (x0 &&& (65535 : Int32)))))]) (rest := [(.int (own_i2c (x0 &&& (65535 : Int32))))]) X35 hx hZ e35 hown (hw _ (List.mem_of_getElem? (i := 9) rfl)) (hw _ (List.mem_of_getElem? (i := 10) rfl)) (hw _ (List.mem_of_getElem? (i := 12) rfl)) (hw _ (List.mem_of_getElem? (i := 11) rfl)) (hw _ (List.mem_of_getElem? (i := 1) rfl)) (hw _ (List.mem_of_getElem? (i := 13) rfl)) (by decide) (rm1 l Z ag hw [] k_COMPACT_STRINGS k_SIOOBE_FORMATTER a0 (0 : Int32) a1 v1 (f6_0 (own_i2c (x0 &&& (65535 : Int32)))) h Aa1 S_COMPACT_STRINGS S_SIOOBE_FORMATTER Ea0 Fa0_coder Fa0_value (((hs.2 c36).2 c37).2 c38).1) (by decide) (by decide) (by rw [hml]; rfl) Ea0 pd_4 rfl rfl rfl rfl (hb hby at_98) rfl (by decide) (by decide) fun v39 T39 L39 X39 k39 => ?_
        obtain ⟨rfl, e39, rfl⟩ := k39
        have Y39 : Stand p l e R0 s m args below meth c T39 [] 4 136 := own_nil X39
        show own_Go p e below _ T39 (mkF m 101 #[.val (.int x0), z1, .val (.ref a0), .val (.ref a2), z4, z5, z6, .val (.int (1 : Int32)), .val (.int (own_i2c (x0 &&& (65535 : Int32)))), .val (.int (f6_0 (own_i2c (x0 &&& (65535 : Int32))))), z10] [(.int (f1_0 k_COMPACT_STRINGS (0 : Int32) v1 (f6_0 (own_i2c (x0 &&& (65535 : Int32)))))), (.int (own_i2c (x0 &&& (65535 : Int32))))])
        refine o_icP (P := (own_i2c (x0 &&& (65535 : Int32))) = (f1_0 k_COMPACT_STRINGS (0 : Int32) v1 (f6_0 (own_i2c (x0 &&& (65535 : Int32)))))) (pc1 := 115) (pc2 := 104) Y39 hx XT.ii_eq_t XT.ii_eq_f (hb hby at_101) (by decide) (by decide) rfl (fun c40 => ?_) (fun c40 => ?_)
        · rw [if_pos c40] at hK
          exact b0_115_14 C k_COMPACT_STRINGS k_SIOOBE_FORMATTER Y39 e39 S_COMPACT_STRINGS S_SIOOBE_FORMATTER (One.val rfl) hz1 (One.val rfl) (One.val rfl) hz4 hz5 hz6 (One.val rfl) (One.val rfl) hz10 hK
        · rw [if_neg c40] at hK
          refine o_iload (pc' := 106) Y39 hx (hb hby at_104) rfl rfl ?_
          refine o_aloadN (pc' := 107) Y39 hx (hb hby at_106) rfl rfl rfl ?_
          refine o_iload (pc' := 109) Y39 hx (hb hby at_107) rfl rfl ?_
          refine o_callV (W := 1) (pc' := 112) (a := a2) (argsL := [(.int (f6_0 (own_i2c (x0 &&& (65535 : Int32)))))]) (rest := [(.int (own_i2c (x0 &&& (65535 : Int32))))]) Y39 hx hZ e39 hown (hw _ (List.mem_of_getElem? (i := 9) rfl)) (hw _ (List.mem_of_getElem? (i := 10) rfl)) (hw _ (List.mem_of_getElem? (i := 12) rfl)) (hw _ (List.mem_of_getElem? (i := 11) rfl)) (hw _ (List.mem_of_getElem? (i := 1) rfl)) (hw _ (List.mem_of_getElem? (i := 13) rfl)) (by decide) (rm1 l Z ag hw [] k_COMPACT_STRINGS k_SIOOBE_FORMATTER a2 (0 : Int32) a3 v3 (f6_0 (own_i2c (x0 &&& (65535 : Int32)))) h Aa3 S_COMPACT_STRINGS S_SIOOBE_FORMATTER Ea2 Fa2_coder Fa2_value ((((hs.2 c36).2 c37).2 c38).2.2 c40).1) (by decide) (by decide) (by rw [hml]; rfl) Ea2 pd_4 rfl rfl rfl rfl (hb hby at_109) rfl (by decide) (by decide) fun v41 T41 L41 X41 k41 => ?_
          obtain ⟨rfl, e41, rfl⟩ := k41
          have Y41 : Stand p l e R0 s m args below meth c T41 [] 4 136 := own_nil X41
          show own_Go p e below _ T41 (mkF m 112 #[.val (.int x0), z1, .val (.ref a0), .val (.ref a2), z4, z5, z6, .val (.int (1 : Int32)), .val (.int (own_i2c (x0 &&& (65535 : Int32)))), .val (.int (f6_0 (own_i2c (x0 &&& (65535 : Int32))))), z10] [(.int (f1_0 k_COMPACT_STRINGS (0 : Int32) v3 (f6_0 (own_i2c (x0 &&& (65535 : Int32)))))), (.int (own_i2c (x0 &&& (65535 : Int32))))])
          refine o_icN (P := (own_i2c (x0 &&& (65535 : Int32))) = (f1_0 k_COMPACT_STRINGS (0 : Int32) v3 (f6_0 (own_i2c (x0 &&& (65535 : Int32)))))) (pc1 := 119) (pc2 := 115) Y41 hx XT.ii_ne_f XT.ii_ne_t (hb hby at_112) (by decide) (by decide) rfl (fun c42 => ?_) (fun c42 => ?_)
          · rw [if_neg c42] at hK
            refine o_iconst (pc' := 120) (x := (0 : Int32)) Y41 hx (hb hby at_119) (by decide) rfl ?_
            exact b0_120_18 C k_COMPACT_STRINGS k_SIOOBE_FORMATTER Y41 e41 S_COMPACT_STRINGS S_SIOOBE_FORMATTER (One.val rfl) hz1 (One.val rfl) (One.val rfl) hz4 hz5 hz6 (One.val rfl) (One.val rfl) hz10 hK
          · rw [if_pos c42] at hK
            exact b0_115_14 C k_COMPACT_STRINGS k_SIOOBE_FORMATTER Y41 e41 S_COMPACT_STRINGS S_SIOOBE_FORMATTER (One.val rfl) hz1 (One.val rfl) (One.val rfl) hz4 hz5 hz6 (One.val rfl) (One.val rfl) hz10 hK
  · rw [if_pos c36] at hK
    refine o_iconst (pc' := 76) (x := (1 : Int32)) X35 hx (hb hby at_75) (by decide) rfl ?_
    refine o_istoreS (pc' := 78) (l' := #[.val (.int x0), z1, .val (.ref a0), .val (.ref a2), z4, z5, z6, .val (.int (1 : Int32)), .val (.int (own_i2c (x0 &&& (65535 : Int32)))), .val (.int (f6_0 (own_i2c (x0 &&& (65535 : Int32))))), .val (.int (1 : Int32))]) X35 hx (hb hby at_76) rfl hz10 rfl rfl ?_
    refine o_goto (pc' := 128) X35 hx (hb hby at_78) (by decide) (by decide) ?_
    exact b0_128_16 C k_COMPACT_STRINGS k_SIOOBE_FORMATTER X35 e35 S_COMPACT_STRINGS S_SIOOBE_FORMATTER (One.val rfl) hz1 (One.val rfl) (One.val rfl) hz4 hz5 hz6 (One.val rfl) (One.val rfl) hK

def f0_6 (k_COMPACT_STRINGS : Int32) (p0 : Int32) (p1 : Int32) (v2 : List Int32) (v3 : List Int32) : Int32 := (if (f6_0 (f1_0 k_COMPACT_STRINGS (0 : Int32) v2 (p1 &&& (15 : Int32)))) = (p1 &&& (15 : Int32)) then (if (f6_0 (f1_0 k_COMPACT_STRINGS (0 : Int32) v3 (p1 &&& (15 : Int32)))) = (p1 &&& (15 : Int32)) then (f0_53_11 k_COMPACT_STRINGS p0 v2 v3) else (f0_52 k_COMPACT_STRINGS p0 v2 v3)) else (f0_52 k_COMPACT_STRINGS p0 v2 v3))
def s0_6 (k_COMPACT_STRINGS : Int32) (p0 : Int32) (p1 : Int32) (v2 : List Int32) (v3 : List Int32) : Prop := ((s1_0 k_COMPACT_STRINGS (0 : Int32) v2 (p1 &&& (15 : Int32))) ∧ (s1_0 k_COMPACT_STRINGS (0 : Int32) v3 (p1 &&& (15 : Int32))) ∧ (((f6_0 (f1_0 k_COMPACT_STRINGS (0 : Int32) v2 (p1 &&& (15 : Int32)))) = (p1 &&& (15 : Int32)) → (((f6_0 (f1_0 k_COMPACT_STRINGS (0 : Int32) v3 (p1 &&& (15 : Int32)))) = (p1 &&& (15 : Int32)) → s0_53_11 k_COMPACT_STRINGS p0 v2 v3) ∧ (¬ ((f6_0 (f1_0 k_COMPACT_STRINGS (0 : Int32) v3 (p1 &&& (15 : Int32)))) = (p1 &&& (15 : Int32))) → s0_52 k_COMPACT_STRINGS p0 v2 v3))) ∧ (¬ ((f6_0 (f1_0 k_COMPACT_STRINGS (0 : Int32) v2 (p1 &&& (15 : Int32)))) = (p1 &&& (15 : Int32))) → s0_52 k_COMPACT_STRINGS p0 v2 v3)))
set_option maxRecDepth 65536 in
set_option maxHeartbeats 40000000 in
theorem b0_6 (C : own_Cx p s m meth c Z ag code maxLocals "com/example/plumbline/plumbline/core/HexDigitValuePinLaw" ret "law") {T : State} {h : Heap} (k_COMPACT_STRINGS : Int32) (k_SIOOBE_FORMATTER : Option Addr) (p0 : Int32) (p1 : Int32) (a2 : Addr) (r2 : Addr) (v2 : List Int32) (a3 : Addr) (r3 : Addr) (v3 : List Int32) (X : Stand p l e R0 s m args below meth c T [] 4 136) (eT : T.heap = h) (Ar2 : own_AI Z h r2 .byte v2) (Ar3 : own_AI Z h r3 .byte v3) (S_COMPACT_STRINGS : Sta Z h "java/lang/String" "COMPACT_STRINGS" "Z" (.int k_COMPACT_STRINGS)) (S_SIOOBE_FORMATTER : Sta Z h "jdk/internal/util/Preconditions" "SIOOBE_FORMATTER" "Ljava/util/function/BiFunction;" (own_rv k_SIOOBE_FORMATTER)) (Ea2 : Exa Z h a2 "java/lang/String") (Fa2_coder : Fld Z h a2 "java/lang/String" "coder" "B" (.int (0 : Int32))) (Fa2_value : Fld Z h a2 "java/lang/String" "value" "[B" (.ref r2)) (Ea3 : Exa Z h a3 "java/lang/String") (Fa3_coder : Fld Z h a3 "java/lang/String" "coder" "B" (.int (0 : Int32))) (Fa3_value : Fld Z h a3 "java/lang/String" "value" "[B" (.ref r3)) (hs : s0_6 k_COMPACT_STRINGS p0 p1 v2 v3) (hK : K (some (.int (f0_6 k_COMPACT_STRINGS p0 p1 v2 v3))) h []) : own_Go p e below (own_Q s K cc0 ss0) T (mkF m 6 #[.val (.int p0), .val (.int p1), .val (.ref a2), .val (.ref a3), .unset, .unset, .unset, .unset, .unset, .unset, .unset] []) := by
  obtain ⟨hx, hZ, hw, hby, hml, hown, hret, hlk, hnm⟩ := id C
  unfold f0_6 at hK
  unfold s0_6 at hs
  refine o_iloadN (pc' := 7) X hx (hb hby at_6) rfl rfl ?_
  refine o_bipush (pc' := 9) (x := (15 : Int32)) X hx (hb hby at_7) (by decide) rfl ?_
  refine o_iand (pc' := 10)  X hx (hb hby at_9) rfl rfl ?_
  refine o_istore (pc' := 12) (l' := #[.val (.int p0), .val (.int p1), .val (.ref a2), .val (.ref a3), .val (.int (p1 &&& (15 : Int32))), .unset, .unset, .unset, .unset, .unset, .unset]) X hx (hb hby at_10) rfl rfl ?_
  refine o_aloadN (pc' := 13) X hx (hb hby at_12) rfl rfl rfl ?_
  refine o_iload (pc' := 15) X hx (hb hby at_13) rfl rfl ?_
  refine o_callV (W := 0) (pc' := 18) (a := a2) (argsL := [(.int (p1 &&& (15 : Int32)))]) (rest := []) X hx hZ eT hown (hw _ (List.mem_of_getElem? (i := 9) rfl)) (hw _ (List.mem_of_getElem? (i := 10) rfl)) (hw _ (List.mem_of_getElem? (i := 12) rfl)) (hw _ (List.mem_of_getElem? (i := 11) rfl)) (hw _ (List.mem_of_getElem? (i := 1) rfl)) (hw _ (List.mem_of_getElem? (i := 13) rfl)) (by decide) (rm1 l Z ag hw [] k_COMPACT_STRINGS k_SIOOBE_FORMATTER a2 (0 : Int32) r2 v2 (p1 &&& (15 : Int32)) h Ar2 S_COMPACT_STRINGS S_SIOOBE_FORMATTER Ea2 Fa2_coder Fa2_value hs.1) (by decide) (by decide) (by rw [hml]; rfl) Ea2 pd_4 rfl rfl rfl rfl (hb hby at_15) rfl (by decide) (by decide) fun v21 T21 L21 X21 k21 => ?_
  obtain ⟨rfl, e21, rfl⟩ := k21
  have Y21 : Stand p l e R0 s m args below meth c T21 [] 4 136 := own_nil X21
  show own_Go p e below _ T21 (mkF m 18 #[.val (.int p0), .val (.int p1), .val (.ref a2), .val (.ref a3), .val (.int (p1 &&& (15 : Int32))), .unset, .unset, .unset, .unset, .unset, .unset] [(.int (f1_0 k_COMPACT_STRINGS (0 : Int32) v2 (p1 &&& (15 : Int32))))])
  refine o_istore (pc' := 20) (l' := #[.val (.int p0), .val (.int p1), .val (.ref a2), .val (.ref a3), .val (.int (p1 &&& (15 : Int32))), .val (.int (f1_0 k_COMPACT_STRINGS (0 : Int32) v2 (p1 &&& (15 : Int32)))), .unset, .unset, .unset, .unset, .unset]) Y21 hx (hb hby at_18) rfl rfl ?_
  refine o_aloadN (pc' := 21) Y21 hx (hb hby at_20) rfl rfl rfl ?_
  refine o_iload (pc' := 23) Y21 hx (hb hby at_21) rfl rfl ?_
  refine o_callV (W := 0) (pc' := 26) (a := a3) (argsL := [(.int (p1 &&& (15 : Int32)))]) (rest := []) Y21 hx hZ e21 hown (hw _ (List.mem_of_getElem? (i := 9) rfl)) (hw _ (List.mem_of_getElem? (i := 10) rfl)) (hw _ (List.mem_of_getElem? (i := 12) rfl)) (hw _ (List.mem_of_getElem? (i := 11) rfl)) (hw _ (List.mem_of_getElem? (i := 1) rfl)) (hw _ (List.mem_of_getElem? (i := 13) rfl)) (by decide) (rm1 l Z ag hw [] k_COMPACT_STRINGS k_SIOOBE_FORMATTER a3 (0 : Int32) r3 v3 (p1 &&& (15 : Int32)) h Ar3 S_COMPACT_STRINGS S_SIOOBE_FORMATTER Ea3 Fa3_coder Fa3_value hs.2.1) (by decide) (by decide) (by rw [hml]; rfl) Ea3 pd_4 rfl rfl rfl rfl (hb hby at_23) rfl (by decide) (by decide) fun v22 T22 L22 X22 k22 => ?_
  obtain ⟨rfl, e22, rfl⟩ := k22
  have Y22 : Stand p l e R0 s m args below meth c T22 [] 4 136 := own_nil X22
  show own_Go p e below _ T22 (mkF m 26 #[.val (.int p0), .val (.int p1), .val (.ref a2), .val (.ref a3), .val (.int (p1 &&& (15 : Int32))), .val (.int (f1_0 k_COMPACT_STRINGS (0 : Int32) v2 (p1 &&& (15 : Int32)))), .unset, .unset, .unset, .unset, .unset] [(.int (f1_0 k_COMPACT_STRINGS (0 : Int32) v3 (p1 &&& (15 : Int32))))])
  refine o_istore (pc' := 28) (l' := #[.val (.int p0), .val (.int p1), .val (.ref a2), .val (.ref a3), .val (.int (p1 &&& (15 : Int32))), .val (.int (f1_0 k_COMPACT_STRINGS (0 : Int32) v2 (p1 &&& (15 : Int32)))), .val (.int (f1_0 k_COMPACT_STRINGS (0 : Int32) v3 (p1 &&& (15 : Int32)))), .unset, .unset, .unset, .unset]) Y22 hx (hb hby at_26) rfl rfl ?_
  refine o_iload (pc' := 30) Y22 hx (hb hby at_28) rfl rfl ?_
  refine o_callP (W := 0) (pc' := 33) (argsL := [(.int (f1_0 k_COMPACT_STRINGS (0 : Int32) v2 (p1 &&& (15 : Int32))))]) (rest := []) (st' := [(.int (f6_0 (f1_0 k_COMPACT_STRINGS (0 : Int32) v2 (p1 &&& (15 : Int32)))))]) Y22 hx hZ e22 hown (hw _ (List.mem_of_getElem? (i := 34) rfl)) (hw _ (List.mem_of_getElem? (i := 35) rfl)) (hw _ (List.mem_of_getElem? (i := 36) rfl)) (hw _ (List.mem_of_getElem? (i := 37) rfl)) (by decide) (rm6 l Z ag hw [] (f1_0 k_COMPACT_STRINGS (0 : Int32) v2 (p1 &&& (15 : Int32))) h) (by decide) (by decide) (by rw [hml]; rfl) pd_5 rfl rfl rfl rfl (hb hby at_30) rfl rfl rfl (by decide) (by decide) rfl fun T23 X23 e23 => ?_
  refine o_iload (pc' := 35) X23 hx (hb hby at_33) rfl rfl ?_
  refine o_icN (P := (f6_0 (f1_0 k_COMPACT_STRINGS (0 : Int32) v2 (p1 &&& (15 : Int32)))) = (p1 &&& (15 : Int32))) (pc1 := 52) (pc2 := 38) X23 hx XT.ii_ne_f XT.ii_ne_t (hb hby at_35) (by decide) (by decide) rfl (fun c24 => ?_) (fun c24 => ?_)
  · rw [if_neg c24] at hK
    exact b0_52 C k_COMPACT_STRINGS k_SIOOBE_FORMATTER p0 a2 r2 v2 a3 r3 v3 X23 e23 Ar2 Ar3 S_COMPACT_STRINGS S_SIOOBE_FORMATTER Ea2 Fa2_coder Fa2_value Ea3 Fa3_coder Fa3_value (One.val rfl) (One.val rfl) (One.val rfl) (One.val rfl) One.u One.u One.u One.u (hs.2.2.2 c24) hK
  · rw [if_pos c24] at hK
    refine o_iload (pc' := 40) X23 hx (hb hby at_38) rfl rfl ?_
    refine o_callP (W := 0) (pc' := 43) (argsL := [(.int (f1_0 k_COMPACT_STRINGS (0 : Int32) v3 (p1 &&& (15 : Int32))))]) (rest := []) (st' := [(.int (f6_0 (f1_0 k_COMPACT_STRINGS (0 : Int32) v3 (p1 &&& (15 : Int32)))))]) X23 hx hZ e23 hown (hw _ (List.mem_of_getElem? (i := 34) rfl)) (hw _ (List.mem_of_getElem? (i := 35) rfl)) (hw _ (List.mem_of_getElem? (i := 36) rfl)) (hw _ (List.mem_of_getElem? (i := 37) rfl)) (by decide) (rm6 l Z ag hw [] (f1_0 k_COMPACT_STRINGS (0 : Int32) v3 (p1 &&& (15 : Int32))) h) (by decide) (by decide) (by rw [hml]; rfl) pd_5 rfl rfl rfl rfl (hb hby at_40) rfl rfl rfl (by decide) (by decide) rfl fun T33 X33 e33 => ?_
    refine o_iload (pc' := 45) X33 hx (hb hby at_43) rfl rfl ?_
    refine o_icN (P := (f6_0 (f1_0 k_COMPACT_STRINGS (0 : Int32) v3 (p1 &&& (15 : Int32)))) = (p1 &&& (15 : Int32))) (pc1 := 52) (pc2 := 48) X33 hx XT.ii_ne_f XT.ii_ne_t (hb hby at_45) (by decide) (by decide) rfl (fun c34 => ?_) (fun c34 => ?_)
    · rw [if_neg c34] at hK
      exact b0_52 C k_COMPACT_STRINGS k_SIOOBE_FORMATTER p0 a2 r2 v2 a3 r3 v3 X33 e33 Ar2 Ar3 S_COMPACT_STRINGS S_SIOOBE_FORMATTER Ea2 Fa2_coder Fa2_value Ea3 Fa3_coder Fa3_value (One.val rfl) (One.val rfl) (One.val rfl) (One.val rfl) One.u One.u One.u One.u ((hs.2.2.1 c24).2 c34) hK
    · rw [if_pos c34] at hK
      refine o_iconst (pc' := 49) (x := (1 : Int32)) X33 hx (hb hby at_48) (by decide) rfl ?_
      refine o_goto (pc' := 53) X33 hx (hb hby at_49) (by decide) (by decide) ?_
      exact b0_53_11 C k_COMPACT_STRINGS k_SIOOBE_FORMATTER p0 a2 r2 v2 a3 r3 v3 X33 e33 Ar2 Ar3 S_COMPACT_STRINGS S_SIOOBE_FORMATTER Ea2 Fa2_coder Fa2_value Ea3 Fa3_coder Fa3_value (One.val rfl) (One.val rfl) (One.val rfl) (One.val rfl) One.u One.u One.u One.u ((hs.2.2.1 c24).1 c34) hK

end Body0
def own_low : List Int32 := [48, 49, 50, 51, 52, 53, 54, 55, 56, 57, 97, 98, 99, 100, 101, 102]
def own_upp : List Int32 := [48, 49, 50, 51, 52, 53, 54, 55, 56, 57, 65, 66, 67, 68, 69, 70]
theorem own_f1 {k : Int32} (hk : ¬ k = 0) (v : List Int32) (i : Int32) : f1_0 k 0 v i = own_i2c (f3_0 v i) := by
  have e : f2_0 k 0 = 1 := by unfold f2_0; rw [if_neg hk, if_pos rfl]; rfl
  unfold f1_0
  rw [e, if_neg (by decide)]
theorem own_s1 {k : Int32} (hk : ¬ k = 0) {v : List Int32} (hv : v.length = 16) {i : Int32} (h0 : ¬ i < 0) (h1 : ¬ 15 < i) : s1_0 k 0 v i := by
  have e : f2_0 k 0 = 1 := by unfold f2_0; rw [if_neg hk, if_pos rfl]; rfl
  have l0 : (0 : Int32).toInt = 0 := rfl
  have l15 : (15 : Int32).toInt = 15 := rfl
  have l16 : (own_len 16).toInt = 16 := by decide
  have q0 := h0
  have q1 := h1
  rw [own_lt] at q0 q1
  have lt : i < own_len 16 := by rw [own_lt]; omega
  unfold s1_0
  rw [e]
  refine ⟨fun q => absurd q (by decide), fun _ => ⟨⟨⟨⟨fun q => absurd q h0, fun _ => ⟨fun _ => trivial, fun q => absurd ?_ q⟩⟩, trivial⟩, ?_, trivial⟩, trivial⟩⟩
  · rw [hv]; exact lt
  · rw [hv]; exact own_in_of (by omega) (by omega)
theorem own_dig : ∀ n : Fin 16, f6_0 (own_i2c (f3_0 own_low (Int32.ofNat n.val))) = Int32.ofNat n.val ∧ f6_0 (own_i2c (f3_0 own_upp (Int32.ofNat n.val))) = Int32.ofNat n.val := by decide +kernel
def own_Qc (c : Int32) : Prop := f6_0 c = -1 ∨ (¬ f6_0 c = -1 ∧ ¬ f6_0 c < 0 ∧ ¬ 15 < f6_0 c ∧ (c = own_i2c (f3_0 own_low (f6_0 c)) ∨ c = own_i2c (f3_0 own_upp (f6_0 c))))
instance own_Qd (c : Int32) : Decidable (own_Qc c) := by unfold own_Qc; infer_instance
theorem own_small : ∀ n : Fin 128, own_Qc (Int32.ofNat n.val) := by decide +kernel
theorem own_char {c : Int32} (h : 0 ≤ c.toInt) : own_Qc c := by
  by_cases s : c.toInt < 128
  · obtain ⟨n, e, e2, _⟩ := own_nat_of h
    rw [e]
    exact own_small ⟨n, by omega⟩
  · refine Or.inl ?_
    have a1 : ¬ c < 48 := by rw [own_lt, show (48 : Int32).toInt = 48 from rfl]; omega
    have a2 : 57 < c := by rw [own_lt, show (57 : Int32).toInt = 57 from rfl]; omega
    have a3 : ¬ c < 97 := by rw [own_lt, show (97 : Int32).toInt = 97 from rfl]; omega
    have a4 : 102 < c := by rw [own_lt, show (102 : Int32).toInt = 102 from rfl]; omega
    have a5 : ¬ c < 65 := by rw [own_lt, show (65 : Int32).toInt = 65 from rfl]; omega
    have a6 : 70 < c := by rw [own_lt, show (70 : Int32).toInt = 70 from rfl]; omega
    unfold f6_0 f6_17 f6_37 f6_57
    rw [if_neg a1, if_pos a2, if_neg a3, if_pos a4, if_neg a5, if_pos a6]
theorem own_i2c_nonneg (x : Int32) : 0 ≤ (own_i2c x).toInt := by
  have e : (own_i2c x).toBitVec = (x.toBitVec.setWidth 16).setWidth 32 := rfl
  have z : (own_i2c x).toInt = (own_i2c x).toBitVec.toInt := rfl
  have n : (own_i2c x).toBitVec.toNat < 65536 := by
    rw [e, BitVec.toNat_setWidth, BitVec.toNat_setWidth]; omega
  rw [z, BitVec.toInt_eq_toNat_cond, if_pos (by omega)]
  omega
theorem own_both (k p0 p1 : Int32) (hk : ¬ k = 0) : s0_6 k p0 p1 own_low own_upp ∧ f0_6 k p0 p1 own_low own_upp = 1 := by
  have a := Jvm.Kit.i32_mask p1 15 (k := 4) (by decide) (by decide)
  obtain ⟨n, hn, en, _⟩ := own_nat_of (x := p1 &&& 15) (by omega)
  have d := own_dig ⟨n, by omega⟩
  have n0 : ¬ (p1 &&& 15) < 0 := by rw [own_lt, show (0 : Int32).toInt = 0 from rfl]; omega
  have n1 : ¬ 15 < (p1 &&& 15) := by rw [own_lt, show (15 : Int32).toInt = 15 from rfl]; omega
  have hc := own_char (own_i2c_nonneg (p0 &&& 65535))
  have sL := fun i h0 h1 => own_s1 hk (v := own_low) rfl (i := i) h0 h1
  have sU := fun i h0 h1 => own_s1 hk (v := own_upp) rfl (i := i) h0 h1
  have tail : s0_53_11 k p0 own_low own_upp ∧ f0_53_11 k p0 own_low own_upp = 1 := by
    unfold s0_53_11 f0_53_11
    rw [own_f1 hk, own_f1 hk]
    generalize own_i2c (p0 &&& 65535) = c at *
    rcases hc with hc | ⟨c1, c2, c3, c4⟩
    · rw [if_pos hc]
      exact ⟨⟨fun _ => trivial, fun q => absurd hc q⟩, rfl⟩
    · rw [if_neg c1, if_neg c2, if_neg c3]
      refine ⟨⟨fun _ => trivial, fun _ => ⟨fun _ => trivial, fun _ => ⟨fun _ => trivial, fun _ => ⟨sL _ c2 c3, fun _ => trivial, fun _ => ⟨sU _ c2 c3, trivial⟩⟩⟩⟩⟩, ?_⟩
      by_cases e1 : c = own_i2c (f3_0 own_low (f6_0 c))
      · rw [if_pos e1]; rfl
      · rw [if_neg e1]
        rcases c4 with q | q
        · exact absurd q e1
        · rw [if_pos q]; rfl
  unfold s0_6 f0_6
  have g1 : f6_0 (f1_0 k 0 own_low (p1 &&& 15)) = p1 &&& 15 := by rw [own_f1 hk, hn]; exact d.1
  have g2 : f6_0 (f1_0 k 0 own_upp (p1 &&& 15)) = p1 &&& 15 := by rw [own_f1 hk, hn]; exact d.2
  rw [if_pos g1, if_pos g2]
  exact ⟨⟨sL _ n0 n1, sU _ n0 n1, fun _ => ⟨fun _ => tail.1, fun q => absurd g2 q⟩, fun q => absurd g1 q⟩, tail.2⟩

theorem own_strF {q : SB.SQ} {cS : ClassId} {T' Z : State} (hal : T'.vm.Alike Z.vm) (hS : SBG.Sl q cS T') (hk : ∃ kS : Class, T'.vm.classes[cS]? = some kS ∧ kS.kind = .ordinary ∧ q.sC.slots.size = kS.instanceTypes.size) {vs : List Int32} (hb : q.SA.slots = (vs.map Value.int).toArray) :
    Exa Z T'.heap q.sa "java/lang/String" ∧ Fld Z T'.heap q.sa "java/lang/String" "coder" "B" (.int 0) ∧ Fld Z T'.heap q.sa "java/lang/String" "value" "[B" (.ref q.sd) ∧ own_AI Z T'.heap q.sd .byte vs := by
  obtain ⟨⟨h1, h2, h3, hv, hc, s1, s2, v1, v2, a1, a2, a3, a4, a5, a6, a7⟩, f1, f2⟩ := hS
  obtain ⟨kS, k1, k2, k3⟩ := hk
  obtain ⟨kS', hk', ek⟩ := hal.2.2 _ _ k1
  obtain ⟨c1, kk1, i1, w1, w2⟩ := SBG.found_asg (U' := Z) hal hv
  obtain ⟨c3, kk3, i3, w3, w4⟩ := SBG.found_asg (U' := Z) hal hc
  exact ⟨⟨q.sC, kS', h1, by rw [hal.findClass, f2]; exact f1, by rw [f2]; exact hk', h3, fun _ => by rw [ek]; exact k3⟩, ⟨q.sC, c3, kk3, i3, _, h1, w3, s2, h2, h3, w4, v2⟩, ⟨q.sC, c1, kk1, i1, _, h1, w1, s1, h2, h3, w2, v1⟩, ⟨q.SA, ⟨a1, State.isArrayOf_alike hal a2, a3⟩, hb⟩⟩
theorem own_units {units : Array UInt16} {text : String} {L : List UInt16} (h : utf16ToString? units = some text) (ht : ∀ c ∈ text.toList, c.toNat < 256) (e : text.toList.map (fun c => c.toNat.toUInt16) = L) : units = L.toArray := by
  have := Jvm.ClassFile.units_of_text h ht
  rw [e] at this
  rw [← this]
theorem own_b1 {units : Array UInt16} (h : utf16ToString? units = some "0123456789abcdef") : stringBytes units = (own_low.map Value.int).toArray := by
  rw [own_units h (by decide) (L := [48, 49, 50, 51, 52, 53, 54, 55, 56, 57, 97, 98, 99, 100, 101, 102]) (by decide)]
  decide +kernel
theorem own_b2 {units : Array UInt16} (h : utf16ToString? units = some "0123456789ABCDEF") : stringBytes units = (own_upp.map Value.int).toArray := by
  rw [own_units h (by decide) (L := [48, 49, 50, 51, 52, 53, 54, 55, 56, 57, 65, 66, 67, 68, 69, 70]) (by decide)]
  decide +kernel
theorem own_AIext {Z : State} {h h' : Heap} {a : Addr} {ty : FieldType} {vs : List Int32} (E : Ext h h') (A : own_AI Z h a ty vs) : own_AI Z h' a ty vs := by
  obtain ⟨cl, ⟨h1, h2, h3⟩, hs⟩ := A
  exact ⟨cl, ⟨E.2 _ _ h1, h2, h3⟩, hs⟩
abbrev own_OWN : String := "com/example/plumbline/plumbline/core/HexDigitValuePinLaw"

set_option maxRecDepth 65536 in
set_option maxHeartbeats 40000000 in
theorem rm0 (l : Launch) (Z : State) (ag : Array Value) (hw : ∀ d ∈ tables_1, d.before ag Z = true) (ws : List Jvm.Cond) (p0 p1 k : Int32) (fm : Option Addr) (h0 : Heap) (S1 : Sta Z h0 "java/lang/String" "COMPACT_STRINGS" "Z" (.int k)) (S2 : Sta Z h0 "jdk/internal/util/Preconditions" "SIOOBE_FORMATTER" "Ljava/util/function/BiFunction;" (own_rv fm)) (hk : ¬ k = 0)
    (wL1 : (Jvm.Cond.stringLink own_OWN 7 "0123456789abcdef").before ag Z = true) (wL2 : (Jvm.Cond.stringLink own_OWN 9 "0123456789ABCDEF").before ag Z = true) (wS : ∀ a ∈ Bundle.stringAtoms, a.before ag Z = true) :
    MetFree l x (head1 (Jvm.Cond.code x code maxLocals ret :: ws) R0) (fun a U => a = #[(.int p0), (.int p1)] ∧ Z.Warmed39 U.vm ∧ U.heap = h0 ∧ ConstHeldL U own_OWN 7 ∧ ConstHeldL U own_OWN 9) (fun _ _ _ _ _ => True) (fun _ U o U' => o = .returned (some (.int 1)) ∧ ReturnedEndW U o U' [] 8 2112) := by
  refine MetFree.of_bodySF (plainFor_of_name (by first | (simp [plainName, overriddenIn]; done) | decide +kernel)) hisR ?_
  intro p e s m args below meth c s₁ Bd hml0 hP hK
  obtain ⟨rfl, hZ, hh, hd7, hd9⟩ := hP
  have hx := Bd.exec
  have hown : s.vm.findClass own_OWN = some m.cls := findClass_of_methodNamed Bd.named
  have X0 : Stand p l e R0 s m #[(.int p0), (.int p1)] below meth c s₁ [] 0 0 := Stand.of_body Bd
  have e0 : s₁.heap = h0 := by rw [← hh, Bd.state]; rfl
  have ride : ∀ {vm0 : Vm} (_ : Z.Warmed39 vm0), ∀ d ∈ Bundle.stringAtoms, d.before #[Value.int p0, .int p1] (s.setVm vm0) = true := fun {vm0} hZ0 d hd => by
    have q := wS d hd
    simp only [Bundle.stringAtoms, List.mem_cons, List.not_mem_nil, or_false] at hd
    rcases hd with rfl | rfl | rfl | rfl | rfl | rfl | rfl
    · exact mv (s := s.setVm vm0) hZ0 q
    · exact mv (s := s.setVm vm0) hZ0 q
    · exact mvA (s := s.setVm vm0) hZ0 q
    · exact mv (s := s.setVm vm0) hZ0 q
    · exact mv (s := s.setVm vm0) hZ0 q
    · exact mv (s := s.setVm vm0) hZ0 q
    · exact mv (s := s.setVm vm0) hZ0 q
  have efr : entryFrame m #[(.int p0), (.int p1)] maxLocals = mkF m 0 #[.val (.int p0), .val (.int p1), .unset, .unset, .unset, .unset, .unset, .unset, .unset, .unset, .unset] [] := by first | (simp [entryFrame, mkF, argsToLocals, Value.category, maxLocals]; done) | rfl
  rw [efr]
  obtain ⟨a1, T1, X1, hS1, -, hkeep1, hint1, hwho1, ⟨u1, hdec1, q1, c1, hq1, hSl1, hkS1, -, hby1, -⟩, st1⟩ := X0.ldcStringColdSl2 hx (own := own_OWN) (text := "0123456789abcdef") (index := 7) hown (mvS (s := s) hZ wL1) (ride hZ) hd7
    (fun us hus => Jvm.ClassFile.lat_of_text hus (by decide)) (g := mkF m 0 #[.val (.int p0), .val (.int p1), .unset, .unset, .unset, .unset, .unset, .unset, .unset, .unset, .unset] []) rfl (by rw [Bd.bytes]; exact at_0) (n := 64) (by decide) (by decide) (by decide) (by decide)
  have hZ1 : Z.Warmed39 T1.vm := State.Warmed39.trans (t := s) hZ hS1.1
  have hown1 : (s.setVm T1.vm).vm.findClass own_OWN = some m.cls := by show T1.vm.findClass own_OWN = _; rw [hS1.1.alike.findClass]; exact hown
  have hd9' : ConstHeldL (s.setVm T1.vm) own_OWN 9 := SBG.constHeldL_carried (args := #[Value.int p0, .int p1]) (textJ := "0123456789ABCDEF") hS1.1 (mvS (s := s) hZ wL2)
    (by
      rcases hwho1 with e | ⟨us, a', hus, e⟩
      · exact Or.inl (e.trans X0.warmed.interned_eq)
      · refine Or.inr ⟨us, a', ?_, by rw [e, X0.warmed.interned_eq]⟩
        rw [hus]; intro h; exact absurd (Option.some.inj h) (by decide)) hd9
  refine own_go st1 ?_
  refine o_astoreN (pc' := 3) (l' := #[.val (.int p0), .val (.int p1), .val (.ref a1), .unset, .unset, .unset, .unset, .unset, .unset, .unset, .unset]) X1 hx (by rw [Bd.bytes]; exact at_2) rfl rfl rfl ?_
  obtain ⟨a2, T2, X2, hS2, -, hkeep2, hint2, hwho2, ⟨u2, hdec2, q2, c2, hq2, hSl2, hkS2, -, hby2, -⟩, st2⟩ := X1.ldcStringColdSl2 hx (own := own_OWN) (text := "0123456789ABCDEF") (index := 9) hown1 (mvS (s := s) hZ1 wL2) (ride hZ1) hd9'
    (fun us hus => Jvm.ClassFile.lat_of_text hus (by decide)) (g := mkF m 3 #[.val (.int p0), .val (.int p1), .val (.ref a1), .unset, .unset, .unset, .unset, .unset, .unset, .unset, .unset] []) rfl (by rw [Bd.bytes]; exact at_3) (n := 64) (by decide) (by decide) (by decide) (by decide)
  replace X2 : Stand p l e R0 (s.setVm T2.vm) m #[(.int p0), (.int p1)] below meth c T2 [] 4 136 := X2
  have hSS : s.Since T2.vm T2.heap.size := hS1.trans hS2 hint2.1
  have hZ2 : Z.Warmed39 T2.vm := State.Warmed39.trans (t := s) hZ hSS.1
  refine own_go st2 ?_
  refine o_astoreN (pc' := 6) (l' := #[.val (.int p0), .val (.int p1), .val (.ref a1), .val (.ref a2), .unset, .unset, .unset, .unset, .unset, .unset, .unset]) X2 hx (by rw [Bd.bytes]; exact at_5) rfl rfl rfl ?_
  have C : own_Cx p (s.setVm T2.vm) m meth c Z ag code maxLocals own_OWN ret "law" := ⟨Bd.exec, hZ2, hw, Bd.bytes, hml0, by show T2.vm.findClass own_OWN = _; rw [hSS.1.alike.findClass]; exact hown, Bd.returns, Bd.notSynchronized, (name_of_methodNamed Bd.named Bd.method).1⟩
  have E1 : Ext s₁.heap T1.heap := ext_of hkeep1
  have E2 : Ext T1.heap T2.heap := ext_of hkeep2
  obtain ⟨A1, A2, A3, A4⟩ := own_strF (Z := Z) (vs := own_low) hZ1.alike.symm hSl1 hkS1 (by rw [hby1]; exact own_b1 hdec1)
  obtain ⟨D1, D2, D3, D4⟩ := own_strF (Z := Z) (vs := own_upp) hZ2.alike.symm hSl2 hkS2 (by rw [hby2]; exact own_b2 hdec2)
  subst hq1
  subst hq2
  subst e0
  obtain ⟨s₂, o, g1, g2, g3, v, L, rfl, ⟨rfl, hhp, rfl⟩, hFE⟩ := b0_6 (K := own_KP (some (.int (f0_6 k p0 p1 own_low own_upp))) T2.heap) C k fm p0 p1 q1.sa q1.sd own_low q2.sa q2.sd own_upp X2 rfl (own_AIext E2 A4) D4 ((S1.ext E1).ext E2) ((S2.ext E1).ext E2) (A1.ext E2) (A2.ext E2) (A3.ext E2) D1 D2 D3 (own_both k p0 p1 hk).1 ⟨rfl, rfl, rfl⟩
  refine ⟨s₂, _, g1, g2, g3, by rw [(own_both k p0 p1 hk).2], ?_⟩
  obtain ⟨z1, z2, z3⟩ := hFE
  obtain ⟨y1, y2, y3⟩ := hSS.ended (U := s₂) z2 (by rw [hhp]; exact Nat.le_refl _) z3
  exact ⟨⟨_, rfl⟩, y1, y2, y3.mono (by decide) (by decide)⟩
theorem own_mapM_len {α β : Type} {f : α → Option β} : ∀ {l : List α} {r : List β}, l.mapM f = some r → l.length = r.length
  | [], r, h => by
    rw [List.mapM_nil] at h
    rw [← Option.some.inj h]
    rfl
  | y :: l, r, h => by
    rw [List.mapM_cons] at h
    obtain ⟨z, -, h⟩ := Option.bind_eq_some_iff.mp h
    obtain ⟨q, e, h⟩ := Option.bind_eq_some_iff.mp h
    rw [← Option.some.inj h, List.length_cons, List.length_cons, own_mapM_len e]
theorem own_slOf {s : State} {a : Addr} {A : Array Value} {units : Array UInt16} (hl : units.all (· < 256) = true) (hbig : units.size < 2147483648) (hw : (Jvm.Lit.latin1L units).all (fun w => w.before #[.ref a] s) = true) (hins : (Cond.instantiable "java/lang/String" 4).before A s = true) (harr : (Cond.arrayClass .byte).before A s = true) : SlOf s a units := by
  have V := List.all_eq_true.mp hw
  obtain ⟨sd, c, SA, bs, fv, fc, -, hA, hm, hu⟩ := Jvm.StrKit.says_of_words hl hbig hw
  obtain rfl : c = 0 := by
    have e := Cond.eq_int (V (.eq Jvm.Lit.C0 (.int 0)) (by simp [Jvm.Lit.latin1L])) rfl
    simpa [Jvm.Lit.C0, Term.eval, fc] using e
  rw [if_pos rfl] at hu
  have n1 : SA.slots.size = units.size := by
    have e := congrArg List.length hu
    have e' := own_mapM_len hm
    rw [List.length_map] at e
    rw [Array.length_toList] at e e'
    omega
  have ev : Jvm.Lit.V0.eval #[.ref a] s none [] s = some (.ref sd) := by simpa [Jvm.Lit.V0, Term.eval] using fv
  have lt : SA.slots.size < 2 ^ 31 := by omega
  have sl : ∀ i (h : i < units.size), SA.slots[i]? = some (.int (Jvm.Lit.byteI units[i])) := fun i h => by
    have w := V (.eq (.elem Jvm.Lit.V0 (.int (Int32.ofNat i))) (.int (Jvm.Lit.byteI (units.getD i 0)))) (by
      simp only [Jvm.Lit.latin1L, List.mem_append, List.mem_map, List.mem_range]
      exact Or.inr ⟨i, h, rfl⟩)
    rw [← SBG.elem_at (ix := .int (Int32.ofNat i)) ev hA (n1 ▸ h) lt rfl, Cond.eq_int w rfl, Array.getD, dif_pos h]
    rfl
  have slots : SA.slots = stringBytes units := by
    refine (Array.ext_getElem? fun i => ?_).trans (SBG.stringBytes_lat hl).symm
    rw [Array.getElem?_map]
    by_cases h : i < units.size
    · rw [sl i h, Array.getElem?_eq_getElem h]; rfl
    · rw [Array.getElem?_eq_none (by omega), Array.getElem?_eq_none (by omega)]; rfl
  have X : Exa s s.heap a "java/lang/String" := Exa.start (t := .arg 0) (args := #[.ref a]) rfl (Cond.before_iff.mp (V _ (by simp [Jvm.Lit.latin1L])))
  have Y : Exa s s.heap sd "[B" := Exa.start (t := Jvm.Lit.V0) ev (Cond.before_iff.mp (V _ (by simp [Jvm.Lit.latin1L])))
  have apart : a ≠ sd := ne_exa X Y (by decide)
  obtain ⟨cv, mv1, mv2, mv3, fV, v1, v2, v3, v4, v5, v6, v7⟩ := Fld.start (Z := s) fv
  obtain ⟨cc, mc1, mc2, mc3, fC, c1, c2, c3, c4, c5, c6, c7⟩ := Fld.start (Z := s) fc
  obtain ⟨cx, kx, x1, x2, x3, x4, x5⟩ := X
  obtain ⟨cy, ky, y1, y2, y3, y4, y5⟩ := Y
  obtain rfl := Option.some.inj (x1.symm.trans v1)
  obtain rfl := Option.some.inj (x1.symm.trans c1)
  obtain ⟨b1, b2, -, -⟩ := State.arrayAt?_spec hA
  obtain rfl := Option.some.inj (y1.symm.trans b1)
  have kind : kx.kind = .ordinary := by
    obtain ⟨_, _, e1, e2, e3, -⟩ := Cond.instantiable_spec hins
    obtain rfl := Option.some.inj (x2.symm.trans e1)
    exact Option.some.inj (x3.symm.trans e2) ▸ e3
  have arr : s.isArrayOf cy .byte := by
    obtain ⟨_, _, comp, e1, e2, e3⟩ := Cond.arrayClass_spec harr
    obtain rfl := Option.some.inj (y2.symm.trans e1)
    refine ⟨fun n e => ?_, _, e2, comp, e3⟩
    rw [e] at y4
    cases y4
  refine ⟨(a, cx, fV, fC, sd, cy, cy.slots.size), cx.cls, rfl, ⟨⟨v1, v4, v5, ⟨_, _, _, v2, v6⟩, ⟨_, _, _, c2, c6⟩, v3, c3, v7, c7, y1, arr, b2, rfl, lt, apart, fun i h => ?_⟩, x2, rfl⟩, ⟨kx, x3, kind, x5 kind⟩, y2, slots⟩
  rw [SBG.getD_of (sl i (n1 ▸ h))]
  exact SBG.fits_of_int8 _
theorem own_held {args : Array Value} {s : State} {own text : String} {index : Nat} (h : Jvm.Lit.constHeld s own index) (hlink : (Cond.stringLink own index text).before args s = true) (hlat : ∀ us : Array UInt16, utf16ToString? us = some text → us.all (· < 256) = true) (hcw : Jvm.Lit.compactW.before args s = true) (harr : (Cond.arrayClass .byte).before args s = true) (hins : (Cond.instantiable "java/lang/String" 4).before args s = true) : ConstHeldL s own index := fun c kc cf i us a e1 e2 e3 e4 e5 held => by
  have lat : us.all (· < 256) = true := by
    obtain ⟨kc', cf', i', us', f2, f3, f4, f5, -, says, -⟩ := Cond.stringLink_spec e1 hlink
    obtain rfl := Option.some.inj (e2.symm.trans f2)
    obtain rfl := Option.some.inj (e3.symm.trans f3)
    obtain rfl := CpInfo.string.inj (Option.some.inj (e4.symm.trans f4))
    obtain rfl := CpInfo.utf8.inj (Option.some.inj (e5.symm.trans f5))
    exact hlat _ says
  have on : Jvm.Lit.compactW.before #[] s = true := by
    have e : Jvm.Lit.compactW.before #[] s = Jvm.Lit.compactW.before args s := rfl
    rw [e]; exact hcw
  exact own_slOf lat (h c kc cf i us a e1 e2 e3 e4 e5 lat on held).1 (h c kc cf i us a e1 e2 e3 e4 e5 lat on held).2 hins harr
set_option maxRecDepth 65536 in
set_option maxHeartbeats 40000000 in
theorem comes_1 {Post : Tables → Env → Array Value → State → Outcome → State → Prop} (hpost : ∀ tb e args s v u, (limb_1_1.after args s (.returned v) u = true ∧ limb_1_2.after args s (.returned v) u = true) → FramedW s (.returned v) u (Jvm.fieldLocs frame_1_writes args s ++ Jvm.arrayLocs frame_1_arrays args s ++ Jvm.staticLocs frame_1_statics s) 8 2112 → Post tb e args s (.returned v) u) :
    ArmFor flags0 classFile x code maxLocals ret World_1 tables_1 room_1 Calls_1 rest_1 Pre_1 Post := by
  intro l hfl _ _ p e ha hc hk s m args below hf hA hF happ hP
  obtain ⟨hcalls, hrest, hpre⟩ := hP
  obtain ⟨-, -, -, hnamed, -, -, -, hat⟩ := (Spec.applies_iff hf).mp happ
  obtain ⟨hg, hn⟩ := and_e (Cond.before_iff.mp (show (Jvm.Cond.and given_1 narrow_1).before args s = true from hpre))
  obtain ⟨g1a, g1b⟩ := and_e hg
  obtain ⟨g2a, g2b⟩ := and_e g1b
  obtain ⟨w0, w1, rfl⟩ : ∃ w0 w1 : Value, args = #[w0, w1] := by
    have hs : args.size = 2 := by simpa [Cond.value, given_1] using g1a
    obtain ⟨L⟩ := args
    match L, hs with
    | [w0, w1], _ => exact ⟨w0, w1, rfl⟩
  have hw := fun d (hd : d ∈ tables_1) => atoms_spec (ws := Jvm.Cond.code x code maxLocals ret :: tables_1) hat d (List.mem_cons_of_mem _ hd)
  obtain ⟨i0, ei0⟩ := is_v g2a
  obtain rfl : w0 = (.int i0) := Option.some.inj ei0
  obtain ⟨i1, ei1⟩ := is_v g2b
  obtain rfl : w1 = (.int i1) := Option.some.inj ei1
  have hr0 : rest_1_c.before #[Value.int i0, .int i1] s = true := hrest
  obtain ⟨q1, z1⟩ := and_e (Cond.before_iff.mp hr0)
  obtain ⟨q2, z2⟩ := and_e z1
  obtain ⟨q3, z3⟩ := and_e z2
  obtain ⟨-, z4⟩ := and_e z3
  obtain ⟨-, z5⟩ := and_e z4
  obtain ⟨-, z6⟩ := and_e z5
  obtain ⟨-, z7⟩ := and_e z6
  obtain ⟨q8, z8⟩ := and_e z7
  obtain ⟨q9, -⟩ := and_e z8
  obtain ⟨k, ek⟩ := is_v q2
  obtain ⟨vf, ef, hvf⟩ := isR_v q9
  obtain ⟨fm, rfl⟩ := own_rv_of hvf
  have hk0 : ¬ k = 0 := by
    intro h
    subst h
    have h := not_v q3
    rw [eq_i ek (Term.int_eval 0) rfl rfl] at h
    exact absurd h (by decide)
  have hins : (Cond.instantiable "java/lang/String" 4).before #[Value.int i0, .int i1] s = true := hw _ (List.mem_of_getElem? (i := 2) rfl)
  have harr : (Cond.arrayClass .byte).before #[Value.int i0, .int i1] s = true := hw _ (List.mem_of_getElem? (i := 3) rfl)
  have wL1 : (Jvm.Cond.stringLink own_OWN 7 "0123456789abcdef").before #[Value.int i0, .int i1] s = true := hw _ (List.mem_of_getElem? (i := 0) rfl)
  have wL2 : (Jvm.Cond.stringLink own_OWN 9 "0123456789ABCDEF").before #[Value.int i0, .int i1] s = true := hw _ (List.mem_of_getElem? (i := 8) rfl)
  have hcw : Jvm.Lit.compactW.before #[Value.int i0, .int i1] s = true := Cond.before_iff.mpr q3
  have hc7 : Jvm.Lit.constHeld s own_OWN 7 := hcalls.1 (own_OWN, 7) (by simp [consts_1, own_OWN])
  have hc9 : Jvm.Lit.constHeld s own_OWN 9 := hcalls.1 (own_OWN, 9) (by simp [consts_1, own_OWN])
  have hd7 : ConstHeldL s own_OWN 7 := own_held hc7 wL1 (fun us hus => Jvm.ClassFile.lat_of_text hus (by decide)) hcw harr hins
  have hd9 : ConstHeldL s own_OWN 9 := own_held hc9 wL2 (fun us hus => Jvm.ClassFile.lat_of_text hus (by decide)) hcw harr hins
  have wS : ∀ a ∈ Bundle.stringAtoms, a.before #[Value.int i0, .int i1] s = true := fun a hm => by
    simp only [Bundle.stringAtoms, List.mem_cons, List.not_mem_nil, or_false] at hm
    rcases hm with rfl | rfl | rfl | rfl | rfl | rfl | rfl
    · exact hw _ (List.mem_of_getElem? (i := 1) rfl)
    · exact hw _ (List.mem_of_getElem? (i := 2) rfl)
    · exact hw _ (List.mem_of_getElem? (i := 3) rfl)
    · exact hw _ (List.mem_of_getElem? (i := 4) rfl)
    · exact hw _ (List.mem_of_getElem? (i := 5) rfl)
    · exact hw _ (List.mem_of_getElem? (i := 6) rfl)
    · exact hw _ (List.mem_of_getElem? (i := 7) rfl)
  have S1 : Sta s s.heap "java/lang/String" "COMPACT_STRINGS" "Z" (.int k) := Sta.start ek (Or.inl (Cond.before_iff.mpr q1))
  have S2 : Sta s s.heap "jdk/internal/util/Preconditions" "SIOOBE_FORMATTER" "Ljava/util/function/BiFunction;" (own_rv fm) := Sta.start ef (Or.inl (Cond.before_iff.mpr q8))
  obtain ⟨n, o, h1, h2, h3, rfl, hq⟩ := rm0 l s _ hw tables_1 i0 i1 k fm s.heap S1 S2 hk0 wL1 wL2 wS p e ha hc hk s m _ below hf ((Spec.applies_iff_loose hf).mp happ).1 ⟨rfl, State.Warmed39.refl s, rfl, hd7, hd9⟩ trivial
  exact ⟨n, _, h1, h2, h3, hpost _ _ _ _ _ _ ⟨Cond.after_iff.mpr rfl, Cond.after_iff.mpr (eq_i res_at (Term.int_eval (1)) rfl rfl)⟩ hq⟩
theorem main_1_1 : Claimed_1_1 := comes_1 fun _ _ _ _ _ _ h hF => ⟨h.1, hF⟩
theorem main_1_2 : Claimed_1_2 := comes_1 fun _ _ _ _ _ _ h hF => ⟨h.2, hF⟩

end Jvm.Pilot.@@N@@
namespace Jvm.Pilot.@@N@@
open Jvm Jvm.ClassFile Sem Op Lib Jvm.Free Jvm.Stand Jvm.Pilot.@@N@@.Jvm.D
/-! MADE BY PROGRAM (witnessworld.py) out of the Statement's table words and the real class files: 17 classes; the members and pool entries that the words name. The judged class is class 1, her method 1. -/
namespace start1
open Jvm.ClassFile
def u (s : String) : CpInfo := .utf8 (stringToUtf16 s)
/-- a pool by its gaps: so many unusable entries, then the entry; so many at the end -/
def gap : Nat → List CpInfo → List CpInfo
  | 0, r => r
  | n + 1, r => .unusable :: gap n r
def poolList (es : List (Nat × CpInfo)) (last : Nat) : List CpInfo := es.foldr (fun e r => gap e.1 (e.2 :: r)) (gap last [])
def pool (es : List (Nat × CpInfo)) (last : Nat) : Array CpInfo := ⟨poolList es last⟩
def fileOf (pool : Array CpInfo) (this : Nat) (attrs : Array Attribute := #[]) (ms : Array MethodInfo := #[]) (fl : Nat := 33) (sup : Nat := 0) (ifs : Array Nat := #[]) (fds : Array FieldInfo := #[]) : ClassFile where
  minorVersion := 0
  majorVersion := 65
  constantPool := pool
  accessFlags := fl
  thisClass := this
  superClass := sup
  interfaces := ifs
  fields := fds
  methods := ms
  attributes := attrs
def plain (name : String) (sup : Option ClassId) : Class where
  name := name
  kind := .ordinary
  loader := none
  accessFlags := 33
  super := sup
  interfaces := #[]
  cf := none
  fields := #[]
  methods := #[]
  instanceTypes := #[]
  staticTypes := #[]
  resolved := #[]
  callSites := []
  init := .initialized
  statics := none
  mirror := none

def pool0 : Array CpInfo := pool [(5, u "<init>"), (0, u "()V"), (1, .class_ 10), (1, u "java/lang/Object")] 113

def k0m0 : Method := { name := "<init>", desc := "()V", sig := { parameters := [], returnType := none }, accessFlags := 1, code := none }
/-- java/lang/Object -/
def k0 : Class := { plain "java/lang/Object" none with
  accessFlags := 33
  interfaces := #[]
  cf := some (fileOf pool0 8 #[] #[{ accessFlags := 1, nameIndex := 5, descriptorIndex := 6, attributes := #[] }] 33 0 #[] #[])
  fields := #[]
  methods := #[k0m0]
  instanceTypes := #[]
  staticTypes := #[]
  resolved := Array.replicate 124 none
  statics := none }

def pool1 : Array CpInfo := pool [(2, .class_ 4), (1, u "java/lang/Object"), (0, u "<init>"), (0, u "()V"), (0, .string 8), (0, u "0123456789abcdef"), (0, .string 10), (0, u "0123456789ABCDEF"), (0, .methodref 12 13), (0, .class_ 14), (0, .nameAndType 15 16), (0, u "java/lang/String"), (0, u "charAt"), (0, u "(I)C"), (0, .methodref 18 19), (0, .class_ 20), (0, .nameAndType 21 22), (0, u "com/example/plumbline/plumbline/core/Hex"), (0, u "digitValue"), (0, u "(C)I"), (0, .integer 65535), (0, .class_ 25), (0, u "com/example/plumbline/plumbline/core/HexDigitValuePinLaw"), (2, u "law"), (0, u "(II)Z")] 3

def k1m0 : Method := { name := "<init>", desc := "()V", sig := { parameters := [], returnType := none }, accessFlags := 2, code := none }
def k1c1 : Code := { maxStack := 3, maxLocals := 11, code := code, exceptionTable := #[], attributes := #[] }
def k1m1 : Method := { name := "law", desc := "(II)Z", sig := { parameters := [.int, .int], returnType := some .boolean }, accessFlags := 9, code := some k1c1 }
/-- com/example/plumbline/plumbline/core/HexDigitValuePinLaw -/
def k1 : Class := { plain "com/example/plumbline/plumbline/core/HexDigitValuePinLaw" (some 0) with
  accessFlags := 49
  interfaces := #[]
  cf := some (fileOf pool1 24 #[] #[{ accessFlags := 2, nameIndex := 5, descriptorIndex := 6, attributes := #[] }, { accessFlags := 9, nameIndex := 28, descriptorIndex := 29, attributes := #[] }] 49 2 #[] #[])
  fields := #[]
  methods := #[k1m0, k1m1]
  instanceTypes := #[]
  staticTypes := #[]
  resolved := Array.replicate 33 none
  statics := none }

def pool2 : Array CpInfo := pool [(1, .class_ 2), (0, u "java/io/Serializable"), (0, .class_ 4), (0, u "java/lang/Object")] 2

/-- java/io/Serializable -/
def k2 : Class := { plain "java/io/Serializable" (some 0) with
  accessFlags := 1537
  interfaces := #[]
  cf := some (fileOf pool2 1 #[] #[] 1537 3 #[] #[])
  fields := #[]
  methods := #[]
  instanceTypes := #[]
  staticTypes := #[]
  resolved := Array.replicate 7 none
  statics := none }

def pool3 : Array CpInfo := pool [(1, .class_ 2), (0, u "java/lang/Comparable"), (0, .class_ 4), (0, u "java/lang/Object")] 7

/-- java/lang/Comparable -/
def k3 : Class := { plain "java/lang/Comparable" (some 0) with
  accessFlags := 1537
  interfaces := #[]
  cf := some (fileOf pool3 1 #[] #[] 1537 3 #[] #[])
  fields := #[]
  methods := #[]
  instanceTypes := #[]
  staticTypes := #[]
  resolved := Array.replicate 12 none
  statics := none }

def pool4 : Array CpInfo := pool [(2, .class_ 4), (1, u "java/lang/CharSequence"), (42, .class_ 48), (0, u "java/lang/CharSequence$1CodePointIterator"), (10, .class_ 60), (0, u "java/lang/CharSequence$1CharIterator"), (5, .class_ 67), (0, u "java/lang/Object")] 63

/-- java/lang/CharSequence -/
def k4 : Class := { plain "java/lang/CharSequence" (some 0) with
  accessFlags := 1537
  interfaces := #[]
  cf := some (fileOf pool4 2 #[.nestMembers #[47, 59]] #[] 1537 66 #[] #[])
  fields := #[]
  methods := #[]
  instanceTypes := #[]
  staticTypes := #[]
  resolved := Array.replicate 131 none
  statics := none }

def pool5 : Array CpInfo := pool [(1, .class_ 2), (0, u "java/lang/constant/Constable"), (0, .class_ 4), (0, u "java/lang/Object")] 6

/-- java/lang/constant/Constable -/
def k5 : Class := { plain "java/lang/constant/Constable" (some 0) with
  accessFlags := 1537
  interfaces := #[]
  cf := some (fileOf pool5 1 #[] #[] 1537 3 #[] #[])
  fields := #[]
  methods := #[]
  instanceTypes := #[]
  staticTypes := #[]
  resolved := Array.replicate 11 none
  statics := none }

def pool6 : Array CpInfo := pool [(1, .class_ 2), (0, u "java/lang/constant/ConstantDesc"), (0, .class_ 4), (0, u "java/lang/Object")] 32

/-- java/lang/constant/ConstantDesc -/
def k6 : Class := { plain "java/lang/constant/ConstantDesc" (some 0) with
  accessFlags := 1537
  interfaces := #[]
  cf := some (fileOf pool6 1 #[] #[] 1537 3 #[] #[])
  fields := #[]
  methods := #[]
  instanceTypes := #[]
  staticTypes := #[]
  resolved := Array.replicate 37 none
  statics := none }

def pool7 : Array CpInfo := pool [(2, .class_ 4), (1, u "java/lang/Object"), (0, u "<init>"), (0, u "()V"), (2, .fieldref 10 11), (0, .class_ 12), (0, .nameAndType 13 14), (0, u "java/lang/String"), (0, u "value"), (0, u "[B"), (0, .fieldref 10 16), (0, .nameAndType 17 18), (0, u "coder"), (0, u "B"), (2, u "hash"), (0, u "I"), (2, u "hashIsZero"), (0, u "Z"), (11, .fieldref 10 39), (0, .nameAndType 40 26), (0, u "COMPACT_STRINGS"), (66, .class_ 109), (1, u "java/lang/StringLatin1"), (32, u "()Z"), (220, u "([BI)C"), (27, u "(II)V"), (35, u "(I)C"), (64, .methodref 10 493), (0, .nameAndType 494 142), (0, u "isLatin1"), (0, .methodref 107 496), (0, .nameAndType 497 363), (0, u "charAt"), (3, u "checkIndex"), (73, .class_ 576), (0, u "java/lang/CharSequence"), (22, u "CASE_INSENSITIVE_ORDER"), (0, u "Ljava/util/Comparator;"), (452, .fieldref 1054 1055), (0, .class_ 1056), (0, .nameAndType 1057 1058), (0, u "jdk/internal/util/Preconditions"), (0, u "SIOOBE_FORMATTER"), (0, u "Ljava/util/function/BiFunction;"), (0, .methodref 1054 1060), (0, .nameAndType 501 1061), (0, u "(IILjava/util/function/BiFunction;)I"), (39, u "serialPersistentFields"), (0, u "[Ljava/io/ObjectStreamField;"), (0, .class_ 1104), (0, u "java/lang/String$CaseInsensitiveComparator"), (1, .class_ 1107), (0, u "java/io/Serializable"), (0, .class_ 1109), (0, u "java/lang/Comparable"), (0, .class_ 1111), (0, u "java/lang/constant/Constable"), (0, .class_ 1113), (0, u "java/lang/constant/ConstantDesc"), (2, u "serialVersionUID"), (0, u "J"), (3, u "REPL"), (0, u "C"), (2, u "LATIN1"), (1, u "UTF16")] 323

def k7m0 : Method := { name := "<init>", desc := "()V", sig := { parameters := [], returnType := none }, accessFlags := 1, code := none }
def k7c1 : Code := { maxStack := 2, maxLocals := 2, code := jdk_42_method_56_code, exceptionTable := #[], attributes := #[] }
def k7m1 : Method := { name := "charAt", desc := "(I)C", sig := { parameters := [.int], returnType := some .char }, accessFlags := 1, code := some k7c1 }
def k7c2 : Code := { maxStack := 1, maxLocals := 1, code := jdk_42_method_154_code, exceptionTable := #[], attributes := #[] }
def k7m2 : Method := { name := "isLatin1", desc := "()Z", sig := { parameters := [], returnType := some .boolean }, accessFlags := 0, code := some k7c2 }
def k7c3 : Code := { maxStack := 3, maxLocals := 2, code := jdk_42_method_155_code, exceptionTable := #[], attributes := #[] }
def k7m3 : Method := { name := "checkIndex", desc := "(II)V", sig := { parameters := [.int, .int], returnType := none }, accessFlags := 8, code := some k7c3 }
/-- java/lang/String -/
def k7 : Class := { plain "java/lang/String" (some 0) with
  accessFlags := 49
  interfaces := #[2, 3, 4, 5, 6]
  cf := some (fileOf pool7 10 #[.nestMembers #[1103]] #[{ accessFlags := 1, nameIndex := 5, descriptorIndex := 6, attributes := #[] }, { accessFlags := 1, nameIndex := 497, descriptorIndex := 427, attributes := #[] }, { accessFlags := 0, nameIndex := 494, descriptorIndex := 142, attributes := #[] }, { accessFlags := 8, nameIndex := 501, descriptorIndex := 391, attributes := #[] }] 49 2 #[1106, 1108, 575, 1110, 1112] #[{ accessFlags := 18, nameIndex := 13, descriptorIndex := 14, attributes := #[] }, { accessFlags := 18, nameIndex := 17, descriptorIndex := 18, attributes := #[] }, { accessFlags := 2, nameIndex := 21, descriptorIndex := 22, attributes := #[] }, { accessFlags := 2, nameIndex := 25, descriptorIndex := 26, attributes := #[] }, { accessFlags := 26, nameIndex := 1116, descriptorIndex := 1117, attributes := #[] }, { accessFlags := 24, nameIndex := 40, descriptorIndex := 26, attributes := #[] }, { accessFlags := 26, nameIndex := 1101, descriptorIndex := 1102, attributes := #[] }, { accessFlags := 26, nameIndex := 1121, descriptorIndex := 1122, attributes := #[] }, { accessFlags := 25, nameIndex := 599, descriptorIndex := 600, attributes := #[] }, { accessFlags := 24, nameIndex := 1125, descriptorIndex := 18, attributes := #[] }, { accessFlags := 24, nameIndex := 1127, descriptorIndex := 18, attributes := #[] }])
  fields := #[{ name := "value", type := (.array .byte), accessFlags := 18, slot := 0, constantValue := 0 }, { name := "coder", type := .byte, accessFlags := 18, slot := 1, constantValue := 0 }, { name := "hash", type := .int, accessFlags := 2, slot := 2, constantValue := 0 }, { name := "hashIsZero", type := .boolean, accessFlags := 2, slot := 3, constantValue := 0 }, { name := "serialVersionUID", type := .long, accessFlags := 26, slot := 0, constantValue := 0 }, { name := "COMPACT_STRINGS", type := .boolean, accessFlags := 24, slot := 1, constantValue := 0 }, { name := "serialPersistentFields", type := (.array (.object "java/io/ObjectStreamField")), accessFlags := 26, slot := 2, constantValue := 0 }, { name := "REPL", type := .char, accessFlags := 26, slot := 3, constantValue := 0 }, { name := "CASE_INSENSITIVE_ORDER", type := (.object "java/util/Comparator"), accessFlags := 25, slot := 4, constantValue := 0 }, { name := "LATIN1", type := .byte, accessFlags := 24, slot := 5, constantValue := 0 }, { name := "UTF16", type := .byte, accessFlags := 24, slot := 6, constantValue := 0 }]
  methods := #[k7m0, k7m1, k7m2, k7m3]
  instanceTypes := #[(.array .byte), .byte, .int, .boolean]
  staticTypes := #[.long, .boolean, (.array (.object "java/io/ObjectStreamField")), .char, (.object "java/util/Comparator"), .byte, .byte]
  resolved := Array.replicate 1451 none
  statics := some 0 }

def pool8 : Array CpInfo := pool [(1, .class_ 2), (0, u "java/lang/String"), (1, .class_ 6), (1, u "java/lang/Object"), (0, u "<init>"), (0, u "()V"), (0, .methodref 1 10), (0, .nameAndType 11 12), (0, u "checkIndex"), (0, u "(II)V"), (1, .class_ 16), (1, u "java/lang/StringLatin1"), (36, u "([BI)C"), (67, u "$assertionsDisabled"), (0, u "Z"), (98, .class_ 223), (1, u "java/lang/StringLatin1$LinesSpliterator"), (28, u "charAt"), (137, .class_ 391), (0, u "java/lang/StringLatin1$CharsSpliterator")] 3

def k8m0 : Method := { name := "<init>", desc := "()V", sig := { parameters := [], returnType := none }, accessFlags := 0, code := none }
def k8c1 : Code := { maxStack := 2, maxLocals := 2, code := jdk_43_method_2_code, exceptionTable := #[], attributes := #[] }
def k8m1 : Method := { name := "charAt", desc := "([BI)C", sig := { parameters := [(.array .byte), .int], returnType := some .char }, accessFlags := 9, code := some k8c1 }
/-- java/lang/StringLatin1 -/
def k8 : Class := { plain "java/lang/StringLatin1" (some 0) with
  accessFlags := 48
  interfaces := #[]
  cf := some (fileOf pool8 14 #[.nestMembers #[390, 221]] #[{ accessFlags := 0, nameIndex := 7, descriptorIndex := 8, attributes := #[] }, { accessFlags := 9, nameIndex := 252, descriptorIndex := 53, attributes := #[] }] 48 4 #[] #[{ accessFlags := 4120, nameIndex := 121, descriptorIndex := 122, attributes := #[] }])
  fields := #[{ name := "$assertionsDisabled", type := .boolean, accessFlags := 4120, slot := 0, constantValue := 0 }]
  methods := #[k8m0, k8m1]
  instanceTypes := #[]
  staticTypes := #[.boolean]
  resolved := Array.replicate 395 none
  statics := none }

def pool9 : Array CpInfo := pool [(2, .class_ 4), (1, u "java/lang/Object"), (0, u "<init>"), (0, u "()V"), (17, .class_ 26), (1, u "jdk/internal/util/Preconditions"), (6, u "checkIndex"), (21, .class_ 56), (0, u "jdk/internal/util/Preconditions$4"), (57, .class_ 115), (0, u "jdk/internal/util/Preconditions$1"), (7, u "SIOOBE_FORMATTER"), (0, u "Ljava/util/function/BiFunction;"), (0, .class_ 126), (0, u "jdk/internal/util/Preconditions$2"), (3, u "AIOOBE_FORMATTER"), (0, .class_ 132), (0, u "jdk/internal/util/Preconditions$3"), (3, u "IOOBE_FORMATTER"), (41, u "(IILjava/util/function/BiFunction;)I")] 15

def k9m0 : Method := { name := "<init>", desc := "()V", sig := { parameters := [], returnType := none }, accessFlags := 1, code := none }
def k9c1 : Code := { maxStack := 3, maxLocals := 3, code := jdk_41_method_11_code, exceptionTable := #[], attributes := #[] }
def k9m1 : Method := { name := "checkIndex", desc := "(IILjava/util/function/BiFunction;)I", sig := { parameters := [.int, .int, (.object "java/util/function/BiFunction")], returnType := some .int }, accessFlags := 9, code := some k9c1 }
/-- jdk/internal/util/Preconditions -/
def k9 : Class := { plain "jdk/internal/util/Preconditions" (some 0) with
  accessFlags := 33
  interfaces := #[]
  cf := some (fileOf pool9 24 #[.nestMembers #[55, 131, 125, 114]] #[{ accessFlags := 1, nameIndex := 5, descriptorIndex := 6, attributes := #[] }, { accessFlags := 9, nameIndex := 33, descriptorIndex := 178, attributes := #[] }] 33 2 #[] #[{ accessFlags := 25, nameIndex := 123, descriptorIndex := 124, attributes := #[] }, { accessFlags := 25, nameIndex := 130, descriptorIndex := 124, attributes := #[] }, { accessFlags := 25, nameIndex := 136, descriptorIndex := 124, attributes := #[] }])
  fields := #[{ name := "SIOOBE_FORMATTER", type := (.object "java/util/function/BiFunction"), accessFlags := 25, slot := 0, constantValue := 0 }, { name := "AIOOBE_FORMATTER", type := (.object "java/util/function/BiFunction"), accessFlags := 25, slot := 1, constantValue := 0 }, { name := "IOOBE_FORMATTER", type := (.object "java/util/function/BiFunction"), accessFlags := 25, slot := 2, constantValue := 0 }]
  methods := #[k9m0, k9m1]
  instanceTypes := #[]
  staticTypes := #[(.object "java/util/function/BiFunction"), (.object "java/util/function/BiFunction"), (.object "java/util/function/BiFunction")]
  resolved := Array.replicate 194 none
  statics := some 1 }

def pool10 : Array CpInfo := pool [(2, .class_ 4), (1, u "java/lang/Object"), (0, u "<init>"), (0, u "()V"), (7, .class_ 16), (1, u "com/example/plumbline/plumbline/core/Hex"), (8, u "digitValue"), (0, u "(C)I")] 24

def k10m0 : Method := { name := "<init>", desc := "()V", sig := { parameters := [], returnType := none }, accessFlags := 2, code := none }
def k10c1 : Code := { maxStack := 2, maxLocals := 1, code := prog_42_method_4_code, exceptionTable := #[], attributes := #[] }
def k10m1 : Method := { name := "digitValue", desc := "(C)I", sig := { parameters := [.char], returnType := some .int }, accessFlags := 8, code := some k10c1 }
/-- com/example/plumbline/plumbline/core/Hex -/
def k10 : Class := { plain "com/example/plumbline/plumbline/core/Hex" (some 0) with
  accessFlags := 49
  interfaces := #[]
  cf := some (fileOf pool10 14 #[] #[{ accessFlags := 2, nameIndex := 5, descriptorIndex := 6, attributes := #[] }, { accessFlags := 8, nameIndex := 25, descriptorIndex := 26, attributes := #[] }] 49 2 #[] #[])
  fields := #[]
  methods := #[k10m0, k10m1]
  instanceTypes := #[]
  staticTypes := #[]
  resolved := Array.replicate 51 none
  statics := none }

def pool11 : Array CpInfo := pool [(9, u "<init>"), (6, .class_ 18), (1, u "java/lang/Object"), (0, u "()V"), (1, .class_ 23), (1, u "jdk/internal/util/ArraysSupport"), (0, u "LOG2_ARRAY_LONG_INDEX_SCALE"), (0, u "I"), (2, u "U"), (0, u "Ljdk/internal/misc/Unsafe;"), (8, u "BIG_ENDIAN"), (0, u "Z"), (8, u "LOG2_BYTE_BIT_SIZE"), (4, u "LOG2_ARRAY_INT_INDEX_SCALE"), (54, u "JLA"), (0, u "Ljdk/internal/access/JavaLangAccess;"), (11, u "LOG2_ARRAY_BOOLEAN_INDEX_SCALE"), (9, u "LOG2_ARRAY_BYTE_INDEX_SCALE"), (5, u "LOG2_ARRAY_CHAR_INDEX_SCALE"), (5, u "LOG2_ARRAY_SHORT_INDEX_SCALE"), (18, u "LOG2_ARRAY_FLOAT_INDEX_SCALE"), (24, u "LOG2_ARRAY_DOUBLE_INDEX_SCALE"), (89, u "T_BOOLEAN"), (2, u "T_CHAR"), (1, u "T_FLOAT"), (1, u "T_DOUBLE"), (1, u "T_BYTE"), (1, u "T_SHORT"), (1, u "T_INT"), (1, u "T_LONG"), (1, u "SOFT_MAX_ARRAY_LENGTH")] 83

def k11m0 : Method := { name := "<init>", desc := "()V", sig := { parameters := [], returnType := none }, accessFlags := 2, code := none }
/-- jdk/internal/util/ArraysSupport -/
def k11 : Class := { plain "jdk/internal/util/ArraysSupport" (some 0) with
  accessFlags := 33
  interfaces := #[]
  cf := some (fileOf pool11 21 #[] #[{ accessFlags := 2, nameIndex := 9, descriptorIndex := 19, attributes := #[] }] 33 16 #[] #[{ accessFlags := 24, nameIndex := 28, descriptorIndex := 29, attributes := #[] }, { accessFlags := 26, nameIndex := 38, descriptorIndex := 39, attributes := #[] }, { accessFlags := 25, nameIndex := 121, descriptorIndex := 25, attributes := #[] }, { accessFlags := 25, nameIndex := 131, descriptorIndex := 25, attributes := #[] }, { accessFlags := 25, nameIndex := 137, descriptorIndex := 25, attributes := #[] }, { accessFlags := 25, nameIndex := 143, descriptorIndex := 25, attributes := #[] }, { accessFlags := 25, nameIndex := 53, descriptorIndex := 25, attributes := #[] }, { accessFlags := 25, nameIndex := 24, descriptorIndex := 25, attributes := #[] }, { accessFlags := 25, nameIndex := 162, descriptorIndex := 25, attributes := #[] }, { accessFlags := 25, nameIndex := 187, descriptorIndex := 25, attributes := #[] }, { accessFlags := 26, nameIndex := 48, descriptorIndex := 25, attributes := #[] }, { accessFlags := 25, nameIndex := 277, descriptorIndex := 25, attributes := #[] }, { accessFlags := 25, nameIndex := 280, descriptorIndex := 25, attributes := #[] }, { accessFlags := 25, nameIndex := 282, descriptorIndex := 25, attributes := #[] }, { accessFlags := 25, nameIndex := 284, descriptorIndex := 25, attributes := #[] }, { accessFlags := 25, nameIndex := 286, descriptorIndex := 25, attributes := #[] }, { accessFlags := 25, nameIndex := 288, descriptorIndex := 25, attributes := #[] }, { accessFlags := 25, nameIndex := 290, descriptorIndex := 25, attributes := #[] }, { accessFlags := 25, nameIndex := 292, descriptorIndex := 25, attributes := #[] }, { accessFlags := 26, nameIndex := 108, descriptorIndex := 109, attributes := #[] }, { accessFlags := 25, nameIndex := 294, descriptorIndex := 25, attributes := #[] }])
  fields := #[{ name := "U", type := (.object "jdk/internal/misc/Unsafe"), accessFlags := 24, slot := 0, constantValue := 0 }, { name := "BIG_ENDIAN", type := .boolean, accessFlags := 26, slot := 1, constantValue := 0 }, { name := "LOG2_ARRAY_BOOLEAN_INDEX_SCALE", type := .int, accessFlags := 25, slot := 2, constantValue := 0 }, { name := "LOG2_ARRAY_BYTE_INDEX_SCALE", type := .int, accessFlags := 25, slot := 3, constantValue := 0 }, { name := "LOG2_ARRAY_CHAR_INDEX_SCALE", type := .int, accessFlags := 25, slot := 4, constantValue := 0 }, { name := "LOG2_ARRAY_SHORT_INDEX_SCALE", type := .int, accessFlags := 25, slot := 5, constantValue := 0 }, { name := "LOG2_ARRAY_INT_INDEX_SCALE", type := .int, accessFlags := 25, slot := 6, constantValue := 0 }, { name := "LOG2_ARRAY_LONG_INDEX_SCALE", type := .int, accessFlags := 25, slot := 7, constantValue := 0 }, { name := "LOG2_ARRAY_FLOAT_INDEX_SCALE", type := .int, accessFlags := 25, slot := 8, constantValue := 0 }, { name := "LOG2_ARRAY_DOUBLE_INDEX_SCALE", type := .int, accessFlags := 25, slot := 9, constantValue := 0 }, { name := "LOG2_BYTE_BIT_SIZE", type := .int, accessFlags := 26, slot := 10, constantValue := 0 }, { name := "T_BOOLEAN", type := .int, accessFlags := 25, slot := 11, constantValue := 0 }, { name := "T_CHAR", type := .int, accessFlags := 25, slot := 12, constantValue := 0 }, { name := "T_FLOAT", type := .int, accessFlags := 25, slot := 13, constantValue := 0 }, { name := "T_DOUBLE", type := .int, accessFlags := 25, slot := 14, constantValue := 0 }, { name := "T_BYTE", type := .int, accessFlags := 25, slot := 15, constantValue := 0 }, { name := "T_SHORT", type := .int, accessFlags := 25, slot := 16, constantValue := 0 }, { name := "T_INT", type := .int, accessFlags := 25, slot := 17, constantValue := 0 }, { name := "T_LONG", type := .int, accessFlags := 25, slot := 18, constantValue := 0 }, { name := "JLA", type := (.object "jdk/internal/access/JavaLangAccess"), accessFlags := 26, slot := 19, constantValue := 0 }, { name := "SOFT_MAX_ARRAY_LENGTH", type := .int, accessFlags := 25, slot := 20, constantValue := 0 }]
  methods := #[k11m0]
  instanceTypes := #[]
  staticTypes := #[(.object "jdk/internal/misc/Unsafe"), .boolean, .int, .int, .int, .int, .int, .int, .int, .int, .int, .int, .int, .int, .int, .int, .int, .int, .int, (.object "jdk/internal/access/JavaLangAccess"), .int]
  resolved := Array.replicate 378 none
  statics := none }

def pool12 : Array CpInfo := pool [(1, u "java/lang/Cloneable"), (0, .class_ 1), (0, u "java/lang/Object"), (0, .class_ 3)] 3

/-- java/lang/Cloneable -/
def k12 : Class := { plain "java/lang/Cloneable" (some 0) with
  accessFlags := 1537
  interfaces := #[]
  cf := some (fileOf pool12 2 #[] #[] 1537 4 #[] #[])
  fields := #[]
  methods := #[]
  instanceTypes := #[]
  staticTypes := #[]
  resolved := Array.replicate 8 none
  statics := none }

/-- the primitive byte -/
def k13 : Class := { plain "byte" none with kind := .primitive 'B', accessFlags := 0x411 }
/-- [B -/
def k14 : Class := { plain "[B" (some 0) with kind := .array 13 .byte, interfaces := #[12, 2], accessFlags := 1041 }

/-- the primitive int -/
def k15 : Class := { plain "int" none with kind := .primitive 'I', accessFlags := 0x411 }
/-- [I -/
def k16 : Class := { plain "[I" (some 0) with kind := .array 15 .int, interfaces := #[12, 2], accessFlags := 1041 }

def heap : Heap := #[{ cls := 7, slots := #[.long 0, .int 1, .null, .int 0, .null, .int 0, .int 0], vm := .statics 7 },
  { cls := 9, slots := #[.null, .null, .null], vm := .statics 9 },
  { cls := 7, slots := #[.ref 3, .int 0, .int 0, .int 0], vm := .none },
  { cls := 14, slots := #[.int 48, .int 49, .int 50, .int 51, .int 52, .int 53, .int 54, .int 55, .int 56, .int 57, .int 97, .int 98, .int 99, .int 100, .int 101, .int 102], vm := .none },
  { cls := 7, slots := #[.ref 5, .int 0, .int 0, .int 0], vm := .none },
  { cls := 14, slots := #[.int 48, .int 49, .int 50, .int 51, .int 52, .int 53, .int 54, .int 55, .int 56, .int 57, .int 65, .int 66, .int 67, .int 68, .int 69, .int 70], vm := .none }]
def classes : Array Class := #[k0, k1, k2, k3, k4, k5, k6, k7, k8, k9, k10, k11, k12, k13, k14, k15, k16]
def interned : List (Array UInt16 × Addr) := [(#[48, 49, 50, 51, 52, 53, 54, 55, 56, 57, 97, 98, 99, 100, 101, 102], 2), (#[48, 49, 50, 51, 52, 53, 54, 55, 56, 57, 65, 66, 67, 68, 69, 70], 4)]
def slotsUsed : Nat := 50
def theMethod : MethodId := ⟨1, 1⟩
def args0 : Array Value := #[.int 5, .int 5]
def aboutOver (below : List Frame) : State where
  vm := { classes := classes, interned := interned.toArray }
  heap := heap
  slotsUsed := slotsUsed
  threads := #[{ frames := .invoking theMethod args0 :: below }]
def below0 : List Frame := [.native { method := ⟨0, 0⟩, args := #[] }]
def about1 : State := aboutOver below0
def p0 : Program := .bare "" "" ""
def e0 : Env := launch0.env 0 0 0
theorem w_frames : about1.frames = Frame.invoking theMethod args0 :: below0 := rfl
set_option maxRecDepth 65536 in
theorem w_args : argsFit about1.vm theMethod args0 = true := by decide +kernel
set_option maxRecDepth 65536 in
theorem w_heap : heapFits about1 = true := by decide +kernel
set_option maxRecDepth 65536 in
theorem w_runnable : about1.curStatus? = some .runnable := by decide +kernel
set_option maxRecDepth 65536 in
theorem w_alone : about1.alone = true := by decide +kernel
set_option maxRecDepth 65536 in
theorem w_named : about1.methodNamed? x = some theMethod := by decide +kernel
set_option maxRecDepth 65536 in
theorem w_hears : about1.hears theMethod below0 = true := by decide +kernel
set_option maxRecDepth 65536 in
theorem w_ripe : about1.ripe theMethod args0 below0 = true := by decide +kernel
theorem w_running : about1.status = .running := rfl
set_option maxRecDepth 65536 in
theorem w_room : about1.hasRoom e0.platform room_1 = true :=
  launch0.hasRoom_least _ room_1 (by decide +kernel) (by decide +kernel) (by decide +kernel) (by decide +kernel) (by decide +kernel) (by decide +kernel)
theorem allAtoms_all (ts : List Jvm.Cond) (a : Array Jvm.Value) (st : Jvm.State) : (allAtoms ts).before a st = ts.all (fun c => c.before a st) := by
  induction ts with
  | nil => rfl
  | cons c t ih =>
    show (Jvm.Cond.and c (allAtoms t)).before a st = _
    rw [Jvm.Cond.before_and, ih, List.all_cons]
def words1 : List Jvm.Cond := Jvm.Cond.code x code maxLocals ret :: tables_1
/-- a 'code' word, met by the world's own term for the bytes: nothing is compared byte by byte -/
theorem code_word {y : MethodName} {bytes : ByteArray} {mx : Nat} {rt : Option FieldType} {a : Array Value} {s : State} {m : MethodId} {meth : Method} {c : Code} (h1 : s.methodNamed? y = some m) (h2 : s.vm.method? m = some meth) (h3 : meth.code = some c) (h4 : c.code = bytes)
    (h5 : (c.maxLocals == mx && c.exceptionTable.isEmpty && decide (c.maxStack ≤ mostOperands) && decide (meth.sig.returnType = rt) && !meth.locks && decide (parseMethodDescriptor y.desc = some meth.sig)) = true) : (Jvm.Cond.code y bytes mx rt).before a s = true := by
  simp only [Bool.and_eq_true, beq_iff_eq, Bool.not_eq_true', decide_eq_true_eq] at h5
  obtain ⟨⟨⟨⟨⟨g1, g2⟩, g3⟩, g4⟩, g5⟩, g6⟩ := h5
  simp [Cond.before, Cond.holds, Cond.value, h1, h2, h3, h4, g1, g2, g3, g4, g5, g6]
def isCode : Jvm.Cond → Bool
  | .code _ _ _ _ => true
  | _ => false
theorem all_split {L : List Jvm.Cond} {P : Jvm.Cond → Bool} (h1 : L.all (fun c => isCode c || P c) = true) (h2 : ∀ c ∈ L.filter isCode, P c = true) : L.all P = true := by
  refine List.all_eq_true.mpr fun c hc => ?_
  have h := List.all_eq_true.mp h1 c hc
  rcases Bool.eq_false_or_eq_true (isCode c) with hi | hi
  · exact h2 c (List.mem_filter.mpr ⟨hc, hi⟩)
  · simpa [hi] using h
set_option maxRecDepth 65536 in
theorem w_c0 : (Jvm.Cond.code x code maxLocals ret).before args0 about1 = true := code_word (m := ⟨1, 1⟩) (meth := k1m1) (c := k1c1) (by decide +kernel) rfl rfl rfl (by decide +kernel)
set_option maxRecDepth 65536 in
theorem w_c1 : (Jvm.Cond.code ({ cls := "java/lang/String", name := "charAt", desc := "(I)C" } : Jvm.MethodName) jdk_42_method_56_code (2 : Nat) (Option.some Jvm.ClassFile.FieldType.char)).before args0 about1 = true := code_word (m := ⟨7, 1⟩) (meth := k7m1) (c := k7c1) (by decide +kernel) rfl rfl rfl (by decide +kernel)
set_option maxRecDepth 65536 in
theorem w_c2 : (Jvm.Cond.code ({ cls := "java/lang/String", name := "isLatin1", desc := "()Z" } : Jvm.MethodName) jdk_42_method_154_code (1 : Nat) (Option.some Jvm.ClassFile.FieldType.boolean)).before args0 about1 = true := code_word (m := ⟨7, 2⟩) (meth := k7m2) (c := k7c2) (by decide +kernel) rfl rfl rfl (by decide +kernel)
set_option maxRecDepth 65536 in
theorem w_c3 : (Jvm.Cond.code ({ cls := "java/lang/StringLatin1", name := "charAt", desc := "([BI)C" } : Jvm.MethodName) jdk_43_method_2_code (2 : Nat) (Option.some Jvm.ClassFile.FieldType.char)).before args0 about1 = true := code_word (m := ⟨8, 1⟩) (meth := k8m1) (c := k8c1) (by decide +kernel) rfl rfl rfl (by decide +kernel)
set_option maxRecDepth 65536 in
theorem w_c4 : (Jvm.Cond.code ({ cls := "java/lang/String", name := "checkIndex", desc := "(II)V" } : Jvm.MethodName) jdk_42_method_155_code (2 : Nat) (Option.none : Option Jvm.ClassFile.FieldType)).before args0 about1 = true := code_word (m := ⟨7, 3⟩) (meth := k7m3) (c := k7c3) (by decide +kernel) rfl rfl rfl (by decide +kernel)
set_option maxRecDepth 65536 in
theorem w_c5 : (Jvm.Cond.code ({ cls := "jdk/internal/util/Preconditions", name := "checkIndex", desc := "(IILjava/util/function/BiFunction;)I" } : Jvm.MethodName) jdk_41_method_11_code (3 : Nat) (Option.some Jvm.ClassFile.FieldType.int)).before args0 about1 = true := code_word (m := ⟨9, 1⟩) (meth := k9m1) (c := k9c1) (by decide +kernel) rfl rfl rfl (by decide +kernel)
set_option maxRecDepth 65536 in
theorem w_c6 : (Jvm.Cond.code ({ cls := "com/example/plumbline/plumbline/core/Hex", name := "digitValue", desc := "(C)I" } : Jvm.MethodName) prog_42_method_4_code (1 : Nat) (Option.some Jvm.ClassFile.FieldType.int)).before args0 about1 = true := code_word (m := ⟨10, 1⟩) (meth := k10m1) (c := k10c1) (by decide +kernel) rfl rfl rfl (by decide +kernel)
def codes1 : List Jvm.Cond := [Jvm.Cond.code x code maxLocals ret, Jvm.Cond.code ({ cls := "java/lang/String", name := "charAt", desc := "(I)C" } : Jvm.MethodName) jdk_42_method_56_code (2 : Nat) (Option.some Jvm.ClassFile.FieldType.char), Jvm.Cond.code ({ cls := "java/lang/String", name := "isLatin1", desc := "()Z" } : Jvm.MethodName) jdk_42_method_154_code (1 : Nat) (Option.some Jvm.ClassFile.FieldType.boolean), Jvm.Cond.code ({ cls := "java/lang/StringLatin1", name := "charAt", desc := "([BI)C" } : Jvm.MethodName) jdk_43_method_2_code (2 : Nat) (Option.some Jvm.ClassFile.FieldType.char), Jvm.Cond.code ({ cls := "java/lang/String", name := "checkIndex", desc := "(II)V" } : Jvm.MethodName) jdk_42_method_155_code (2 : Nat) (Option.none : Option Jvm.ClassFile.FieldType), Jvm.Cond.code ({ cls := "jdk/internal/util/Preconditions", name := "checkIndex", desc := "(IILjava/util/function/BiFunction;)I" } : Jvm.MethodName) jdk_41_method_11_code (3 : Nat) (Option.some Jvm.ClassFile.FieldType.int), Jvm.Cond.code ({ cls := "com/example/plumbline/plumbline/core/Hex", name := "digitValue", desc := "(C)I" } : Jvm.MethodName) prog_42_method_4_code (1 : Nat) (Option.some Jvm.ClassFile.FieldType.int)]
set_option maxRecDepth 65536 in
theorem codes_eq : words1.filter isCode = codes1 := rfl
theorem w_codes : ∀ c ∈ words1.filter isCode, c.before args0 about1 = true := by
  rw [codes_eq]
  intro c hc
  simp only [codes1, List.mem_cons, List.not_mem_nil, or_false] at hc
  rcases hc with rfl | rfl | rfl | rfl | rfl | rfl | rfl
  · exact w_c0
  · exact w_c1
  · exact w_c2
  · exact w_c3
  · exact w_c4
  · exact w_c5
  · exact w_c6
set_option maxRecDepth 65536 in
theorem w_t1 : (words1.take 24).all (fun c => isCode c || c.before args0 about1) = true := by decide +kernel
set_option maxRecDepth 65536 in
theorem w_t2 : (words1.drop 24).all (fun c => isCode c || c.before args0 about1) = true := by decide +kernel
theorem w_tables : (allAtoms (Jvm.Cond.code x code maxLocals ret :: tables_1)).before args0 about1 = true := by
  rw [allAtoms_all]
  show words1.all (fun c => c.before args0 about1) = true
  refine all_split ?_ w_codes
  rw [← List.take_append_drop 24 words1, List.all_append, w_t1, w_t2]
  rfl
set_option maxRecDepth 65536 in
theorem w_rest : rest_1_c.before args0 about1 = true := by decide +kernel
set_option maxRecDepth 65536 in
theorem w_case : (Jvm.Cond.and given_1 narrow_1).before args0 about1 = true := by decide +kernel
set_option maxRecDepth 65536 in
theorem w_consts : constsHeld consts_1 about1 := Jvm.Lit.constsHeldB_iff.mp (by decide +kernel)
theorem w_applies : (headSpec (Jvm.Cond.code x code maxLocals ret :: tables_1) room_1).applies x e0.platform about1 = true :=
  (Spec.applies_iff w_frames).mpr ⟨w_running, w_runnable, w_alone, w_named, w_hears, w_ripe, w_room, w_tables⟩
theorem atStart : AtStart classFile x code maxLocals ret World_1 tables_1 room_1 Calls_1 rest_1 Pre_1 launch0 p0 e0 about1 theMethod args0 below0 :=
  ⟨lists_1, trivial, launch0.admits_env _ _ _, launch0.least_env, fairChoices_fair.cas, fairChoices_fair.clock, w_frames, w_args, w_heap, w_applies, ⟨w_consts, trivial⟩, w_rest, w_case⟩
end start1
theorem witness_1 : WitnessClaimed_1 := ⟨start1.p0, start1.e0, start1.about1, start1.theMethod, start1.args0, start1.below0, start1.atStart⟩
end Jvm.Pilot.@@N@@
