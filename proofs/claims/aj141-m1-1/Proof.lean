import JvmDerived
import JvmDerived.Pilot.@@N@@Statement
import JvmDerived.Pilot.@@N@@Code
set_option linter.unusedVariables false
set_option linter.unusedSimpArgs false
@@BLOCK:NumsL.lean.txt@@
namespace Jvm.RoadKit
open Sem ClassFile Op Lib Jvm.Stand Jvm.Free Jvm.LawKit
section New
variable {p : Program} {l : Launch} {e : Env} {R : Room} {s : State} {m : MethodId} {args : Array Value} {below : List Frame} {meth : Method} {c : Code} {T : State} {locs : List Loc} {cells slots : Nat}
theorem retI (X : Stand p l e R s m args below meth c T locs cells slots) (hx : p.tables.exec = Jvm.exec) {pc : Nat} {Ls : Array Slot} {z : Int32} {rest : List Value} (hret : meth.sig.returnType = some .int) (hd : decode c.code pc = .ok (.ireturn, 1)) {fs : List Frame}
    (hl : ∀ (f : JFrame) (acts : List Action), f.method = m → f.locked = none → f.entered = [] → (doReturn e (T.setTop f) acts (some (.int z))).1 = T.setFrames fs) : Steps p.tables e below (T.setTop (mkF m pc Ls (.int z :: rest))) (T.setFrames fs) := by
  have hm' : T.vm.method? m = some meth := X.method'
  have hn : narrow .int (.int z) = .int z := rfl
  show Steps p.tables e below (T.setTop { method := m, pc := pc, locals := Ls, stack := _ :: rest, locked := none }) _
  jvm_step X.here [X.here.top, hx, hd, hm', hret, hn]
  first | (intro acts; rw [hl _ acts rfl rfl rfl]) | rw [hl _ _ rfl rfl rfl]
  exact Steps.refl _
end New
end Jvm.RoadKit
namespace Jvm.Pilot.@@N@@
open Jvm Jvm.ClassFile Sem Op Lib Jvm.Free Jvm.Stand Jvm.LawKit Jvm.RoadKit Bundle Jvm.Pilot.@@N@@.Jvm.D
/-! OWN KIT: a run that comes to an end, one law an instruction, arrays as lists (written once, pasted by wip/gen/lawgen.py) -/
section OwnKit
variable {p : Program} {l : Launch} {e : Env} {R : Room} {s : State} {m : MethodId} {args : Array Value} {below : List Frame} {meth : Method} {c : Code} {T T' : State} {locs : List Loc} {cells slots : Nat} {Z : State} {a0 : Array Value} {h h' : Heap}
variable {Q : Outcome → State → Prop} {K : Option Value → Heap → List Loc → Prop} {cc ss : Nat}
variable {pc pc' pc1 pc2 : Nat} {Ls l' : Array Slot} {rest : List Value} {x y : Int32} {u w : Int64}
/-- from T, with g on top, the run comes to an end of which Q holds -/
def own_Go (p : Program) (e : Env) (below : List Frame) (Q : Outcome → State → Prop) (T : State) (g : JFrame) : Prop :=
  ∃ s₂ o, Steps p.tables e below (T.setTop g) s₂ ∧ s₂.status = .running ∧ Ended s₂ below o ∧ Q o s₂
/-- what a body's end says: it returned, K holds of the value, the heap and the old places written -/
def own_Q (s : State) (K : Option Value → Heap → List Loc → Prop) (cc ss : Nat) : Outcome → State → Prop := fun o t => ∃ v L, o = .returned v ∧ K v t.heap L ∧ FrameEnd s o t L cc ss
/-- what stands fast in one body -/
def own_Cx (p : Program) (s : State) (m : MethodId) (meth : Method) (c : Code) (Z : State) (a0 : Array Value) (bytes : ByteArray) (ml : Nat) (own : String) (rt : Option FieldType) (nm : String) : Prop :=
  p.tables.exec = Jvm.exec ∧ Z.Warmed39 s.vm ∧ (∀ d ∈ tables_1, d.before a0 Z = true) ∧ c.code = bytes ∧ c.maxLocals = ml ∧ s.vm.findClass own = some m.cls ∧ meth.sig.returnType = rt ∧ meth.locks = false ∧ meth.name = nm
theorem own_go {g g' : JFrame} (st : ∀ t, Steps p.tables e below (T'.setTop g') t → Steps p.tables e below (T.setTop g) t) (k : own_Go p e below Q T' g') : own_Go p e below Q T g := by
  obtain ⟨s₂, o, h1, h2⟩ := k
  exact ⟨s₂, o, st _ h1, h2⟩
theorem o_iloadN (X : Stand p l e R s m args below meth c T locs cells slots) (hx : p.tables.exec = Jvm.exec) {k : Fin 4} {v : Int32} (hd : decode c.code pc = .ok (.iload_n k, 1)) (hl : Ls[k.val]? = some (.val (.int v))) (hp : pc + 1 = pc') (q : own_Go p e below Q T (mkF m pc' Ls (.int v :: rest))) : own_Go p e below Q T (mkF m pc Ls rest) := by
  subst hp; exact own_go (fun t k' => XS.iloadN X.here hx rfl hd hl k') q
theorem o_iload (X : Stand p l e R s m args below meth c T locs cells slots) (hx : p.tables.exec = Jvm.exec) {k : Nat} {v : Int32} (hd : decode c.code pc = .ok (.iload k, 2)) (hl : Ls[k]? = some (.val (.int v))) (hp : pc + 2 = pc') (q : own_Go p e below Q T (mkF m pc' Ls (.int v :: rest))) : own_Go p e below Q T (mkF m pc Ls rest) := by
  subst hp; exact own_go (fun t k' => XS.iload X.here hx rfl hd hl k') q
theorem o_lloadN (X : Stand p l e R s m args below meth c T locs cells slots) (hx : p.tables.exec = Jvm.exec) {k : Fin 4} {v : Int64} (hd : decode c.code pc = .ok (.lload_n k, 1)) (hl : Ls[k.val]? = some (.val (.long v))) (hp : pc + 1 = pc') (q : own_Go p e below Q T (mkF m pc' Ls (.long v :: rest))) : own_Go p e below Q T (mkF m pc Ls rest) := by
  subst hp; exact own_go (fun t k' => XS.lloadN X.here hx rfl hd hl k') q
theorem o_lload (X : Stand p l e R s m args below meth c T locs cells slots) (hx : p.tables.exec = Jvm.exec) {k : Nat} {v : Int64} (hd : decode c.code pc = .ok (.lload k, 2)) (hl : Ls[k]? = some (.val (.long v))) (hp : pc + 2 = pc') (q : own_Go p e below Q T (mkF m pc' Ls (.long v :: rest))) : own_Go p e below Q T (mkF m pc Ls rest) := by
  subst hp; exact own_go (fun t k' => XS.lload X.here hx rfl hd hl k') q
theorem o_aloadN (X : Stand p l e R s m args below meth c T locs cells slots) (hx : p.tables.exec = Jvm.exec) {k : Fin 4} {v : Value} (hd : decode c.code pc = .ok (.aload_n k, 1)) (hl : Ls[k.val]? = some (.val v)) (hv : v.isRef = true) (hp : pc + 1 = pc') (q : own_Go p e below Q T (mkF m pc' Ls (v :: rest))) : own_Go p e below Q T (mkF m pc Ls rest) := by
  subst hp; exact own_go (fun t k' => XS.aloadN X.here hx rfl hd hl hv k') q
theorem o_aload (X : Stand p l e R s m args below meth c T locs cells slots) (hx : p.tables.exec = Jvm.exec) {k : Nat} {v : Value} (hd : decode c.code pc = .ok (.aload k, 2)) (hl : Ls[k]? = some (.val v)) (hv : v.isRef = true) (hp : pc + 2 = pc') (q : own_Go p e below Q T (mkF m pc' Ls (v :: rest))) : own_Go p e below Q T (mkF m pc Ls rest) := by
  subst hp; exact own_go (fun t k' => XS.aload X.here hx rfl hd hl hv k') q
theorem o_istoreN (X : Stand p l e R s m args below meth c T locs cells slots) (hx : p.tables.exec = Jvm.exec) {k : Fin 4} (hd : decode c.code pc = .ok (.istore_n k, 1)) (hl : storeLocals Ls k.val (.int x) = some l') (hp : pc + 1 = pc') (q : own_Go p e below Q T (mkF m pc' l' rest)) : own_Go p e below Q T (mkF m pc Ls (.int x :: rest)) := by
  subst hp; exact own_go (fun t k' => XS.istoreN X.here hx rfl hd rfl hl k') q
theorem o_istore (X : Stand p l e R s m args below meth c T locs cells slots) (hx : p.tables.exec = Jvm.exec) {k : Nat} (hd : decode c.code pc = .ok (.istore k, 2)) (hl : storeLocals Ls k (.int x) = some l') (hp : pc + 2 = pc') (q : own_Go p e below Q T (mkF m pc' l' rest)) : own_Go p e below Q T (mkF m pc Ls (.int x :: rest)) := by
  subst hp; exact own_go (fun t k' => XS.istore X.here hx rfl hd rfl hl k') q
theorem o_lstoreN (X : Stand p l e R s m args below meth c T locs cells slots) (hx : p.tables.exec = Jvm.exec) {k : Fin 4} (hd : decode c.code pc = .ok (.lstore_n k, 1)) (hl : storeLocals Ls k.val (.long u) = some l') (hp : pc + 1 = pc') (q : own_Go p e below Q T (mkF m pc' l' rest)) : own_Go p e below Q T (mkF m pc Ls (.long u :: rest)) := by
  subst hp; exact own_go (fun t k' => XS.lstoreN X.here hx rfl hd rfl hl k') q
theorem o_lstore (X : Stand p l e R s m args below meth c T locs cells slots) (hx : p.tables.exec = Jvm.exec) {k : Nat} (hd : decode c.code pc = .ok (.lstore k, 2)) (hl : storeLocals Ls k (.long u) = some l') (hp : pc + 2 = pc') (q : own_Go p e below Q T (mkF m pc' l' rest)) : own_Go p e below Q T (mkF m pc Ls (.long u :: rest)) := by
  subst hp; exact own_go (fun t k' => XS.lstore X.here hx rfl hd rfl hl k') q
theorem o_astoreN (X : Stand p l e R s m args below meth c T locs cells slots) (hx : p.tables.exec = Jvm.exec) {k : Fin 4} {v : Value} (hd : decode c.code pc = .ok (.astore_n k, 1)) (hv : v.isRef = true) (hl : storeLocals Ls k.val v = some l') (hp : pc + 1 = pc') (q : own_Go p e below Q T (mkF m pc' l' rest)) : own_Go p e below Q T (mkF m pc Ls (v :: rest)) := by
  subst hp; exact own_go (fun t k' => XS.astoreN X.here hx rfl hd rfl hv hl k') q
theorem o_astore (X : Stand p l e R s m args below meth c T locs cells slots) (hx : p.tables.exec = Jvm.exec) {k : Nat} {v : Value} (hd : decode c.code pc = .ok (.astore k, 2)) (hv : v.isRef = true) (hl : storeLocals Ls k v = some l') (hp : pc + 2 = pc') (q : own_Go p e below Q T (mkF m pc' l' rest)) : own_Go p e below Q T (mkF m pc Ls (v :: rest)) := by
  subst hp; exact own_go (fun t k' => XS.astore X.here hx rfl hd rfl hv hl k') q
theorem o_iconst (X : Stand p l e R s m args below meth c T locs cells slots) (hx : p.tables.exec = Jvm.exec) {i : Int} (hd : decode c.code pc = .ok (.iconst i, 1)) (hv : Int32.ofInt i = x) (hp : pc + 1 = pc') (q : own_Go p e below Q T (mkF m pc' Ls (.int x :: rest))) : own_Go p e below Q T (mkF m pc Ls rest) := by
  subst hp hv; exact own_go (fun t k' => XS.iconst X.here hx rfl hd k') q
theorem o_bipush (X : Stand p l e R s m args below meth c T locs cells slots) (hx : p.tables.exec = Jvm.exec) {i : Int} (hd : decode c.code pc = .ok (.bipush i, 2)) (hv : (Int8.ofInt i).toInt32 = x) (hp : pc + 2 = pc') (q : own_Go p e below Q T (mkF m pc' Ls (.int x :: rest))) : own_Go p e below Q T (mkF m pc Ls rest) := by
  subst hp hv; exact own_go (fun t k' => XS.bipush X.here hx rfl hd k') q
theorem o_sipush (X : Stand p l e R s m args below meth c T locs cells slots) (hx : p.tables.exec = Jvm.exec) {i : Int} (hd : decode c.code pc = .ok (.sipush i, 3)) (hv : (Int16.ofInt i).toInt32 = x) (hp : pc + 3 = pc') (q : own_Go p e below Q T (mkF m pc' Ls (.int x :: rest))) : own_Go p e below Q T (mkF m pc Ls rest) := by
  subst hp hv; exact own_go (fun t k' => XS.sipush X.here hx rfl hd k') q
theorem o_lconst (X : Stand p l e R s m args below meth c T locs cells slots) (hx : p.tables.exec = Jvm.exec) {k : Fin 2} (hd : decode c.code pc = .ok (.lconst k, 1)) (hv : Int64.ofNat k = u) (hp : pc + 1 = pc') (q : own_Go p e below Q T (mkF m pc' Ls (.long u :: rest))) : own_Go p e below Q T (mkF m pc Ls rest) := by
  subst hp hv; exact own_go (fun t k' => XS.lconst X.here hx rfl hd k') q
theorem o_ldcI (X : Stand p l e R s m args below meth c T locs cells slots) (hx : p.tables.exec = Jvm.exec) (hZ : Z.Warmed39 s.vm) {own : String} {index : Nat} (hown : s.vm.findClass own = some m.cls) (w1 : (Cond.constant own index x).before a0 Z = true) (hd : decode c.code pc = .ok (.ldc index, 2)) (hp : pc + 2 = pc') (q : own_Go p e below Q T (mkF m pc' Ls (.int x :: rest))) : own_Go p e below Q T (mkF m pc Ls rest) := by
  subst hp; exact own_go (fun t k' => X.ldcInt hx hown (mvT hZ w1) (g := mkF m pc Ls rest) rfl hd t k') q
theorem o_ldcL (X : Stand p l e R s m args below meth c T locs cells slots) (hx : p.tables.exec = Jvm.exec) (hZ : Z.Warmed39 s.vm) {own : String} {index : Nat} (hown : s.vm.findClass own = some m.cls) (w1 : (Cond.constantLong own index u).before a0 Z = true) (hd : decode c.code pc = .ok (.ldc2_w index, 3)) (hp : pc + 3 = pc') (q : own_Go p e below Q T (mkF m pc' Ls (.long u :: rest))) : own_Go p e below Q T (mkF m pc Ls rest) := by
  subst hp; exact own_go (fun t k' => X.ldc2Long hx hown (mvT hZ w1) (g := mkF m pc Ls rest) rfl hd t k') q
theorem o_iadd (X : Stand p l e R s m args below meth c T locs cells slots) (hx : p.tables.exec = Jvm.exec) (hd : decode c.code pc = .ok (.iadd, 1)) (hp : pc + 1 = pc') {z : Int32} (hz : x + y = z) (q : own_Go p e below Q T (mkF m pc' Ls (.int z :: rest))) : own_Go p e below Q T (mkF m pc Ls (.int y :: .int x :: rest)) := by
  subst hp hz; exact own_go (fun t k' => XS.iadd X.here hx rfl hd rfl k') q
theorem o_isub (X : Stand p l e R s m args below meth c T locs cells slots) (hx : p.tables.exec = Jvm.exec) (hd : decode c.code pc = .ok (.isub, 1)) (hp : pc + 1 = pc') {z : Int32} (hz : x - y = z) (q : own_Go p e below Q T (mkF m pc' Ls (.int z :: rest))) : own_Go p e below Q T (mkF m pc Ls (.int y :: .int x :: rest)) := by
  subst hp hz; exact own_go (fun t k' => XS.isub X.here hx rfl hd rfl k') q
theorem o_imul (X : Stand p l e R s m args below meth c T locs cells slots) (hx : p.tables.exec = Jvm.exec) (hd : decode c.code pc = .ok (.imul, 1)) (hp : pc + 1 = pc') {z : Int32} (hz : x * y = z) (q : own_Go p e below Q T (mkF m pc' Ls (.int z :: rest))) : own_Go p e below Q T (mkF m pc Ls (.int y :: .int x :: rest)) := by
  subst hp hz; exact own_go (fun t k' => XS.imul X.here hx rfl hd rfl k') q
theorem o_iand (X : Stand p l e R s m args below meth c T locs cells slots) (hx : p.tables.exec = Jvm.exec) (hd : decode c.code pc = .ok (.iand, 1)) (hp : pc + 1 = pc') {z : Int32} (hz : x &&& y = z) (q : own_Go p e below Q T (mkF m pc' Ls (.int z :: rest))) : own_Go p e below Q T (mkF m pc Ls (.int y :: .int x :: rest)) := by
  subst hp hz; exact own_go (fun t k' => XS.iand X.here hx rfl hd rfl k') q
theorem o_ior (X : Stand p l e R s m args below meth c T locs cells slots) (hx : p.tables.exec = Jvm.exec) (hd : decode c.code pc = .ok (.ior, 1)) (hp : pc + 1 = pc') {z : Int32} (hz : x ||| y = z) (q : own_Go p e below Q T (mkF m pc' Ls (.int z :: rest))) : own_Go p e below Q T (mkF m pc Ls (.int y :: .int x :: rest)) := by
  subst hp hz; exact own_go (fun t k' => XS.ior X.here hx rfl hd rfl k') q
theorem o_ixor (X : Stand p l e R s m args below meth c T locs cells slots) (hx : p.tables.exec = Jvm.exec) (hd : decode c.code pc = .ok (.ixor, 1)) (hp : pc + 1 = pc') {z : Int32} (hz : x ^^^ y = z) (q : own_Go p e below Q T (mkF m pc' Ls (.int z :: rest))) : own_Go p e below Q T (mkF m pc Ls (.int y :: .int x :: rest)) := by
  subst hp hz; exact own_go (fun t k' => XS.ixor X.here hx rfl hd rfl k') q
/-- Java's shifts, remainders: under names of our own -/
def own_shl (x y : Int32) : Int32 := x <<< (y &&& 31)
def own_shr (x y : Int32) : Int32 := x >>> (y &&& 31)
def own_ushr (x y : Int32) : Int32 := (x.toUInt32 >>> (y &&& 31).toUInt32).toInt32
def own_rem (x y : Int32) : Int32 := x - (x / y) * y
def own_lshl (u : Int64) (y : Int32) : Int64 := u <<< (y &&& 0x3f).toInt64
def own_lushr (u : Int64) (y : Int32) : Int64 := (u.toUInt64 >>> (y &&& 0x3f).toInt64.toUInt64).toInt64
def own_lrem (u w : Int64) : Int64 := u - (u / w) * w
theorem o_ishl (X : Stand p l e R s m args below meth c T locs cells slots) (hx : p.tables.exec = Jvm.exec) (hd : decode c.code pc = .ok (.ishl, 1)) (hp : pc + 1 = pc') {z : Int32} (hz : own_shl x y = z) (q : own_Go p e below Q T (mkF m pc' Ls (.int z :: rest))) : own_Go p e below Q T (mkF m pc Ls (.int y :: .int x :: rest)) := by
  subst hp hz; exact own_go (fun t k' => XS.ishl X.here hx rfl hd rfl k') q
theorem o_ishr (X : Stand p l e R s m args below meth c T locs cells slots) (hx : p.tables.exec = Jvm.exec) (hd : decode c.code pc = .ok (.ishr, 1)) (hp : pc + 1 = pc') {z : Int32} (hz : own_shr x y = z) (q : own_Go p e below Q T (mkF m pc' Ls (.int z :: rest))) : own_Go p e below Q T (mkF m pc Ls (.int y :: .int x :: rest)) := by
  subst hp hz; exact own_go (fun t k' => XS.ishr X.here hx rfl hd rfl k') q
theorem o_iushr (X : Stand p l e R s m args below meth c T locs cells slots) (hx : p.tables.exec = Jvm.exec) (hd : decode c.code pc = .ok (.iushr, 1)) (hp : pc + 1 = pc') {z : Int32} (hz : own_ushr x y = z) (q : own_Go p e below Q T (mkF m pc' Ls (.int z :: rest))) : own_Go p e below Q T (mkF m pc Ls (.int y :: .int x :: rest)) := by
  subst hp hz; exact own_go (fun t k' => XS.iushr X.here hx rfl hd rfl k') q
theorem o_irem (X : Stand p l e R s m args below meth c T locs cells slots) (hx : p.tables.exec = Jvm.exec) (hd : decode c.code pc = .ok (.irem, 1)) (hp : pc + 1 = pc') (hy : y ≠ 0) {z : Int32} (hz : own_rem x y = z) (q : own_Go p e below Q T (mkF m pc' Ls (.int z :: rest))) : own_Go p e below Q T (mkF m pc Ls (.int y :: .int x :: rest)) := by
  subst hp hz; exact own_go (fun t k' => XS.irem X.here hx rfl hd rfl hy k') q
theorem o_idiv (X : Stand p l e R s m args below meth c T locs cells slots) (hx : p.tables.exec = Jvm.exec) (hd : decode c.code pc = .ok (.idiv, 1)) (hp : pc + 1 = pc') (hy : y ≠ 0) {z : Int32} (hz : x / y = z) (q : own_Go p e below Q T (mkF m pc' Ls (.int z :: rest))) : own_Go p e below Q T (mkF m pc Ls (.int y :: .int x :: rest)) := by
  subst hp hz; exact own_go (fun t k' => XS.idiv X.here hx rfl hd rfl hy k') q
theorem o_ineg (X : Stand p l e R s m args below meth c T locs cells slots) (hx : p.tables.exec = Jvm.exec) (hd : decode c.code pc = .ok (.ineg, 1)) (hp : pc + 1 = pc') {z : Int32} (hz : -x = z) (q : own_Go p e below Q T (mkF m pc' Ls (.int z :: rest))) : own_Go p e below Q T (mkF m pc Ls (.int x :: rest)) := by
  subst hp hz; exact own_go (fun t k' => XS.ineg X.here hx rfl hd rfl k') q
theorem o_ladd (X : Stand p l e R s m args below meth c T locs cells slots) (hx : p.tables.exec = Jvm.exec) (hd : decode c.code pc = .ok (.ladd, 1)) (hp : pc + 1 = pc') {z : Int64} (hz : u + w = z) (q : own_Go p e below Q T (mkF m pc' Ls (.long z :: rest))) : own_Go p e below Q T (mkF m pc Ls (.long w :: .long u :: rest)) := by
  subst hp hz; exact own_go (fun t k' => XS.ladd X.here hx rfl hd rfl k') q
theorem o_lsub (X : Stand p l e R s m args below meth c T locs cells slots) (hx : p.tables.exec = Jvm.exec) (hd : decode c.code pc = .ok (.lsub, 1)) (hp : pc + 1 = pc') {z : Int64} (hz : u - w = z) (q : own_Go p e below Q T (mkF m pc' Ls (.long z :: rest))) : own_Go p e below Q T (mkF m pc Ls (.long w :: .long u :: rest)) := by
  subst hp hz; exact own_go (fun t k' => XS.lsub X.here hx rfl hd rfl k') q
theorem o_lmul (X : Stand p l e R s m args below meth c T locs cells slots) (hx : p.tables.exec = Jvm.exec) (hd : decode c.code pc = .ok (.lmul, 1)) (hp : pc + 1 = pc') {z : Int64} (hz : u * w = z) (q : own_Go p e below Q T (mkF m pc' Ls (.long z :: rest))) : own_Go p e below Q T (mkF m pc Ls (.long w :: .long u :: rest)) := by
  subst hp hz; exact own_go (fun t k' => XS.lmul X.here hx rfl hd rfl k') q
theorem o_land (X : Stand p l e R s m args below meth c T locs cells slots) (hx : p.tables.exec = Jvm.exec) (hd : decode c.code pc = .ok (.land, 1)) (hp : pc + 1 = pc') {z : Int64} (hz : u &&& w = z) (q : own_Go p e below Q T (mkF m pc' Ls (.long z :: rest))) : own_Go p e below Q T (mkF m pc Ls (.long w :: .long u :: rest)) := by
  subst hp hz; exact own_go (fun t k' => XS.land X.here hx rfl hd rfl k') q
theorem o_lor (X : Stand p l e R s m args below meth c T locs cells slots) (hx : p.tables.exec = Jvm.exec) (hd : decode c.code pc = .ok (.lor, 1)) (hp : pc + 1 = pc') {z : Int64} (hz : u ||| w = z) (q : own_Go p e below Q T (mkF m pc' Ls (.long z :: rest))) : own_Go p e below Q T (mkF m pc Ls (.long w :: .long u :: rest)) := by
  subst hp hz; exact own_go (fun t k' => XS.lor X.here hx rfl hd rfl k') q
theorem o_lxor (X : Stand p l e R s m args below meth c T locs cells slots) (hx : p.tables.exec = Jvm.exec) (hd : decode c.code pc = .ok (.lxor, 1)) (hp : pc + 1 = pc') {z : Int64} (hz : u ^^^ w = z) (q : own_Go p e below Q T (mkF m pc' Ls (.long z :: rest))) : own_Go p e below Q T (mkF m pc Ls (.long w :: .long u :: rest)) := by
  subst hp hz; exact own_go (fun t k' => XS.lxor X.here hx rfl hd rfl k') q
theorem o_lshl (X : Stand p l e R s m args below meth c T locs cells slots) (hx : p.tables.exec = Jvm.exec) (hd : decode c.code pc = .ok (.lshl, 1)) (hp : pc + 1 = pc') {z : Int64} (hz : own_lshl u y = z) (q : own_Go p e below Q T (mkF m pc' Ls (.long z :: rest))) : own_Go p e below Q T (mkF m pc Ls (.int y :: .long u :: rest)) := by
  subst hp hz; exact own_go (fun t k' => XS.lshl X.here hx rfl hd rfl k') q
theorem o_lushr (X : Stand p l e R s m args below meth c T locs cells slots) (hx : p.tables.exec = Jvm.exec) (hd : decode c.code pc = .ok (.lushr, 1)) (hp : pc + 1 = pc') {z : Int64} (hz : own_lushr u y = z) (q : own_Go p e below Q T (mkF m pc' Ls (.long z :: rest))) : own_Go p e below Q T (mkF m pc Ls (.int y :: .long u :: rest)) := by
  subst hp hz; exact own_go (fun t k' => XS.lushr X.here hx rfl hd rfl k') q
theorem o_ldiv (X : Stand p l e R s m args below meth c T locs cells slots) (hx : p.tables.exec = Jvm.exec) (hd : decode c.code pc = .ok (.ldiv, 1)) (hp : pc + 1 = pc') (hy : w ≠ 0) {z : Int64} (hz : u / w = z) (q : own_Go p e below Q T (mkF m pc' Ls (.long z :: rest))) : own_Go p e below Q T (mkF m pc Ls (.long w :: .long u :: rest)) := by
  subst hp hz; exact own_go (fun t k' => XS.ldiv X.here hx rfl hd rfl hy k') q
theorem o_lrem (X : Stand p l e R s m args below meth c T locs cells slots) (hx : p.tables.exec = Jvm.exec) (hd : decode c.code pc = .ok (.lrem, 1)) (hp : pc + 1 = pc') (hy : w ≠ 0) {z : Int64} (hz : own_lrem u w = z) (q : own_Go p e below Q T (mkF m pc' Ls (.long z :: rest))) : own_Go p e below Q T (mkF m pc Ls (.long w :: .long u :: rest)) := by
  subst hp hz; exact own_go (fun t k' => XS.lrem X.here hx rfl hd rfl hy k') q
theorem o_i2l (X : Stand p l e R s m args below meth c T locs cells slots) (hx : p.tables.exec = Jvm.exec) (hd : decode c.code pc = .ok (.i2l, 1)) (hp : pc + 1 = pc') {z : Int64} (hz : x.toInt64 = z) (q : own_Go p e below Q T (mkF m pc' Ls (.long z :: rest))) : own_Go p e below Q T (mkF m pc Ls (.int x :: rest)) := by
  subst hp hz; exact own_go (fun t k' => XS.i2l X.here hx rfl hd rfl k') q
theorem o_l2i (X : Stand p l e R s m args below meth c T locs cells slots) (hx : p.tables.exec = Jvm.exec) (hd : decode c.code pc = .ok (.l2i, 1)) (hp : pc + 1 = pc') {z : Int32} (hz : u.toInt32 = z) (q : own_Go p e below Q T (mkF m pc' Ls (.int z :: rest))) : own_Go p e below Q T (mkF m pc Ls (.long u :: rest)) := by
  subst hp hz; exact own_go (fun t k' => XS.l2i X.here hx rfl hd rfl k') q
def own_i2b (x : Int32) : Int32 := x.toInt8.toInt32
def own_i2c (x : Int32) : Int32 := x.toUInt32.toUInt16.toUInt32.toInt32
theorem o_i2b (X : Stand p l e R s m args below meth c T locs cells slots) (hx : p.tables.exec = Jvm.exec) (hd : decode c.code pc = .ok (.i2b, 1)) (hp : pc + 1 = pc') {z : Int32} (hz : own_i2b x = z) (q : own_Go p e below Q T (mkF m pc' Ls (.int z :: rest))) : own_Go p e below Q T (mkF m pc Ls (.int x :: rest)) := by
  subst hp hz; exact own_go (fun t k' => XS.i2b X.here hx rfl hd rfl k') q
theorem o_i2c (X : Stand p l e R s m args below meth c T locs cells slots) (hx : p.tables.exec = Jvm.exec) (hd : decode c.code pc = .ok (.i2c, 1)) (hp : pc + 1 = pc') {z : Int32} (hz : own_i2c x = z) (q : own_Go p e below Q T (mkF m pc' Ls (.int z :: rest))) : own_Go p e below Q T (mkF m pc Ls (.int x :: rest)) := by
  subst hp hz; exact own_go (fun t k' => XS.i2c X.here hx rfl hd rfl k') q
theorem o_iinc (X : Stand p l e R s m args below meth c T locs cells slots) (hx : p.tables.exec = Jvm.exec) {k : Nat} {i : Int} (hd : decode c.code pc = .ok (.iinc k i, 3)) (hl : Ls[k]? = some (.val (.int x))) (hz : x + Int32.ofInt i = y) (hl' : storeLocals Ls k (.int y) = some l') (hp : pc + 3 = pc') (q : own_Go p e below Q T (mkF m pc' l' rest)) : own_Go p e below Q T (mkF m pc Ls rest) := by
  subst hp hz; exact own_go (fun t k' => XS.iinc X.here hx rfl hd hl hl' k') q
theorem o_dup (X : Stand p l e R s m args below meth c T locs cells slots) (hx : p.tables.exec = Jvm.exec) {v : Value} (hd : decode c.code pc = .ok (.dup, 1)) (hv : v.category = 1) (hp : pc + 1 = pc') (q : own_Go p e below Q T (mkF m pc' Ls (v :: v :: rest))) : own_Go p e below Q T (mkF m pc Ls (v :: rest)) := by
  subst hp; exact own_go (fun t k' => XS.dup X.here hx rfl hd rfl hv k') q
theorem o_pop (X : Stand p l e R s m args below meth c T locs cells slots) (hx : p.tables.exec = Jvm.exec) {v : Value} (hd : decode c.code pc = .ok (.pop, 1)) (hv : v.category = 1) (hp : pc + 1 = pc') (q : own_Go p e below Q T (mkF m pc' Ls rest)) : own_Go p e below Q T (mkF m pc Ls (v :: rest)) := by
  subst hp; exact own_go (fun t k' => XS.pop X.here hx rfl hd rfl hv k') q
theorem o_goto (X : Stand p l e R s m args below meth c T locs cells slots) (hx : p.tables.exec = Jvm.exec) {o : Int} (hd : decode c.code pc = .ok (.goto o, 3)) (ho : 0 ≤ (pc : Int) + o) (hp : ((pc : Int) + o).toNat = pc') (q : own_Go p e below Q T (mkF m pc' Ls rest)) : own_Go p e below Q T (mkF m pc Ls rest) :=
  own_go (fun t k' => XS.goto X.here hx rfl rfl hd ho hp k') q
theorem o_ifP (X : Stand p l e R s m args below meth c T locs cells slots) (hx : p.tables.exec = Jvm.exec) {cd : ClassFile.Cond} {o : Int} {P : Prop} [Decidable P] (hP : P → ifCond.holds cd x = true) (hN : ¬ P → ifCond.holds cd x = false) (hd : decode c.code pc = .ok (.ifCond cd o, 3)) (ho : 0 ≤ (pc : Int) + o) (hp : ((pc : Int) + o).toNat = pc1) (hp2 : pc + 3 = pc2)
    (kt : P → own_Go p e below Q T (mkF m pc1 Ls rest)) (kf : ¬ P → own_Go p e below Q T (mkF m pc2 Ls rest)) : own_Go p e below Q T (mkF m pc Ls (.int x :: rest)) := by
  subst hp2
  by_cases q : P
  · exact own_go (fun t k' => XS.ifYes X.here hx rfl rfl hd rfl (hP q) ho hp k') (kt q)
  · exact own_go (fun t k' => XS.ifNo X.here hx rfl hd rfl (hN q) k') (kf q)
theorem o_ifN (X : Stand p l e R s m args below meth c T locs cells slots) (hx : p.tables.exec = Jvm.exec) {cd : ClassFile.Cond} {o : Int} {P : Prop} [Decidable P] (hP : P → ifCond.holds cd x = false) (hN : ¬ P → ifCond.holds cd x = true) (hd : decode c.code pc = .ok (.ifCond cd o, 3)) (ho : 0 ≤ (pc : Int) + o) (hp : ((pc : Int) + o).toNat = pc1) (hp2 : pc + 3 = pc2)
    (kt : ¬ P → own_Go p e below Q T (mkF m pc1 Ls rest)) (kf : P → own_Go p e below Q T (mkF m pc2 Ls rest)) : own_Go p e below Q T (mkF m pc Ls (.int x :: rest)) := by
  subst hp2
  by_cases q : P
  · exact own_go (fun t k' => XS.ifNo X.here hx rfl hd rfl (hP q) k') (kf q)
  · exact own_go (fun t k' => XS.ifYes X.here hx rfl rfl hd rfl (hN q) ho hp k') (kt q)
theorem o_icP (X : Stand p l e R s m args below meth c T locs cells slots) (hx : p.tables.exec = Jvm.exec) {cd : ClassFile.Cond} {o : Int} {P : Prop} [Decidable P] (hP : P → if_icmp.holds cd x y = true) (hN : ¬ P → if_icmp.holds cd x y = false) (hd : decode c.code pc = .ok (.if_icmp cd o, 3)) (ho : 0 ≤ (pc : Int) + o) (hp : ((pc : Int) + o).toNat = pc1) (hp2 : pc + 3 = pc2)
    (kt : P → own_Go p e below Q T (mkF m pc1 Ls rest)) (kf : ¬ P → own_Go p e below Q T (mkF m pc2 Ls rest)) : own_Go p e below Q T (mkF m pc Ls (.int y :: .int x :: rest)) := by
  subst hp2
  by_cases q : P
  · exact own_go (fun t k' => XS.icmpYes X.here hx rfl rfl hd rfl (hP q) ho hp k') (kt q)
  · exact own_go (fun t k' => XS.icmpNo X.here hx rfl hd rfl (hN q) k') (kf q)
theorem o_icN (X : Stand p l e R s m args below meth c T locs cells slots) (hx : p.tables.exec = Jvm.exec) {cd : ClassFile.Cond} {o : Int} {P : Prop} [Decidable P] (hP : P → if_icmp.holds cd x y = false) (hN : ¬ P → if_icmp.holds cd x y = true) (hd : decode c.code pc = .ok (.if_icmp cd o, 3)) (ho : 0 ≤ (pc : Int) + o) (hp : ((pc : Int) + o).toNat = pc1) (hp2 : pc + 3 = pc2)
    (kt : ¬ P → own_Go p e below Q T (mkF m pc1 Ls rest)) (kf : P → own_Go p e below Q T (mkF m pc2 Ls rest)) : own_Go p e below Q T (mkF m pc Ls (.int y :: .int x :: rest)) := by
  subst hp2
  by_cases q : P
  · exact own_go (fun t k' => XS.icmpNo X.here hx rfl hd rfl (hP q) k') (kf q)
  · exact own_go (fun t k' => XS.icmpYes X.here hx rfl rfl hd rfl (hN q) ho hp k') (kt q)
/-- a branch that goes one way for sure -/
theorem o_ifY (X : Stand p l e R s m args below meth c T locs cells slots) (hx : p.tables.exec = Jvm.exec) {cd : ClassFile.Cond} {o : Int} (hc : ifCond.holds cd x = true) (hd : decode c.code pc = .ok (.ifCond cd o, 3)) (ho : 0 ≤ (pc : Int) + o) (hp : ((pc : Int) + o).toNat = pc') (q : own_Go p e below Q T (mkF m pc' Ls rest)) : own_Go p e below Q T (mkF m pc Ls (.int x :: rest)) :=
  own_go (fun t k' => XS.ifYes X.here hx rfl rfl hd rfl hc ho hp k') q
theorem o_ifX (X : Stand p l e R s m args below meth c T locs cells slots) (hx : p.tables.exec = Jvm.exec) {cd : ClassFile.Cond} {o : Int} (hc : ifCond.holds cd x = false) (hd : decode c.code pc = .ok (.ifCond cd o, 3)) (hp : pc + 3 = pc') (q : own_Go p e below Q T (mkF m pc' Ls rest)) : own_Go p e below Q T (mkF m pc Ls (.int x :: rest)) := by
  subst hp; exact own_go (fun t k' => XS.ifNo X.here hx rfl hd rfl hc k') q
theorem o_icY (X : Stand p l e R s m args below meth c T locs cells slots) (hx : p.tables.exec = Jvm.exec) {cd : ClassFile.Cond} {o : Int} (hc : if_icmp.holds cd x y = true) (hd : decode c.code pc = .ok (.if_icmp cd o, 3)) (ho : 0 ≤ (pc : Int) + o) (hp : ((pc : Int) + o).toNat = pc') (q : own_Go p e below Q T (mkF m pc' Ls rest)) : own_Go p e below Q T (mkF m pc Ls (.int y :: .int x :: rest)) :=
  own_go (fun t k' => XS.icmpYes X.here hx rfl rfl hd rfl hc ho hp k') q
theorem o_icX (X : Stand p l e R s m args below meth c T locs cells slots) (hx : p.tables.exec = Jvm.exec) {cd : ClassFile.Cond} {o : Int} (hc : if_icmp.holds cd x y = false) (hd : decode c.code pc = .ok (.if_icmp cd o, 3)) (hp : pc + 3 = pc') (q : own_Go p e below Q T (mkF m pc' Ls rest)) : own_Go p e below Q T (mkF m pc Ls (.int y :: .int x :: rest)) := by
  subst hp; exact own_go (fun t k' => XS.icmpNo X.here hx rfl hd rfl hc k') q
theorem o_lcmp (X : Stand p l e R s m args below meth c T locs cells slots) (hx : p.tables.exec = Jvm.exec) (hd : decode c.code pc = .ok (.lcmp, 1)) (hp : pc + 1 = pc') (q : own_Go p e below Q T (mkF m pc' Ls (.int (XT.cmpL u w) :: rest))) : own_Go p e below Q T (mkF m pc Ls (.long w :: .long u :: rest)) := by
  subst hp; exact own_go (fun t k' => XS.lcmp X.here hx rfl hd rfl k') q
theorem o_ifnullX (X : Stand p l e R s m args below meth c T locs cells slots) (hx : p.tables.exec = Jvm.exec) {o : Int} {a : Addr} (hd : decode c.code pc = .ok (.ifnull o, 3)) (hp : pc + 3 = pc') (q : own_Go p e below Q T (mkF m pc' Ls rest)) : own_Go p e below Q T (mkF m pc Ls (.ref a :: rest)) := by
  subst hp; exact own_go (fun t k' => XS.ifnullNo X.here hx rfl hd rfl k') q
/-- the ends -/
theorem o_ret (X : Stand p l e R s m args below meth c T locs cells slots) {v : Option Value} {g : JFrame} (hv : meth.sig.returnType = none → v = none) (hlk : meth.locks = false) (hc : cells ≤ cc) (hs : slots ≤ ss) (eT : T.heap = h) (hK : K v h locs)
    (st : ∀ fs : List Frame, (∀ (f : JFrame) (acts : List Action), f.method = m → f.locked = none → f.entered = [] → (doReturn e (T.setTop f) acts v).1 = T.setFrames fs) → Steps p.tables e below (T.setTop g) (T.setFrames fs)) : own_Go p e below (own_Q s K cc ss) T g := by
  subst eT
  obtain ⟨fs, hr, hrun, hended, hW, hsame⟩ := X.leave (v := v) hv hlk
  exact ⟨_, _, st fs hr, hrun, hended, _, _, rfl, hK, ⟨_, rfl⟩, hW, hsame.mono hc hs⟩
theorem o_retV (X : Stand p l e R s m args below meth c T locs cells slots) (hx : p.tables.exec = Jvm.exec) (hret : meth.sig.returnType = none) (hlk : meth.locks = false) (hd : decode c.code pc = .ok (.return_, 1)) (hc : cells ≤ cc) (hs : slots ≤ ss) (eT : T.heap = h) (hK : K none h locs) : own_Go p e below (own_Q s K cc ss) T (mkF m pc Ls []) :=
  o_ret X (fun _ => rfl) hlk hc hs eT hK fun fs hr => X.returnOut hx hret hd hr
theorem o_retI (X : Stand p l e R s m args below meth c T locs cells slots) (hx : p.tables.exec = Jvm.exec) (hret : meth.sig.returnType = some .int) (hlk : meth.locks = false) (hd : decode c.code pc = .ok (.ireturn, 1)) (hc : cells ≤ cc) (hs : slots ≤ ss) (eT : T.heap = h) (hK : K (some (.int x)) h locs) : own_Go p e below (own_Q s K cc ss) T (mkF m pc Ls (.int x :: rest)) :=
  o_ret X (fun h => by rw [hret] at h; cases h) hlk hc hs eT hK fun fs hr => retI X hx hret hd hr
theorem o_retN (X : Stand p l e R s m args below meth c T locs cells slots) (hx : p.tables.exec = Jvm.exec) {t : FieldType} (hret : meth.sig.returnType = some t) (ht : t = .boolean ∨ t = .byte ∨ t = .char ∨ t = .short) (hlk : meth.locks = false) (hd : decode c.code pc = .ok (.ireturn, 1)) (hc : cells ≤ cc) (hs : slots ≤ ss) (eT : T.heap = h) (hK : K (some (.int (nar t x))) h locs) : own_Go p e below (own_Q s K cc ss) T (mkF m pc Ls (.int x :: rest)) :=
  o_ret X (fun h => by rw [hret] at h; cases h) hlk hc hs eT hK fun fs hr => retN X hx hret ht hd hr
theorem o_retL (X : Stand p l e R s m args below meth c T locs cells slots) (hx : p.tables.exec = Jvm.exec) (hret : meth.sig.returnType = some .long) (hlk : meth.locks = false) (hd : decode c.code pc = .ok (.lreturn, 1)) (hc : cells ≤ cc) (hs : slots ≤ ss) (eT : T.heap = h) (hK : K (some (.long u)) h locs) : own_Go p e below (own_Q s K cc ss) T (mkF m pc Ls (.long u :: rest)) :=
  o_ret X (fun h => by rw [hret] at h; cases h) hlk hc hs eT hK fun fs hr => by
    jvm_step X.here [X.here.top, hx, hd, X.method', hret, narrow]
    first | (intro acts; rw [hr _ acts rfl rfl rfl]) | rw [hr _ _ rfl rfl rfl]
    exact Steps.refl _
theorem o_retA (X : Stand p l e R s m args below meth c T locs cells slots) (hx : p.tables.exec = Jvm.exec) {t : FieldType} (hret : meth.sig.returnType = some (.array t)) (hlk : meth.locks = false) {a : Addr} (hd : decode c.code pc = .ok (.areturn, 1)) (hc : cells ≤ cc) (hs : slots ≤ ss) (eT : T.heap = h) (hK : K (some (.ref a)) h locs) : own_Go p e below (own_Q s K cc ss) T (mkF m pc Ls (.ref a :: rest)) :=
  o_ret X (fun h => by rw [hret] at h; cases h) hlk hc hs eT hK fun fs hr => by
    jvm_step X.here [X.here.top, hx, hd, X.method', hret, Value.isRef, FieldType.isReference]
    first | (intro acts; rw [hr _ acts rfl rfl rfl]) | rw [hr _ _ rfl rfl rfl]
    exact Steps.refl _
/-- arrays as lists -/
def own_AI (Z : State) (h : Heap) (a : Addr) (ty : FieldType) (vs : List Int32) : Prop := ∃ cl : Cell, Arr Z h a cl ty ∧ cl.slots = (vs.map Value.int).toArray
def own_AJ (Z : State) (h : Heap) (a : Addr) (vs : List Int64) : Prop := ∃ cl : Cell, Arr Z h a cl .long ∧ cl.slots = (vs.map Value.long).toArray
def own_in (n : Nat) (j : Int32) : Prop := ¬ j < 0 ∧ j.toNatClampNeg < n
def own_get (vs : List Int32) (j : Int32) : Int32 := vs.getD j.toNatClampNeg 0
def own_getL (vs : List Int64) (j : Int32) : Int64 := vs.getD j.toNatClampNeg 0
def own_set (vs : List Int32) (j x : Int32) : List Int32 := vs.set j.toNatClampNeg x
def own_setL (vs : List Int64) (j : Int32) (u : Int64) : List Int64 := vs.set j.toNatClampNeg u
theorem own_AI.lt {a : Addr} {ty : FieldType} {vs : List Int32} (A : own_AI Z h a ty vs) : a < h.size := by obtain ⟨cl, A, -⟩ := A; exact A.lt
theorem own_AI.ext {a : Addr} {ty : FieldType} {vs : List Int32} (A : own_AI Z h a ty vs) (E : Ext h h') : own_AI Z h' a ty vs := by obtain ⟨cl, A, q⟩ := A; exact ⟨cl, A.ext E, q⟩
theorem own_AI.other {a b : Addr} {ty : FieldType} {vs : List Int32} {sl : Nat} {v : Value} (A : own_AI Z h a ty vs) (W : Wr h h' b sl v) (ne : a ≠ b) : own_AI Z h' a ty vs := by obtain ⟨cl, A, q⟩ := A; exact ⟨cl, A.other W ne, q⟩
theorem own_AI.keep {a : Addr} {ty : FieldType} {vs : List Int32} {ws : List Addr} (A : own_AI Z h a ty vs) (K : Keep h h' ws) (ne : a ∉ ws) : own_AI Z h' a ty vs := by obtain ⟨cl, A, q⟩ := A; exact ⟨cl, ⟨K.2.1 a cl A.1 ne, A.2⟩, q⟩
theorem own_AI.put {a : Addr} {ty : FieldType} {vs : List Int32} {j : Int32} (A : own_AI Z h a ty vs) (W : Wr h h' a j.toNatClampNeg (.int x)) : own_AI Z h' a ty (own_set vs j x) := by
  obtain ⟨cl, A, q⟩ := A
  refine ⟨_, A.same W, ?_⟩
  show cl.slots.setIfInBounds _ _ = _
  rw [q, own_set, List.map_set, List.setIfInBounds_toArray]
theorem own_AJ.lt {a : Addr} {vs : List Int64} (A : own_AJ Z h a vs) : a < h.size := by obtain ⟨cl, A, -⟩ := A; exact A.lt
theorem own_AJ.ext {a : Addr} {vs : List Int64} (A : own_AJ Z h a vs) (E : Ext h h') : own_AJ Z h' a vs := by obtain ⟨cl, A, q⟩ := A; exact ⟨cl, A.ext E, q⟩
theorem own_AJ.other {a b : Addr} {vs : List Int64} {sl : Nat} {v : Value} (A : own_AJ Z h a vs) (W : Wr h h' b sl v) (ne : a ≠ b) : own_AJ Z h' a vs := by obtain ⟨cl, A, q⟩ := A; exact ⟨cl, A.other W ne, q⟩
theorem own_AJ.keep {a : Addr} {vs : List Int64} {ws : List Addr} (A : own_AJ Z h a vs) (K : Keep h h' ws) (ne : a ∉ ws) : own_AJ Z h' a vs := by obtain ⟨cl, A, q⟩ := A; exact ⟨cl, ⟨K.2.1 a cl A.1 ne, A.2⟩, q⟩
theorem own_AJ.put {a : Addr} {vs : List Int64} {j : Int32} (A : own_AJ Z h a vs) (W : Wr h h' a j.toNatClampNeg (.long u)) : own_AJ Z h' a (own_setL vs j u) := by
  obtain ⟨cl, A, q⟩ := A
  refine ⟨_, A.same W, ?_⟩
  show cl.slots.setIfInBounds _ _ = _
  rw [q, own_setL, List.map_set, List.setIfInBounds_toArray]
theorem own_inA {n : Nat} {j : Int32} {cl : Cell} (hj : own_in n j) (hn : cl.slots.size = n) : ¬ (j < 0 ∨ cl.slots.size ≤ j.toNatClampNeg) := fun q => q.elim hj.1 fun q => by rw [hn] at q; exact Nat.not_lt.mpr q hj.2
theorem own_szI {cl : Cell} {vs : List Int32} (q : cl.slots = (vs.map Value.int).toArray) : cl.slots.size = vs.length := by rw [q]; simp
theorem own_szJ {cl : Cell} {vs : List Int64} (q : cl.slots = (vs.map Value.long).toArray) : cl.slots.size = vs.length := by rw [q]; simp
theorem own_atI {cl : Cell} {vs : List Int32} {j : Int32} (q : cl.slots = (vs.map Value.int).toArray) (hj : own_in vs.length j) : cl.slots[j.toNatClampNeg]? = some (.int (own_get vs j)) := by
  rw [q, List.getElem?_toArray, List.getElem?_map, List.getElem?_eq_getElem hj.2, own_get, List.getD_eq_getElem?_getD, List.getElem?_eq_getElem hj.2]; rfl
theorem own_atJ {cl : Cell} {vs : List Int64} {j : Int32} (q : cl.slots = (vs.map Value.long).toArray) (hj : own_in vs.length j) : cl.slots[j.toNatClampNeg]? = some (.long (own_getL vs j)) := by
  rw [q, List.getElem?_toArray, List.getElem?_map, List.getElem?_eq_getElem hj.2, own_getL, List.getD_eq_getElem?_getD, List.getElem?_eq_getElem hj.2]; rfl
theorem o_iaload (X : Stand p l e R s m args below meth c T locs cells slots) (hx : p.tables.exec = Jvm.exec) (hZ : Z.Warmed39 s.vm) (eT : T.heap = h) {a : Addr} {vs : List Int32} {j : Int32} (A : own_AI Z h a .int vs) (hj : own_in vs.length j) (hd : decode c.code pc = .ok (.iaload, 1)) (hp : pc + 1 = pc') (hv : own_get vs j = x) (q : own_Go p e below Q T (mkF m pc' Ls (.int x :: rest))) : own_Go p e below Q T (mkF m pc Ls (.int j :: .ref a :: rest)) := by
  subst hp hv
  obtain ⟨cl, A, qs⟩ := A
  exact own_go (fun t k' => X.iaload hx (by rw [eT]; exact A.1) (State.isArrayOf_alike hZ.alike A.2.1) A.2.2 (own_inA hj (own_szI qs)) (own_atI qs hj) (g := mkF m pc Ls (.int j :: .ref a :: rest)) rfl rfl hd t k') q
theorem o_baload (X : Stand p l e R s m args below meth c T locs cells slots) (hx : p.tables.exec = Jvm.exec) (hZ : Z.Warmed39 s.vm) (eT : T.heap = h) {a : Addr} {vs : List Int32} {j : Int32} (A : own_AI Z h a .byte vs) (hj : own_in vs.length j) (hd : decode c.code pc = .ok (.baload, 1)) (hp : pc + 1 = pc') (hv : own_get vs j = x) (q : own_Go p e below Q T (mkF m pc' Ls (.int x :: rest))) : own_Go p e below Q T (mkF m pc Ls (.int j :: .ref a :: rest)) := by
  subst hp hv
  obtain ⟨cl, A, qs⟩ := A
  exact own_go (fun t k' => X.baloadBytes hx (by rw [eT]; exact A.1) (State.isArrayOf_alike hZ.alike A.2.1) A.2.2 (own_inA hj (own_szI qs)) (own_atI qs hj) (g := mkF m pc Ls (.int j :: .ref a :: rest)) rfl rfl hd t k') q
theorem o_laload (X : Stand p l e R s m args below meth c T locs cells slots) (hx : p.tables.exec = Jvm.exec) (hZ : Z.Warmed39 s.vm) (eT : T.heap = h) {a : Addr} {vs : List Int64} {j : Int32} (A : own_AJ Z h a vs) (hj : own_in vs.length j) (hd : decode c.code pc = .ok (.laload, 1)) (hp : pc + 1 = pc') (hv : own_getL vs j = u) (q : own_Go p e below Q T (mkF m pc' Ls (.long u :: rest))) : own_Go p e below Q T (mkF m pc Ls (.int j :: .ref a :: rest)) := by
  subst hp hv
  obtain ⟨cl, A, qs⟩ := A
  exact own_go (fun t k' => X.laload hx (by rw [eT]; exact A.1) (State.isArrayOf_alike hZ.alike A.2.1) A.2.2 (own_inA hj (own_szJ qs)) (own_atJ qs hj) (g := mkF m pc Ls (.int j :: .ref a :: rest)) rfl rfl hd t k') q
/-- the length as arraylength pushes it -/
def own_len (n : Nat) : Int32 := n.toInt32
theorem o_alenI (X : Stand p l e R s m args below meth c T locs cells slots) (hx : p.tables.exec = Jvm.exec) (hZ : Z.Warmed39 s.vm) (eT : T.heap = h) {a : Addr} {ty : FieldType} {vs : List Int32} (A : own_AI Z h a ty vs) (hd : decode c.code pc = .ok (.arraylength, 1)) (hp : pc + 1 = pc') (hv : own_len vs.length = x) (q : own_Go p e below Q T (mkF m pc' Ls (.int x :: rest))) : own_Go p e below Q T (mkF m pc Ls (.ref a :: rest)) := by
  subst hp hv
  obtain ⟨cl, A, qs⟩ := A
  refine own_go (fun t k' => X.arraylength hx (by rw [eT]; exact A.1) (State.isArrayOf_alike hZ.alike A.2.1) (g := mkF m pc Ls (.ref a :: rest)) rfl rfl hd t k') ?_
  rw [own_szI qs]; exact q
theorem o_alenJ (X : Stand p l e R s m args below meth c T locs cells slots) (hx : p.tables.exec = Jvm.exec) (hZ : Z.Warmed39 s.vm) (eT : T.heap = h) {a : Addr} {vs : List Int64} (A : own_AJ Z h a vs) (hd : decode c.code pc = .ok (.arraylength, 1)) (hp : pc + 1 = pc') (hv : own_len vs.length = x) (q : own_Go p e below Q T (mkF m pc' Ls (.int x :: rest))) : own_Go p e below Q T (mkF m pc Ls (.ref a :: rest)) := by
  subst hp hv
  obtain ⟨cl, A, qs⟩ := A
  refine own_go (fun t k' => X.arraylength hx (by rw [eT]; exact A.1) (State.isArrayOf_alike hZ.alike A.2.1) (g := mkF m pc Ls (.ref a :: rest)) rfl rfl hd t k') ?_
  rw [own_szJ qs]; exact q
/-- stores: the place stays in locs -/
theorem o_iastore (X : Stand p l e R s m args below meth c T locs cells slots) (hx : p.tables.exec = Jvm.exec) (hZ : Z.Warmed39 s.vm) (eT : T.heap = h) {a : Addr} {vs vs' : List Int32} {j : Int32} (A : own_AI Z h a .int vs) (hj : own_in vs.length j) (hd : decode c.code pc = .ok (.iastore, 1)) (hp : pc + 1 = pc') (hv : own_set vs j x = vs')
    (k : ∀ T' h', Stand p l e R s m args below meth c T' (locs ++ [⟨a, j.toNatClampNeg⟩]) cells slots → T'.heap = h' → Wr h h' a j.toNatClampNeg (.int x) → own_AI Z h' a .int vs' → own_Go p e below Q T' (mkF m pc' Ls rest)) : own_Go p e below Q T (mkF m pc Ls (.int x :: .int j :: .ref a :: rest)) := by
  subst hp hv
  obtain ⟨cl, A', qs⟩ := id A
  obtain ⟨T', h', X', e', W, st⟩ := stI X hx hZ eT A' (own_inA hj (own_szI qs)) (g := mkF m pc Ls (.int x :: .int j :: .ref a :: rest)) rfl rfl hd
  exact own_go st (k T' h' X' e' W (A.put W))
theorem o_bastore (X : Stand p l e R s m args below meth c T locs cells slots) (hx : p.tables.exec = Jvm.exec) (hZ : Z.Warmed39 s.vm) (eT : T.heap = h) {a : Addr} {vs vs' : List Int32} {j : Int32} (A : own_AI Z h a .byte vs) (hj : own_in vs.length j) (hd : decode c.code pc = .ok (.bastore, 1)) (hp : pc + 1 = pc') (hv : own_set vs j (own_i2b x) = vs')
    (k : ∀ T' h', Stand p l e R s m args below meth c T' (locs ++ [⟨a, j.toNatClampNeg⟩]) cells slots → T'.heap = h' → Wr h h' a j.toNatClampNeg (.int (own_i2b x)) → own_AI Z h' a .byte vs' → own_Go p e below Q T' (mkF m pc' Ls rest)) : own_Go p e below Q T (mkF m pc Ls (.int x :: .int j :: .ref a :: rest)) := by
  subst hp hv
  obtain ⟨cl, A', qs⟩ := id A
  obtain ⟨T', h', X', e', W, st⟩ := stB X hx hZ eT A' (own_inA hj (own_szI qs)) (g := mkF m pc Ls (.int x :: .int j :: .ref a :: rest)) rfl rfl hd
  exact own_go st (k T' h' X' e' W (A.put W))
theorem o_lastore (X : Stand p l e R s m args below meth c T locs cells slots) (hx : p.tables.exec = Jvm.exec) (hZ : Z.Warmed39 s.vm) (eT : T.heap = h) {a : Addr} {vs vs' : List Int64} {j : Int32} (A : own_AJ Z h a vs) (hj : own_in vs.length j) (hd : decode c.code pc = .ok (.lastore, 1)) (hp : pc + 1 = pc') (hv : own_setL vs j u = vs')
    (k : ∀ T' h', Stand p l e R s m args below meth c T' (locs ++ [⟨a, j.toNatClampNeg⟩]) cells slots → T'.heap = h' → Wr h h' a j.toNatClampNeg (.long u) → own_AJ Z h' a vs' → own_Go p e below Q T' (mkF m pc' Ls rest)) : own_Go p e below Q T (mkF m pc Ls (.long u :: .int j :: .ref a :: rest)) := by
  subst hp hv
  obtain ⟨cl, A', qs⟩ := id A
  obtain ⟨T', h', X', e', W, st⟩ := stJ X hx hZ eT A' (own_inA hj (own_szJ qs)) (g := mkF m pc Ls (.long u :: .int j :: .ref a :: rest)) rfl rfl hd
  exact own_go st (k T' h' X' e' W (A.put W))
theorem own_sz (X : Stand p l e R s m args below meth c T locs cells slots) (eT : T.heap = h) : s.heap.size ≤ h.size := by
  have q := X.same.2.1
  rw [← eT]; exact q
/-- the place written lies in a cell made since the start: it needn't be told -/
theorem own_drop {a : Addr} {j : Nat} (X : Stand p l e R s m args below meth c T (locs ++ [⟨a, j⟩]) cells slots) (ha : s.heap.size ≤ a) : Stand p l e R s m args below meth c T locs cells slots := X.forget fun y hy => by cases List.mem_singleton.mp hy; exact ha
theorem own_dropL {L : List Loc} {k : Nat} (X : Stand p l e R s m args below meth c T (locs ++ L) cells slots) (ha : s.heap.size ≤ k) (hL : ∀ y ∈ L, k ≤ y.base) : Stand p l e R s m args below meth c T locs cells slots := X.forget fun y hy => Nat.le_trans ha (hL y hy)
/-- newarray -/
theorem o_newI (X : Stand p l e R s m args below meth c T locs cells slots) (hx : p.tables.exec = Jvm.exec) (hZ : Z.Warmed39 s.vm) (eT : T.heap = h) {aty : ArrayType} {ty : FieldType} (w1 : (Cond.arrayClass ty).before a0 Z = true) (hty : newarray.typeOf aty = ty) (hdv : defaultValue ty = .int 0) (hd : decode c.code pc = .ok (.newarray aty, 2)) (hp : pc + 2 = pc') (hn : ¬ x < 0) {cap : Nat} (hcap : x.toNatClampNeg ≤ cap) (hb : cap * 8 ≤ 536870912) (hc : cells + 1 ≤ R.cells) (hs : slots + cap ≤ R.slots) {vs : List Int32} (hv : List.replicate x.toNatClampNeg 0 = vs)
    (k : ∀ T' h' a, Stand p l e R s m args below meth c T' locs (cells + 1) (slots + cap) → T'.heap = h' → h.size = a → Ext h h' → own_AI Z h' a ty vs → own_Go p e below Q T' (mkF m pc' Ls (.ref a :: rest))) : own_Go p e below Q T (mkF m pc Ls (.int x :: rest)) := by
  subst hp hv hty
  obtain ⟨T', h', cA, X', e', E, A, st⟩ := newP X hx hZ w1 eT (g := mkF m pc Ls (.int x :: rest)) rfl hd rfl hn hcap hb hc hs
  exact own_go st (k T' h' _ X' e' rfl E ⟨_, A, by simp [newA, hdv]⟩)
theorem o_newJ (X : Stand p l e R s m args below meth c T locs cells slots) (hx : p.tables.exec = Jvm.exec) (hZ : Z.Warmed39 s.vm) (eT : T.heap = h) (w1 : (Cond.arrayClass .long).before a0 Z = true) (hd : decode c.code pc = .ok (.newarray .long, 2)) (hp : pc + 2 = pc') (hn : ¬ x < 0) {cap : Nat} (hcap : x.toNatClampNeg ≤ cap) (hb : cap * 8 ≤ 536870912) (hc : cells + 1 ≤ R.cells) (hs : slots + cap ≤ R.slots) {vs : List Int64} (hv : List.replicate x.toNatClampNeg 0 = vs)
    (k : ∀ T' h' a, Stand p l e R s m args below meth c T' locs (cells + 1) (slots + cap) → T'.heap = h' → h.size = a → Ext h h' → own_AJ Z h' a vs → own_Go p e below Q T' (mkF m pc' Ls (.ref a :: rest))) : own_Go p e below Q T (mkF m pc Ls (.int x :: rest)) := by
  subst hp hv
  obtain ⟨T', h', cA, X', e', E, A, st⟩ := newP X hx hZ (aty := .long) w1 eT (g := mkF m pc Ls (.int x :: rest)) rfl hd rfl hn hcap hb hc hs
  exact own_go st (k T' h' _ X' e' rfl E ⟨_, A, by simp [newA, show defaultValue (newarray.typeOf .long) = Value.long 0 from rfl]⟩)
/-- a static call by the callee's contract -/
theorem o_callS (X : Stand p l e R s m args below meth c T locs cells slots) (hx : p.tables.exec = Jvm.exec) (hZ : Z.Warmed39 s.vm) (eT : T.heap = h) {own : String} {index : Nat} {y : MethodName} {bytes : ByteArray} {maxL : Nat} {ret : Option FieldType} {rm : Room} {W : Nat} (hown : s.vm.findClass own = some m.cls)
    (w1 : (Cond.methodLink own index y).before a0 Z = true) (w2 : (Cond.static y).before a0 Z = true) (w3 : (Cond.initialized y.cls).before a0 Z = true) (w4 : (Cond.code y bytes maxL ret).before a0 Z = true) (hy : y.cls ≠ "java/lang/invoke/MethodHandle" ∧ y.cls ≠ "java/lang/invoke/VarHandle") {as' : Array Value} {K : Option Value → Heap → List Loc → Prop}
    (hM : MetFree l y (head1 [Cond.code y bytes maxL ret] rm) (fun a U => a = as' ∧ Z.Warmed39 U.vm ∧ U.heap = h) (fun _ _ _ _ _ => True) (fun _ U o U' => ∃ v L, o = .returned v ∧ K v U'.heap L ∧ FrameEnd U o U' L rm.cells rm.slots))
    (hf : rm.frames + 1 ≤ R.frames) (hl : W + (maxL + 11) + rm.locals ≤ R.locals) (hml : Ls.size = c.maxLocals) {argsL st : List Value} {sig : MethodDescriptor} (hpd : parseMethodDescriptor y.desc = some sig) (hlen : argsL.length = sig.parameters.length) (hst : st = argsL.reverse ++ rest) (has : argsL.toArray = as') (hW : (rest.map fun v => v.category).sum = W)
    (hd : decode c.code pc = .ok (.invokestatic index, 3)) (hp : pc + 3 = pc') (hc : cells + rm.cells ≤ R.cells) (hs : slots + rm.slots ≤ R.slots)
    (k : ∀ v T' L, Stand p l e R s m args below meth c T' (locs ++ L) (cells + rm.cells) (slots + rm.slots) → K v T'.heap L → own_Go p e below Q T' (mkF m pc' Ls (v.toList ++ rest))) : own_Go p e below Q T (mkF m pc Ls st) := by
  subst hp hst has
  obtain ⟨v, _, ⟨T1, L1, k1, n1⟩, -, X1, ⟨Lc, hQ, l1, y1, z1⟩, st1⟩ := Jvm.LawKit.callS X hx hown (mvT hZ w1) (mvT hZ w2) (mvT hZ w3) (mvT hZ w4) hy (backOf (W := W) hM hZ w4 w3 hf hl) (g := mkF m pc Ls (argsL.reverse ++ rest)) rfl hml (argsL := argsL) (rest := rest) (fun sg hsg => by cases hpd.symm.trans hsg; exact hlen) rfl (by show 2 * 0 + _ ≤ _; rw [hW]; omega) hd (fun _ _ => ⟨rfl, eT, hc, hs⟩)
  dsimp only [Pt.U, Pt.locs, Pt.cells, Pt.slots] at X1 l1 y1 z1 st1 hQ
  subst l1 y1 z1
  exact own_go st1 (k v T1 Lc X1 hQ)
/-- a body that writes nothing: what it returns, the heap as it was -/
def own_KP (V : Option Value) (h0 : Heap) : Option Value → Heap → List Loc → Prop := fun v h L => v = V ∧ h = h0 ∧ L = []
/-- a law: what it returns; nothing old is written -/
def own_KL (V : Option Value) : Option Value → Heap → List Loc → Prop := fun v _ L => v = V ∧ L = []
theorem o_callP (X : Stand p l e R s m args below meth c T locs cells slots) (hx : p.tables.exec = Jvm.exec) (hZ : Z.Warmed39 s.vm) (eT : T.heap = h) {own : String} {index : Nat} {y : MethodName} {bytes : ByteArray} {maxL : Nat} {ret : Option FieldType} {rm : Room} {W : Nat} (hown : s.vm.findClass own = some m.cls)
    (w1 : (Cond.methodLink own index y).before a0 Z = true) (w2 : (Cond.static y).before a0 Z = true) (w3 : (Cond.initialized y.cls).before a0 Z = true) (w4 : (Cond.code y bytes maxL ret).before a0 Z = true) (hy : y.cls ≠ "java/lang/invoke/MethodHandle" ∧ y.cls ≠ "java/lang/invoke/VarHandle") {as' : Array Value} {V : Option Value}
    (hM : MetFree l y (head1 [Cond.code y bytes maxL ret] rm) (fun a U => a = as' ∧ Z.Warmed39 U.vm ∧ U.heap = h) (fun _ _ _ _ _ => True) (fun _ U o U' => ∃ v L, o = .returned v ∧ own_KP V h v U'.heap L ∧ FrameEnd U o U' L rm.cells rm.slots))
    (hf : rm.frames + 1 ≤ R.frames) (hl : W + (maxL + 11) + rm.locals ≤ R.locals) (hml : Ls.size = c.maxLocals) {argsL st : List Value} {sig : MethodDescriptor} (hpd : parseMethodDescriptor y.desc = some sig) (hlen : argsL.length = sig.parameters.length) (hst : st = argsL.reverse ++ rest) (has : argsL.toArray = as') (hW : (rest.map fun v => v.category).sum = W)
    (hd : decode c.code pc = .ok (.invokestatic index, 3)) (hp : pc + 3 = pc') (hc0 : rm.cells = 0) (hs0 : rm.slots = 0) (hc : cells + rm.cells ≤ R.cells) (hs : slots + rm.slots ≤ R.slots)
    {st' : List Value} (hst' : V.toList ++ rest = st')
    (k : ∀ T', Stand p l e R s m args below meth c T' locs cells slots → T'.heap = h → own_Go p e below Q T' (mkF m pc' Ls st')) : own_Go p e below Q T (mkF m pc Ls st) := by
  subst hst'
  refine o_callS X hx hZ eT hown w1 w2 w3 w4 hy hM hf hl hml hpd hlen hst has hW hd hp hc hs fun v T' L X' hK => ?_
  obtain ⟨rfl, e', rfl⟩ := hK
  rw [hc0, hs0, List.append_nil] at X'
  exact k T' X' e'
theorem own_snoc {a : Addr} {L : List Loc} {j : Nat} (N : ∀ y ∈ L, y.base = a) : ∀ y ∈ L ++ [⟨a, j⟩], y.base = a := fun y hy => (List.mem_append.mp hy).elim (N y) fun q => by cases List.mem_singleton.mp q; rfl
theorem own_nil (X : Stand p l e R s m args below meth c T (locs ++ []) cells slots) : Stand p l e R s m args below meth c T locs cells slots := by rw [List.append_nil] at X; exact X
/-- a body that writes into the array a alone -/
def own_KW (Z : State) (a : Addr) (ty : FieldType) (vs : List Int32) (h0 : Heap) : Option Value → Heap → List Loc → Prop := fun v h L => v = none ∧ (∀ y ∈ L, y.base = a) ∧ Keep h0 h [a] ∧ own_AI Z h a ty vs
def own_KWJ (Z : State) (a : Addr) (vs : List Int64) (h0 : Heap) : Option Value → Heap → List Loc → Prop := fun v h L => v = none ∧ (∀ y ∈ L, y.base = a) ∧ Keep h0 h [a] ∧ own_AJ Z h a vs
/-- a body that makes an array and hands it back -/
def own_KM (Z : State) (ty : FieldType) (vs : List Int32) (h0 : Heap) : Option Value → Heap → List Loc → Prop := fun v h L => ∃ b, v = some (.ref b) ∧ L = [] ∧ Keep h0 h [] ∧ h0.size ≤ b ∧ own_AI Z h b ty vs
/-- a store over a local that held nothing or one word -/
theorem o_istoreNS (X : Stand p l e R s m args below meth c T locs cells slots) (hx : p.tables.exec = Jvm.exec) {k : Fin 4} {o : Slot} (hd : decode c.code pc = .ok (.istore_n k, 1)) (hold : Ls[k.val]? = some o) (ho : One o) (hl : Ls.setIfInBounds k.val (.val (.int x)) = l') (hp : pc + 1 = pc') (q : own_Go p e below Q T (mkF m pc' l' rest)) : own_Go p e below Q T (mkF m pc Ls (.int x :: rest)) := by
  subst hp hl; exact own_go (fun t k' => XS.istoreNS X.here hx rfl hd rfl hold ho k') q
theorem o_istoreS (X : Stand p l e R s m args below meth c T locs cells slots) (hx : p.tables.exec = Jvm.exec) {k : Nat} {o : Slot} (hd : decode c.code pc = .ok (.istore k, 2)) (hold : Ls[k]? = some o) (ho : One o) (hl : Ls.setIfInBounds k (.val (.int x)) = l') (hp : pc + 2 = pc') (q : own_Go p e below Q T (mkF m pc' l' rest)) : own_Go p e below Q T (mkF m pc Ls (.int x :: rest)) := by
  subst hp hl; exact own_go (fun t k' => XS.istoreS X.here hx rfl hd rfl hold ho k') q
theorem o_astoreS (X : Stand p l e R s m args below meth c T locs cells slots) (hx : p.tables.exec = Jvm.exec) {k : Nat} {o : Slot} {v : Value} (hd : decode c.code pc = .ok (.astore k, 2)) (hv : v.isRef = true) (hcat : v.category = 1) (hold : Ls[k]? = some o) (ho : One o) (hl : Ls.setIfInBounds k (.val v) = l') (hp : pc + 2 = pc') (q : own_Go p e below Q T (mkF m pc' l' rest)) : own_Go p e below Q T (mkF m pc Ls (v :: rest)) := by
  subst hp hl; exact own_go (fun t k' => XS.astoreS X.here hx rfl hd rfl hv hcat hold ho k') q
end OwnKit
/-! own facts on numbers (with kit/NumsL) -/
theorem own_tmod (x y : Int32) : (own_rem x y).toInt = x.toInt.tmod y.toInt := by
  have a := (x % y).toInt_lt; have b := (x % y).le_toInt
  rw [Int32.toInt_mod] at a b
  show (x - (x / y) * y).toInt = _
  rw [Int32.toInt_sub, Int32.toInt_mul, Int32.toInt_div, Int.bmod_mul_bmod, Int.sub_bmod_bmod, Int.mul_comm, ← Int.tmod_def]
  exact Jvm.Kit.bmod32 b a
theorem own_emod {x y : Int32} (hx : 0 ≤ x.toInt) : (own_rem x y).toInt = x.toInt % y.toInt := by rw [own_tmod, Int.tmod_eq_emod_of_nonneg hx]
theorem own_lemod {u w : Int64} (hx : 0 ≤ u.toInt) : (own_lrem u w).toInt = u.toInt % w.toInt := Jvm.Kit.i64_rem_nonneg hx
theorem own_max (x : Int32) : (x &&& 2147483647).toInt = x.toInt % 2 ^ 31 := Jvm.Kit.i32_mask x 2147483647 (by decide) (by decide)
/-- x >>> k, k a number from 1 to 31, as a division of the number without sign -/
theorem own_ushr_toNat (x y : Int32) {k : Nat} (hk : (y &&& 31).toUInt32.toNat = k) (h1 : k < 32) : (own_ushr x y).toBitVec.toNat = x.toBitVec.toNat / 2 ^ k := by
  show ((x.toUInt32 >>> (y &&& 31).toUInt32).toInt32).toBitVec.toNat = _
  rw [UInt32.toBitVec_toInt32, UInt32.toBitVec_shiftRight]
  have e : ((y &&& 31).toUInt32.toBitVec % 32).toNat = k := by
    have e0 : (y &&& 31).toUInt32.toBitVec.toNat = k := hk
    rw [BitVec.toNat_umod, e0]
    exact Nat.mod_eq_of_lt h1
  show (x.toBitVec >>> ((y &&& 31).toUInt32.toBitVec % 32).toNat).toNat = _
  rw [e, BitVec.toNat_ushiftRight, Nat.shiftRight_eq_div_pow]
theorem own_ushr_toInt (x y : Int32) {k : Nat} (hk : (y &&& 31).toUInt32.toNat = k) (h0 : 0 < k) (h1 : k < 32) : (own_ushr x y).toInt = (x.toBitVec.toNat / 2 ^ k : Nat) := by
  have h := own_ushr_toNat x y hk h1
  have hb := x.toBitVec.isLt
  have h2 : x.toBitVec.toNat / 2 ^ k ≤ x.toBitVec.toNat / 2 ^ 1 := Nat.div_le_div_left (Nat.pow_le_pow_right (by decide) h0) (by decide)
  have e : (own_ushr x y).toInt = (own_ushr x y).toBitVec.toInt := rfl
  rw [e, BitVec.toInt_eq_toNat_cond, h, if_pos (by omega)]
theorem own_in_of {n : Nat} {j : Int32} (h0 : 0 ≤ j.toInt) (h1 : j.toInt < n) : own_in n j := by
  refine ⟨fun q => ?_, ?_⟩
  · rw [Int32.lt_iff_toInt_lt] at q
    have : (0 : Int32).toInt = 0 := rfl
    omega
  · rw [Int32.toNatClampNeg]; omega
theorem own_lt {x y : Int32} : x < y ↔ x.toInt < y.toInt := Int32.lt_iff_toInt_lt
theorem own_eq {x y : Int32} : x = y ↔ x.toInt = y.toInt := Int32.toInt_inj.symm
theorem own_ltL {x y : Int64} : x < y ↔ x.toInt < y.toInt := Int64.lt_iff_toInt_lt
theorem own_eqL {x y : Int64} : x = y ↔ x.toInt = y.toInt := Int64.toInt_inj.symm
theorem own_nat_toInt {k : Nat} (h : k < 2 ^ 31) : (Int32.ofNat k).toInt = k := Int32.toInt_ofNat_of_lt (by omega)
theorem own_nat_lt {i n : Nat} (hi : i < 2 ^ 31) (hn : n < 2 ^ 31) : Int32.ofNat i < Int32.ofNat n ↔ i < n := by
  rw [own_lt, own_nat_toInt hi, own_nat_toInt hn]; omega
theorem own_nat_one (i : Nat) : Int32.ofNat i + (1 : Int32) = Int32.ofNat (i + 1) := (Int32.ofNat_add i 1).symm
theorem own_nat_clamp {k : Nat} (h : k < 2 ^ 31) : (Int32.ofNat k).toNatClampNeg = k := by
  rw [Int32.toNatClampNeg, own_nat_toInt h]; rfl
theorem own_nat_get (v : List Int32) {k : Nat} (h : k < 2 ^ 31) : own_get v (Int32.ofNat k) = v.getD k 0 := by rw [own_get, own_nat_clamp h]
theorem own_nat_in {n k : Nat} (h : k < n) (hk : k < 2 ^ 31) : own_in n (Int32.ofNat k) := own_in_of (by rw [own_nat_toInt hk]; omega) (by rw [own_nat_toInt hk]; omega)
theorem own_nat_of {x : Int32} (h : 0 ≤ x.toInt) : ∃ k : Nat, x = Int32.ofNat k ∧ (k : Int) = x.toInt ∧ k < 2 ^ 31 := by
  have u := x.toInt_lt
  refine ⟨x.toInt.toNat, ?_, by omega, by omega⟩
  rw [own_eq, own_nat_toInt (by omega)]; omega
theorem own_nat_sub {a b : Nat} (ha : a < 2 ^ 31) (h : b ≤ a) : Int32.ofNat a - Int32.ofNat b = Int32.ofNat (a - b) := by
  have e1 := own_nat_toInt ha
  have e2 := own_nat_toInt (k := b) (by omega)
  have e3 := own_nat_toInt (k := a - b) (by omega)
  rw [own_eq, Jvm.Kit.i32_sub (by omega) (by omega)]
  omega
theorem own_i2b2 (x : Int32) : own_i2b (own_i2b x) = own_i2b x := by
  show (x.toInt8.toInt32).toInt8.toInt32 = x.toInt8.toInt32
  rw [Int8.toInt8_toInt32]
/-- a hash: 31 * h + the next, count times from place i on -/
def own_h (v : List Int32) : Int32 → Nat → Nat → Int32
  | h, _, 0 => h
  | h, i, c + 1 => own_h v (31 * h + v.getD i 0) (i + 1) c
def own_p : Nat → Int32
  | 0 => 1
  | n + 1 => 31 * own_p n
def own_sum (v : List Int32) : Nat → Nat → Int32
  | _, 0 => 0
  | i, c + 1 => v.getD i 0 * own_p c + own_sum v (i + 1) c
theorem own_h_eq (v : List Int32) : ∀ (c : Nat) (h : Int32) (i : Nat), own_h v h i c = h * own_p c + own_sum v i c := by
  intro c
  induction c with
  | zero => intro h i; simp only [own_h, own_p, own_sum, Int32.mul_one, Int32.add_zero]
  | succ c ih =>
    intro h i
    rw [own_h, ih, own_p, own_sum, Int32.add_mul, Int32.mul_comm 31 h, Int32.mul_assoc, Int32.add_assoc]
theorem own_toNat (x : Int32) : (x.toBitVec.toNat : Int) = x.toInt % 2 ^ 32 := by
  have e : x.toInt = x.toBitVec.toInt := rfl
  have h := x.toBitVec.isLt
  rw [e, BitVec.toInt_eq_toNat_cond]
  split <;> omega
theorem pd_0 : parseMethodDescriptor "([BII)I" = some ⟨[(.array .byte), .int, .int], some .int⟩ := by decide +kernel
theorem pd_1 : parseMethodDescriptor "(III)Z" = some ⟨[.int, .int, .int], some .boolean⟩ := by decide +kernel
theorem d1_0 : decode prog_144_method_5_code 0 = .ok (.aload_n 0, 1) := by decide +kernel
theorem d1_1 : decode prog_144_method_5_code 1 = .ok (.iload_n 1, 1) := by decide +kernel
theorem d1_2 : decode prog_144_method_5_code 2 = .ok (.baload, 1) := by decide +kernel
theorem d1_3 : decode prog_144_method_5_code 3 = .ok (.sipush 255, 3) := by decide +kernel
theorem d1_6 : decode prog_144_method_5_code 6 = .ok (.iand, 1) := by decide +kernel
theorem d1_7 : decode prog_144_method_5_code 7 = .ok (.istore_n 3, 1) := by decide +kernel
theorem d1_8 : decode prog_144_method_5_code 8 = .ok (.sipush 128, 3) := by decide +kernel
theorem d1_11 : decode prog_144_method_5_code 11 = .ok (.istore 5, 2) := by decide +kernel
theorem d1_13 : decode prog_144_method_5_code 13 = .ok (.sipush 191, 3) := by decide +kernel
theorem d1_16 : decode prog_144_method_5_code 16 = .ok (.istore 6, 2) := by decide +kernel
theorem d1_18 : decode prog_144_method_5_code 18 = .ok (.iload_n 3, 1) := by decide +kernel
theorem d1_19 : decode prog_144_method_5_code 19 = .ok (.sipush 128, 3) := by decide +kernel
theorem d1_22 : decode prog_144_method_5_code 22 = .ok (.if_icmp .ge 9, 3) := by decide +kernel
theorem d1_25 : decode prog_144_method_5_code 25 = .ok (.iconst 1, 1) := by decide +kernel
theorem d1_26 : decode prog_144_method_5_code 26 = .ok (.istore 4, 2) := by decide +kernel
theorem d1_28 : decode prog_144_method_5_code 28 = .ok (.goto 138, 3) := by decide +kernel
theorem d1_31 : decode prog_144_method_5_code 31 = .ok (.iload_n 3, 1) := by decide +kernel
theorem d1_32 : decode prog_144_method_5_code 32 = .ok (.sipush 194, 3) := by decide +kernel
theorem d1_35 : decode prog_144_method_5_code 35 = .ok (.if_icmp .lt 16, 3) := by decide +kernel
theorem d1_38 : decode prog_144_method_5_code 38 = .ok (.iload_n 3, 1) := by decide +kernel
theorem d1_39 : decode prog_144_method_5_code 39 = .ok (.sipush 223, 3) := by decide +kernel
theorem d1_42 : decode prog_144_method_5_code 42 = .ok (.if_icmp .gt 9, 3) := by decide +kernel
theorem d1_45 : decode prog_144_method_5_code 45 = .ok (.iconst 2, 1) := by decide +kernel
theorem d1_46 : decode prog_144_method_5_code 46 = .ok (.istore 4, 2) := by decide +kernel
theorem d1_48 : decode prog_144_method_5_code 48 = .ok (.goto 118, 3) := by decide +kernel
theorem d1_51 : decode prog_144_method_5_code 51 = .ok (.iload_n 3, 1) := by decide +kernel
theorem d1_52 : decode prog_144_method_5_code 52 = .ok (.sipush 224, 3) := by decide +kernel
theorem d1_55 : decode prog_144_method_5_code 55 = .ok (.if_icmp .lt 52, 3) := by decide +kernel
theorem d1_58 : decode prog_144_method_5_code 58 = .ok (.iload_n 3, 1) := by decide +kernel
theorem d1_59 : decode prog_144_method_5_code 59 = .ok (.sipush 239, 3) := by decide +kernel
theorem d1_62 : decode prog_144_method_5_code 62 = .ok (.if_icmp .gt 45, 3) := by decide +kernel
theorem d1_65 : decode prog_144_method_5_code 65 = .ok (.iconst 3, 1) := by decide +kernel
theorem d1_66 : decode prog_144_method_5_code 66 = .ok (.istore 4, 2) := by decide +kernel
theorem d1_68 : decode prog_144_method_5_code 68 = .ok (.iload_n 3, 1) := by decide +kernel
theorem d1_69 : decode prog_144_method_5_code 69 = .ok (.sipush 224, 3) := by decide +kernel
theorem d1_72 : decode prog_144_method_5_code 72 = .ok (.if_icmp .ne 9, 3) := by decide +kernel
theorem d1_75 : decode prog_144_method_5_code 75 = .ok (.sipush 160, 3) := by decide +kernel
theorem d1_78 : decode prog_144_method_5_code 78 = .ok (.goto 6, 3) := by decide +kernel
theorem d1_81 : decode prog_144_method_5_code 81 = .ok (.sipush 128, 3) := by decide +kernel
theorem d1_84 : decode prog_144_method_5_code 84 = .ok (.istore 5, 2) := by decide +kernel
theorem d1_86 : decode prog_144_method_5_code 86 = .ok (.iload_n 3, 1) := by decide +kernel
theorem d1_87 : decode prog_144_method_5_code 87 = .ok (.sipush 237, 3) := by decide +kernel
theorem d1_90 : decode prog_144_method_5_code 90 = .ok (.if_icmp .ne 9, 3) := by decide +kernel
theorem d1_93 : decode prog_144_method_5_code 93 = .ok (.sipush 159, 3) := by decide +kernel
theorem d1_96 : decode prog_144_method_5_code 96 = .ok (.goto 6, 3) := by decide +kernel
theorem d1_99 : decode prog_144_method_5_code 99 = .ok (.sipush 191, 3) := by decide +kernel
theorem d1_102 : decode prog_144_method_5_code 102 = .ok (.istore 6, 2) := by decide +kernel
theorem d1_104 : decode prog_144_method_5_code 104 = .ok (.goto 62, 3) := by decide +kernel
theorem d1_107 : decode prog_144_method_5_code 107 = .ok (.iload_n 3, 1) := by decide +kernel
theorem d1_108 : decode prog_144_method_5_code 108 = .ok (.sipush 240, 3) := by decide +kernel
theorem d1_111 : decode prog_144_method_5_code 111 = .ok (.if_icmp .lt 52, 3) := by decide +kernel
theorem d1_114 : decode prog_144_method_5_code 114 = .ok (.iload_n 3, 1) := by decide +kernel
theorem d1_115 : decode prog_144_method_5_code 115 = .ok (.sipush 244, 3) := by decide +kernel
theorem d1_118 : decode prog_144_method_5_code 118 = .ok (.if_icmp .gt 45, 3) := by decide +kernel
theorem d1_121 : decode prog_144_method_5_code 121 = .ok (.iconst 4, 1) := by decide +kernel
theorem d1_122 : decode prog_144_method_5_code 122 = .ok (.istore 4, 2) := by decide +kernel
theorem d1_124 : decode prog_144_method_5_code 124 = .ok (.iload_n 3, 1) := by decide +kernel
theorem d1_125 : decode prog_144_method_5_code 125 = .ok (.sipush 240, 3) := by decide +kernel
theorem d1_128 : decode prog_144_method_5_code 128 = .ok (.if_icmp .ne 9, 3) := by decide +kernel
theorem d1_131 : decode prog_144_method_5_code 131 = .ok (.sipush 144, 3) := by decide +kernel
theorem d1_134 : decode prog_144_method_5_code 134 = .ok (.goto 6, 3) := by decide +kernel
theorem d1_137 : decode prog_144_method_5_code 137 = .ok (.sipush 128, 3) := by decide +kernel
theorem d1_140 : decode prog_144_method_5_code 140 = .ok (.istore 5, 2) := by decide +kernel
theorem d1_142 : decode prog_144_method_5_code 142 = .ok (.iload_n 3, 1) := by decide +kernel
theorem d1_143 : decode prog_144_method_5_code 143 = .ok (.sipush 244, 3) := by decide +kernel
theorem d1_146 : decode prog_144_method_5_code 146 = .ok (.if_icmp .ne 9, 3) := by decide +kernel
theorem d1_149 : decode prog_144_method_5_code 149 = .ok (.sipush 143, 3) := by decide +kernel
theorem d1_152 : decode prog_144_method_5_code 152 = .ok (.goto 6, 3) := by decide +kernel
theorem d1_155 : decode prog_144_method_5_code 155 = .ok (.sipush 191, 3) := by decide +kernel
theorem d1_158 : decode prog_144_method_5_code 158 = .ok (.istore 6, 2) := by decide +kernel
theorem d1_160 : decode prog_144_method_5_code 160 = .ok (.goto 6, 3) := by decide +kernel
theorem d1_163 : decode prog_144_method_5_code 163 = .ok (.iconst 0, 1) := by decide +kernel
theorem d1_164 : decode prog_144_method_5_code 164 = .ok (.istore 4, 2) := by decide +kernel
theorem d1_166 : decode prog_144_method_5_code 166 = .ok (.iload 4, 2) := by decide +kernel
theorem d1_168 : decode prog_144_method_5_code 168 = .ok (.ifCond .le 15, 3) := by decide +kernel
theorem d1_171 : decode prog_144_method_5_code 171 = .ok (.iload_n 2, 1) := by decide +kernel
theorem d1_172 : decode prog_144_method_5_code 172 = .ok (.iload_n 1, 1) := by decide +kernel
theorem d1_173 : decode prog_144_method_5_code 173 = .ok (.isub, 1) := by decide +kernel
theorem d1_174 : decode prog_144_method_5_code 174 = .ok (.iload 4, 2) := by decide +kernel
theorem d1_176 : decode prog_144_method_5_code 176 = .ok (.if_icmp .lt 7, 3) := by decide +kernel
theorem d1_179 : decode prog_144_method_5_code 179 = .ok (.iconst 1, 1) := by decide +kernel
theorem d1_180 : decode prog_144_method_5_code 180 = .ok (.goto 4, 3) := by decide +kernel
theorem d1_183 : decode prog_144_method_5_code 183 = .ok (.iconst 0, 1) := by decide +kernel
theorem d1_184 : decode prog_144_method_5_code 184 = .ok (.istore 7, 2) := by decide +kernel
theorem d1_186 : decode prog_144_method_5_code 186 = .ok (.iconst 1, 1) := by decide +kernel
theorem d1_187 : decode prog_144_method_5_code 187 = .ok (.istore 8, 2) := by decide +kernel
theorem d1_189 : decode prog_144_method_5_code 189 = .ok (.iload 7, 2) := by decide +kernel
theorem d1_191 : decode prog_144_method_5_code 191 = .ok (.ifCond .eq 79, 3) := by decide +kernel
theorem d1_194 : decode prog_144_method_5_code 194 = .ok (.iload 8, 2) := by decide +kernel
theorem d1_196 : decode prog_144_method_5_code 196 = .ok (.iload 4, 2) := by decide +kernel
theorem d1_198 : decode prog_144_method_5_code 198 = .ok (.if_icmp .ge 72, 3) := by decide +kernel
theorem d1_201 : decode prog_144_method_5_code 201 = .ok (.aload_n 0, 1) := by decide +kernel
theorem d1_202 : decode prog_144_method_5_code 202 = .ok (.iload_n 1, 1) := by decide +kernel
theorem d1_203 : decode prog_144_method_5_code 203 = .ok (.iload 8, 2) := by decide +kernel
theorem d1_205 : decode prog_144_method_5_code 205 = .ok (.iadd, 1) := by decide +kernel
theorem d1_206 : decode prog_144_method_5_code 206 = .ok (.baload, 1) := by decide +kernel
theorem d1_207 : decode prog_144_method_5_code 207 = .ok (.sipush 255, 3) := by decide +kernel
theorem d1_210 : decode prog_144_method_5_code 210 = .ok (.iand, 1) := by decide +kernel
theorem d1_211 : decode prog_144_method_5_code 211 = .ok (.istore 9, 2) := by decide +kernel
theorem d1_213 : decode prog_144_method_5_code 213 = .ok (.iload 8, 2) := by decide +kernel
theorem d1_215 : decode prog_144_method_5_code 215 = .ok (.iconst 1, 1) := by decide +kernel
theorem d1_216 : decode prog_144_method_5_code 216 = .ok (.if_icmp .ne 25, 3) := by decide +kernel
theorem d1_219 : decode prog_144_method_5_code 219 = .ok (.iload 9, 2) := by decide +kernel
theorem d1_221 : decode prog_144_method_5_code 221 = .ok (.iload 5, 2) := by decide +kernel
theorem d1_223 : decode prog_144_method_5_code 223 = .ok (.if_icmp .lt 14, 3) := by decide +kernel
theorem d1_226 : decode prog_144_method_5_code 226 = .ok (.iload 9, 2) := by decide +kernel
theorem d1_228 : decode prog_144_method_5_code 228 = .ok (.iload 6, 2) := by decide +kernel
theorem d1_230 : decode prog_144_method_5_code 230 = .ok (.if_icmp .gt 7, 3) := by decide +kernel
theorem d1_233 : decode prog_144_method_5_code 233 = .ok (.iconst 1, 1) := by decide +kernel
theorem d1_234 : decode prog_144_method_5_code 234 = .ok (.goto 28, 3) := by decide +kernel
theorem d1_237 : decode prog_144_method_5_code 237 = .ok (.iconst 0, 1) := by decide +kernel
theorem d1_238 : decode prog_144_method_5_code 238 = .ok (.goto 24, 3) := by decide +kernel
theorem d1_241 : decode prog_144_method_5_code 241 = .ok (.iload 9, 2) := by decide +kernel
theorem d1_243 : decode prog_144_method_5_code 243 = .ok (.sipush 128, 3) := by decide +kernel
theorem d1_246 : decode prog_144_method_5_code 246 = .ok (.if_icmp .lt 15, 3) := by decide +kernel
theorem d1_249 : decode prog_144_method_5_code 249 = .ok (.iload 9, 2) := by decide +kernel
theorem d1_251 : decode prog_144_method_5_code 251 = .ok (.sipush 191, 3) := by decide +kernel
theorem d1_254 : decode prog_144_method_5_code 254 = .ok (.if_icmp .gt 7, 3) := by decide +kernel
theorem d1_257 : decode prog_144_method_5_code 257 = .ok (.iconst 1, 1) := by decide +kernel
theorem d1_258 : decode prog_144_method_5_code 258 = .ok (.goto 4, 3) := by decide +kernel
theorem d1_261 : decode prog_144_method_5_code 261 = .ok (.iconst 0, 1) := by decide +kernel
theorem d1_262 : decode prog_144_method_5_code 262 = .ok (.istore 7, 2) := by decide +kernel
theorem d1_264 : decode prog_144_method_5_code 264 = .ok (.iinc 8 1, 3) := by decide +kernel
theorem d1_267 : decode prog_144_method_5_code 267 = .ok (.goto (-78), 3) := by decide +kernel
theorem d1_270 : decode prog_144_method_5_code 270 = .ok (.iload 7, 2) := by decide +kernel
theorem d1_272 : decode prog_144_method_5_code 272 = .ok (.ifCond .eq 8, 3) := by decide +kernel
theorem d1_275 : decode prog_144_method_5_code 275 = .ok (.iload 4, 2) := by decide +kernel
theorem d1_277 : decode prog_144_method_5_code 277 = .ok (.goto 4, 3) := by decide +kernel
theorem d1_280 : decode prog_144_method_5_code 280 = .ok (.iconst 0, 1) := by decide +kernel
theorem d1_281 : decode prog_144_method_5_code 281 = .ok (.ireturn, 1) := by decide +kernel
section Body1
variable {p : Program} {l : Launch} {e : Env} {s : State} {m : MethodId} {args : Array Value} {below : List Frame} {meth : Method} {c : Code} {Z : State} {ag : Array Value} {K : Option Value → Heap → List Loc → Prop}
abbrev R1 : Room := { frames := 0, cells := 0, slots := 0, locals := 0 }
abbrev cc1 : Nat := 0
abbrev ss1 : Nat := 0
def f1_281 (t0 : Int32) : Int32 := t0
set_option maxRecDepth 65536 in
set_option maxHeartbeats 40000000 in
theorem b1_281 (C : own_Cx p s m meth c Z ag prog_144_method_5_code 10 "com/example/ledgerline/ledgerline/cli/MessageLine" (some .int) "utf8Length") {T : State} {h : Heap} {z0 : Slot} {z1 : Slot} {z2 : Slot} {z3 : Slot} {z4 : Slot} {z5 : Slot} {z6 : Slot} {z7 : Slot} {z8 : Slot} {z9 : Slot} (t0 : Int32) (X : Stand p l e R1 s m args below meth c T [] 0 0) (eT : T.heap = h) (hz0 : One z0) (hz1 : One z1) (hz2 : One z2) (hz3 : One z3) (hz4 : One z4) (hz5 : One z5) (hz6 : One z6) (hz7 : One z7) (hz8 : One z8) (hz9 : One z9) (hK : K (some (.int (f1_281 t0))) h []) : own_Go p e below (own_Q s K cc1 ss1) T (mkF m 281 #[z0, z1, z2, z3, z4, z5, z6, z7, z8, z9] [(.int t0)]) := by
  obtain ⟨hx, hZ, hw, hby, hml, hown, hret, hlk, hnm⟩ := id C
  unfold f1_281 at hK
  exact o_retI X hx hret hlk (hb hby d1_281) (by decide) (by decide) eT (hK)

def f1_270 (x4 : Int32) (x7 : Int32) : Int32 := (if x7 = (0 : Int32) then (f1_281 (0 : Int32)) else (f1_281 x4))
set_option maxRecDepth 65536 in
set_option maxHeartbeats 40000000 in
theorem b1_270 (C : own_Cx p s m meth c Z ag prog_144_method_5_code 10 "com/example/ledgerline/ledgerline/cli/MessageLine" (some .int) "utf8Length") {T : State} {h : Heap} {z0 : Slot} {z1 : Slot} {z2 : Slot} {z3 : Slot} {z5 : Slot} {z6 : Slot} {z8 : Slot} {z9 : Slot} (x4 : Int32) (x7 : Int32) (X : Stand p l e R1 s m args below meth c T [] 0 0) (eT : T.heap = h) (hz0 : One z0) (hz1 : One z1) (hz2 : One z2) (hz3 : One z3) (hz5 : One z5) (hz6 : One z6) (hz8 : One z8) (hz9 : One z9) (hK : K (some (.int (f1_270 x4 x7))) h []) : own_Go p e below (own_Q s K cc1 ss1) T (mkF m 270 #[z0, z1, z2, z3, .val (.int x4), z5, z6, .val (.int x7), z8, z9] []) := by
  obtain ⟨hx, hZ, hw, hby, hml, hown, hret, hlk, hnm⟩ := id C
  unfold f1_270 at hK
  refine o_iload (pc' := 272) X hx (hb hby d1_270) rfl rfl ?_
  refine o_ifP (P := x7 = (0 : Int32)) (pc1 := 280) (pc2 := 275) X hx XT.i0_eq_t XT.i0_eq_f (hb hby d1_272) (by decide) (by decide) rfl (fun c7 => ?_) (fun c7 => ?_)
  · rw [if_pos c7] at hK
    refine o_iconst (pc' := 281) (x := (0 : Int32)) X hx (hb hby d1_280) (by decide) rfl ?_
    exact b1_281 C (0 : Int32) X eT hz0 hz1 hz2 hz3 (One.val rfl) hz5 hz6 (One.val rfl) hz8 hz9 hK
  · rw [if_neg c7] at hK
    refine o_iload (pc' := 277) X hx (hb hby d1_275) rfl rfl ?_
    refine o_goto (pc' := 281) X hx (hb hby d1_277) (by decide) (by decide) ?_
    exact b1_281 C x4 X eT hz0 hz1 hz2 hz3 (One.val rfl) hz5 hz6 (One.val rfl) hz8 hz9 hK

def f1_189 : Nat → List Int32 → Int32 → Int32 → Int32 → Int32 → Int32 → Int32 → Int32
  | 0, _, _, _, _, _, _, _ => 0
  | n + 1, v0, x1, x4, x5, x6, x7, x8 => (if x7 = (0 : Int32) then (f1_270 x4 x7) else (if x8 < x4 then (if x8 = (1 : Int32) then (if ((own_get v0 (x1 + x8)) &&& (255 : Int32)) < x5 then (f1_189 n v0 x1 x4 x5 x6 (0 : Int32) (x8 + (1 : Int32))) else (if x6 < ((own_get v0 (x1 + x8)) &&& (255 : Int32)) then (f1_189 n v0 x1 x4 x5 x6 (0 : Int32) (x8 + (1 : Int32))) else (f1_189 n v0 x1 x4 x5 x6 (1 : Int32) (x8 + (1 : Int32))))) else (if ((own_get v0 (x1 + x8)) &&& (255 : Int32)) < (128 : Int32) then (f1_189 n v0 x1 x4 x5 x6 (0 : Int32) (x8 + (1 : Int32))) else (if (191 : Int32) < ((own_get v0 (x1 + x8)) &&& (255 : Int32)) then (f1_189 n v0 x1 x4 x5 x6 (0 : Int32) (x8 + (1 : Int32))) else (f1_189 n v0 x1 x4 x5 x6 (1 : Int32) (x8 + (1 : Int32)))))) else (f1_270 x4 x7)))
def s1_189 : Nat → List Int32 → Int32 → Int32 → Int32 → Int32 → Int32 → Int32 → Prop
  | 0, _, _, _, _, _, _, _ => False
  | n + 1, v0, x1, x4, x5, x6, x7, x8 => ((x7 = (0 : Int32) → True) ∧ (¬ (x7 = (0 : Int32)) → ((x8 < x4 → (own_in v0.length (x1 + x8) ∧ ((x8 = (1 : Int32) → ((((own_get v0 (x1 + x8)) &&& (255 : Int32)) < x5 → s1_189 n v0 x1 x4 x5 x6 (0 : Int32) (x8 + (1 : Int32))) ∧ (¬ (((own_get v0 (x1 + x8)) &&& (255 : Int32)) < x5) → ((x6 < ((own_get v0 (x1 + x8)) &&& (255 : Int32)) → s1_189 n v0 x1 x4 x5 x6 (0 : Int32) (x8 + (1 : Int32))) ∧ (¬ (x6 < ((own_get v0 (x1 + x8)) &&& (255 : Int32))) → s1_189 n v0 x1 x4 x5 x6 (1 : Int32) (x8 + (1 : Int32))))))) ∧ (¬ (x8 = (1 : Int32)) → ((((own_get v0 (x1 + x8)) &&& (255 : Int32)) < (128 : Int32) → s1_189 n v0 x1 x4 x5 x6 (0 : Int32) (x8 + (1 : Int32))) ∧ (¬ (((own_get v0 (x1 + x8)) &&& (255 : Int32)) < (128 : Int32)) → (((191 : Int32) < ((own_get v0 (x1 + x8)) &&& (255 : Int32)) → s1_189 n v0 x1 x4 x5 x6 (0 : Int32) (x8 + (1 : Int32))) ∧ (¬ ((191 : Int32) < ((own_get v0 (x1 + x8)) &&& (255 : Int32))) → s1_189 n v0 x1 x4 x5 x6 (1 : Int32) (x8 + (1 : Int32)))))))))) ∧ (¬ (x8 < x4) → True))))
set_option maxRecDepth 65536 in
set_option maxHeartbeats 40000000 in
theorem b1_189 (C : own_Cx p s m meth c Z ag prog_144_method_5_code 10 "com/example/ledgerline/ledgerline/cli/MessageLine" (some .int) "utf8Length") :
    ∀ (n : Nat) {T : State} {h : Heap} {z2 : Slot} {z3 : Slot} {z9 : Slot} (a0 : Addr) (v0 : List Int32) (x1 : Int32) (x4 : Int32) (x5 : Int32) (x6 : Int32) (x7 : Int32) (x8 : Int32) (X : Stand p l e R1 s m args below meth c T [] 0 0) (eT : T.heap = h) (Aa0 : own_AI Z h a0 .byte v0) (hz2 : One z2) (hz3 : One z3) (hz9 : One z9) (hs : s1_189 n v0 x1 x4 x5 x6 x7 x8) (hK : K (some (.int (f1_189 n v0 x1 x4 x5 x6 x7 x8))) h []), own_Go p e below (own_Q s K cc1 ss1) T (mkF m 189 #[.val (.ref a0), .val (.int x1), z2, z3, .val (.int x4), .val (.int x5), .val (.int x6), .val (.int x7), .val (.int x8), z9] []) := by
  intro n
  induction n with
  | zero => intros; rename_i hs _; exact hs.elim
  | succ n ih =>
    intro T h z2 z3 z9 a0 v0 x1 x4 x5 x6 x7 x8 X eT Aa0 hz2 hz3 hz9 hs hK
    obtain ⟨hx, hZ, hw, hby, hml, hown, hret, hlk, hnm⟩ := id C
    unfold f1_189 at hK
    unfold s1_189 at hs
    refine o_iload (pc' := 191) X hx (hb hby d1_189) rfl rfl ?_
    refine o_ifP (P := x7 = (0 : Int32)) (pc1 := 270) (pc2 := 194) X hx XT.i0_eq_t XT.i0_eq_f (hb hby d1_191) (by decide) (by decide) rfl (fun c6 => ?_) (fun c6 => ?_)
    · rw [if_pos c6] at hK
      exact b1_270 C x4 x7 X eT (One.val rfl) (One.val rfl) hz2 hz3 (One.val rfl) (One.val rfl) (One.val rfl) hz9 hK
    · rw [if_neg c6] at hK
      refine o_iload (pc' := 196) X hx (hb hby d1_194) rfl rfl ?_
      refine o_iload (pc' := 198) X hx (hb hby d1_196) rfl rfl ?_
      refine o_icN (P := x8 < x4) (pc1 := 270) (pc2 := 201) X hx XT.ii_ge_f XT.ii_ge_t (hb hby d1_198) (by decide) (by decide) rfl (fun c8 => ?_) (fun c8 => ?_)
      · rw [if_neg c8] at hK
        exact b1_270 C x4 x7 X eT (One.val rfl) (One.val rfl) hz2 hz3 (One.val rfl) (One.val rfl) (One.val rfl) hz9 hK
      · rw [if_pos c8] at hK
        refine o_aloadN (pc' := 202) X hx (hb hby d1_201) rfl rfl rfl ?_
        refine o_iloadN (pc' := 203) X hx (hb hby d1_202) rfl rfl ?_
        refine o_iload (pc' := 205) X hx (hb hby d1_203) rfl rfl ?_
        refine o_iadd (pc' := 206)  X hx (hb hby d1_205) rfl rfl ?_
        refine o_baload (pc' := 207)  X hx hZ eT Aa0 ((hs.2 c6).1 c8).1 (hb hby d1_206) rfl rfl ?_
        refine o_sipush (pc' := 210) (x := (255 : Int32)) X hx (hb hby d1_207) (by decide) rfl ?_
        refine o_iand (pc' := 211)  X hx (hb hby d1_210) rfl rfl ?_
        refine o_istoreS (pc' := 213) (l' := #[.val (.ref a0), .val (.int x1), z2, z3, .val (.int x4), .val (.int x5), .val (.int x6), .val (.int x7), .val (.int x8), .val (.int ((own_get v0 (x1 + x8)) &&& (255 : Int32)))]) X hx (hb hby d1_211) rfl hz9 rfl rfl ?_
        refine o_iload (pc' := 215) X hx (hb hby d1_213) rfl rfl ?_
        refine o_iconst (pc' := 216) (x := (1 : Int32)) X hx (hb hby d1_215) (by decide) rfl ?_
        refine o_icN (P := x8 = (1 : Int32)) (pc1 := 241) (pc2 := 219) X hx XT.ii_ne_f XT.ii_ne_t (hb hby d1_216) (by decide) (by decide) rfl (fun c9 => ?_) (fun c9 => ?_)
        · rw [if_neg c9] at hK
          refine o_iload (pc' := 243) X hx (hb hby d1_241) rfl rfl ?_
          refine o_sipush (pc' := 246) (x := (128 : Int32)) X hx (hb hby d1_243) (by decide) rfl ?_
          refine o_icP (P := ((own_get v0 (x1 + x8)) &&& (255 : Int32)) < (128 : Int32)) (pc1 := 261) (pc2 := 249) X hx XT.ii_lt_t XT.ii_lt_f (hb hby d1_246) (by decide) (by decide) rfl (fun c10 => ?_) (fun c10 => ?_)
          · rw [if_pos c10] at hK
            refine o_iconst (pc' := 262) (x := (0 : Int32)) X hx (hb hby d1_261) (by decide) rfl ?_
            refine o_istore (pc' := 264) (l' := #[.val (.ref a0), .val (.int x1), z2, z3, .val (.int x4), .val (.int x5), .val (.int x6), .val (.int (0 : Int32)), .val (.int x8), .val (.int ((own_get v0 (x1 + x8)) &&& (255 : Int32)))]) X hx (hb hby d1_262) rfl rfl ?_
            refine o_iinc (pc' := 267) (y := (x8 + (1 : Int32))) (l' := #[.val (.ref a0), .val (.int x1), z2, z3, .val (.int x4), .val (.int x5), .val (.int x6), .val (.int (0 : Int32)), .val (.int (x8 + (1 : Int32))), .val (.int ((own_get v0 (x1 + x8)) &&& (255 : Int32)))]) X hx (hb hby d1_264) rfl rfl rfl rfl ?_
            refine o_goto (pc' := 189) X hx (hb hby d1_267) (by decide) (by decide) ?_
            exact ih a0 v0 x1 x4 x5 x6 (0 : Int32) (x8 + (1 : Int32)) X eT Aa0 hz2 hz3 (One.val rfl) ((((hs.2 c6).1 c8).2.2 c9).1 c10) hK
          · rw [if_neg c10] at hK
            refine o_iload (pc' := 251) X hx (hb hby d1_249) rfl rfl ?_
            refine o_sipush (pc' := 254) (x := (191 : Int32)) X hx (hb hby d1_251) (by decide) rfl ?_
            refine o_icP (P := (191 : Int32) < ((own_get v0 (x1 + x8)) &&& (255 : Int32))) (pc1 := 261) (pc2 := 257) X hx XT.ii_gt_t XT.ii_gt_f (hb hby d1_254) (by decide) (by decide) rfl (fun c11 => ?_) (fun c11 => ?_)
            · rw [if_pos c11] at hK
              refine o_iconst (pc' := 262) (x := (0 : Int32)) X hx (hb hby d1_261) (by decide) rfl ?_
              refine o_istore (pc' := 264) (l' := #[.val (.ref a0), .val (.int x1), z2, z3, .val (.int x4), .val (.int x5), .val (.int x6), .val (.int (0 : Int32)), .val (.int x8), .val (.int ((own_get v0 (x1 + x8)) &&& (255 : Int32)))]) X hx (hb hby d1_262) rfl rfl ?_
              refine o_iinc (pc' := 267) (y := (x8 + (1 : Int32))) (l' := #[.val (.ref a0), .val (.int x1), z2, z3, .val (.int x4), .val (.int x5), .val (.int x6), .val (.int (0 : Int32)), .val (.int (x8 + (1 : Int32))), .val (.int ((own_get v0 (x1 + x8)) &&& (255 : Int32)))]) X hx (hb hby d1_264) rfl rfl rfl rfl ?_
              refine o_goto (pc' := 189) X hx (hb hby d1_267) (by decide) (by decide) ?_
              exact ih a0 v0 x1 x4 x5 x6 (0 : Int32) (x8 + (1 : Int32)) X eT Aa0 hz2 hz3 (One.val rfl) (((((hs.2 c6).1 c8).2.2 c9).2 c10).1 c11) hK
            · rw [if_neg c11] at hK
              refine o_iconst (pc' := 258) (x := (1 : Int32)) X hx (hb hby d1_257) (by decide) rfl ?_
              refine o_goto (pc' := 262) X hx (hb hby d1_258) (by decide) (by decide) ?_
              refine o_istore (pc' := 264) (l' := #[.val (.ref a0), .val (.int x1), z2, z3, .val (.int x4), .val (.int x5), .val (.int x6), .val (.int (1 : Int32)), .val (.int x8), .val (.int ((own_get v0 (x1 + x8)) &&& (255 : Int32)))]) X hx (hb hby d1_262) rfl rfl ?_
              refine o_iinc (pc' := 267) (y := (x8 + (1 : Int32))) (l' := #[.val (.ref a0), .val (.int x1), z2, z3, .val (.int x4), .val (.int x5), .val (.int x6), .val (.int (1 : Int32)), .val (.int (x8 + (1 : Int32))), .val (.int ((own_get v0 (x1 + x8)) &&& (255 : Int32)))]) X hx (hb hby d1_264) rfl rfl rfl rfl ?_
              refine o_goto (pc' := 189) X hx (hb hby d1_267) (by decide) (by decide) ?_
              exact ih a0 v0 x1 x4 x5 x6 (1 : Int32) (x8 + (1 : Int32)) X eT Aa0 hz2 hz3 (One.val rfl) (((((hs.2 c6).1 c8).2.2 c9).2 c10).2 c11) hK
        · rw [if_pos c9] at hK
          refine o_iload (pc' := 221) X hx (hb hby d1_219) rfl rfl ?_
          refine o_iload (pc' := 223) X hx (hb hby d1_221) rfl rfl ?_
          refine o_icP (P := ((own_get v0 (x1 + x8)) &&& (255 : Int32)) < x5) (pc1 := 237) (pc2 := 226) X hx XT.ii_lt_t XT.ii_lt_f (hb hby d1_223) (by decide) (by decide) rfl (fun c12 => ?_) (fun c12 => ?_)
          · rw [if_pos c12] at hK
            refine o_iconst (pc' := 238) (x := (0 : Int32)) X hx (hb hby d1_237) (by decide) rfl ?_
            refine o_goto (pc' := 262) X hx (hb hby d1_238) (by decide) (by decide) ?_
            refine o_istore (pc' := 264) (l' := #[.val (.ref a0), .val (.int x1), z2, z3, .val (.int x4), .val (.int x5), .val (.int x6), .val (.int (0 : Int32)), .val (.int x8), .val (.int ((own_get v0 (x1 + x8)) &&& (255 : Int32)))]) X hx (hb hby d1_262) rfl rfl ?_
            refine o_iinc (pc' := 267) (y := (x8 + (1 : Int32))) (l' := #[.val (.ref a0), .val (.int x1), z2, z3, .val (.int x4), .val (.int x5), .val (.int x6), .val (.int (0 : Int32)), .val (.int (x8 + (1 : Int32))), .val (.int ((own_get v0 (x1 + x8)) &&& (255 : Int32)))]) X hx (hb hby d1_264) rfl rfl rfl rfl ?_
            refine o_goto (pc' := 189) X hx (hb hby d1_267) (by decide) (by decide) ?_
            exact ih a0 v0 x1 x4 x5 x6 (0 : Int32) (x8 + (1 : Int32)) X eT Aa0 hz2 hz3 (One.val rfl) ((((hs.2 c6).1 c8).2.1 c9).1 c12) hK
          · rw [if_neg c12] at hK
            refine o_iload (pc' := 228) X hx (hb hby d1_226) rfl rfl ?_
            refine o_iload (pc' := 230) X hx (hb hby d1_228) rfl rfl ?_
            refine o_icP (P := x6 < ((own_get v0 (x1 + x8)) &&& (255 : Int32))) (pc1 := 237) (pc2 := 233) X hx XT.ii_gt_t XT.ii_gt_f (hb hby d1_230) (by decide) (by decide) rfl (fun c13 => ?_) (fun c13 => ?_)
            · rw [if_pos c13] at hK
              refine o_iconst (pc' := 238) (x := (0 : Int32)) X hx (hb hby d1_237) (by decide) rfl ?_
              refine o_goto (pc' := 262) X hx (hb hby d1_238) (by decide) (by decide) ?_
              refine o_istore (pc' := 264) (l' := #[.val (.ref a0), .val (.int x1), z2, z3, .val (.int x4), .val (.int x5), .val (.int x6), .val (.int (0 : Int32)), .val (.int x8), .val (.int ((own_get v0 (x1 + x8)) &&& (255 : Int32)))]) X hx (hb hby d1_262) rfl rfl ?_
              refine o_iinc (pc' := 267) (y := (x8 + (1 : Int32))) (l' := #[.val (.ref a0), .val (.int x1), z2, z3, .val (.int x4), .val (.int x5), .val (.int x6), .val (.int (0 : Int32)), .val (.int (x8 + (1 : Int32))), .val (.int ((own_get v0 (x1 + x8)) &&& (255 : Int32)))]) X hx (hb hby d1_264) rfl rfl rfl rfl ?_
              refine o_goto (pc' := 189) X hx (hb hby d1_267) (by decide) (by decide) ?_
              exact ih a0 v0 x1 x4 x5 x6 (0 : Int32) (x8 + (1 : Int32)) X eT Aa0 hz2 hz3 (One.val rfl) (((((hs.2 c6).1 c8).2.1 c9).2 c12).1 c13) hK
            · rw [if_neg c13] at hK
              refine o_iconst (pc' := 234) (x := (1 : Int32)) X hx (hb hby d1_233) (by decide) rfl ?_
              refine o_goto (pc' := 262) X hx (hb hby d1_234) (by decide) (by decide) ?_
              refine o_istore (pc' := 264) (l' := #[.val (.ref a0), .val (.int x1), z2, z3, .val (.int x4), .val (.int x5), .val (.int x6), .val (.int (1 : Int32)), .val (.int x8), .val (.int ((own_get v0 (x1 + x8)) &&& (255 : Int32)))]) X hx (hb hby d1_262) rfl rfl ?_
              refine o_iinc (pc' := 267) (y := (x8 + (1 : Int32))) (l' := #[.val (.ref a0), .val (.int x1), z2, z3, .val (.int x4), .val (.int x5), .val (.int x6), .val (.int (1 : Int32)), .val (.int (x8 + (1 : Int32))), .val (.int ((own_get v0 (x1 + x8)) &&& (255 : Int32)))]) X hx (hb hby d1_264) rfl rfl rfl rfl ?_
              refine o_goto (pc' := 189) X hx (hb hby d1_267) (by decide) (by decide) ?_
              exact ih a0 v0 x1 x4 x5 x6 (1 : Int32) (x8 + (1 : Int32)) X eT Aa0 hz2 hz3 (One.val rfl) (((((hs.2 c6).1 c8).2.1 c9).2 c12).2 c13) hK

def f1_184 (v0 : List Int32) (x1 : Int32) (x4 : Int32) (x5 : Int32) (x6 : Int32) (t0 : Int32) : Int32 := (f1_189 8 v0 x1 x4 x5 x6 t0 (1 : Int32))
def s1_184 (v0 : List Int32) (x1 : Int32) (x4 : Int32) (x5 : Int32) (x6 : Int32) (t0 : Int32) : Prop := s1_189 8 v0 x1 x4 x5 x6 t0 (1 : Int32)
set_option maxRecDepth 65536 in
set_option maxHeartbeats 40000000 in
theorem b1_184 (C : own_Cx p s m meth c Z ag prog_144_method_5_code 10 "com/example/ledgerline/ledgerline/cli/MessageLine" (some .int) "utf8Length") {T : State} {h : Heap} {z2 : Slot} {z3 : Slot} {z7 : Slot} {z8 : Slot} {z9 : Slot} (a0 : Addr) (v0 : List Int32) (x1 : Int32) (x4 : Int32) (x5 : Int32) (x6 : Int32) (t0 : Int32) (X : Stand p l e R1 s m args below meth c T [] 0 0) (eT : T.heap = h) (Aa0 : own_AI Z h a0 .byte v0) (hz2 : One z2) (hz3 : One z3) (hz7 : One z7) (hz8 : One z8) (hz9 : One z9) (hs : s1_184 v0 x1 x4 x5 x6 t0) (hK : K (some (.int (f1_184 v0 x1 x4 x5 x6 t0))) h []) : own_Go p e below (own_Q s K cc1 ss1) T (mkF m 184 #[.val (.ref a0), .val (.int x1), z2, z3, .val (.int x4), .val (.int x5), .val (.int x6), z7, z8, z9] [(.int t0)]) := by
  obtain ⟨hx, hZ, hw, hby, hml, hown, hret, hlk, hnm⟩ := id C
  unfold f1_184 at hK
  unfold s1_184 at hs
  refine o_istoreS (pc' := 186) (l' := #[.val (.ref a0), .val (.int x1), z2, z3, .val (.int x4), .val (.int x5), .val (.int x6), .val (.int t0), z8, z9]) X hx (hb hby d1_184) rfl hz7 rfl rfl ?_
  refine o_iconst (pc' := 187) (x := (1 : Int32)) X hx (hb hby d1_186) (by decide) rfl ?_
  refine o_istoreS (pc' := 189) (l' := #[.val (.ref a0), .val (.int x1), z2, z3, .val (.int x4), .val (.int x5), .val (.int x6), .val (.int t0), .val (.int (1 : Int32)), z9]) X hx (hb hby d1_187) rfl hz8 rfl rfl ?_
  exact b1_189 C 8 a0 v0 x1 x4 x5 x6 t0 (1 : Int32) X eT Aa0 hz2 hz3 hz9 hs hK

def f1_183 (v0 : List Int32) (x1 : Int32) (x4 : Int32) (x5 : Int32) (x6 : Int32) : Int32 := (f1_184 v0 x1 x4 x5 x6 (0 : Int32))
def s1_183 (v0 : List Int32) (x1 : Int32) (x4 : Int32) (x5 : Int32) (x6 : Int32) : Prop := s1_184 v0 x1 x4 x5 x6 (0 : Int32)
set_option maxRecDepth 65536 in
set_option maxHeartbeats 40000000 in
theorem b1_183 (C : own_Cx p s m meth c Z ag prog_144_method_5_code 10 "com/example/ledgerline/ledgerline/cli/MessageLine" (some .int) "utf8Length") {T : State} {h : Heap} {z2 : Slot} {z3 : Slot} {z7 : Slot} {z8 : Slot} {z9 : Slot} (a0 : Addr) (v0 : List Int32) (x1 : Int32) (x4 : Int32) (x5 : Int32) (x6 : Int32) (X : Stand p l e R1 s m args below meth c T [] 0 0) (eT : T.heap = h) (Aa0 : own_AI Z h a0 .byte v0) (hz2 : One z2) (hz3 : One z3) (hz7 : One z7) (hz8 : One z8) (hz9 : One z9) (hs : s1_183 v0 x1 x4 x5 x6) (hK : K (some (.int (f1_183 v0 x1 x4 x5 x6))) h []) : own_Go p e below (own_Q s K cc1 ss1) T (mkF m 183 #[.val (.ref a0), .val (.int x1), z2, z3, .val (.int x4), .val (.int x5), .val (.int x6), z7, z8, z9] []) := by
  obtain ⟨hx, hZ, hw, hby, hml, hown, hret, hlk, hnm⟩ := id C
  unfold f1_183 at hK
  unfold s1_183 at hs
  refine o_iconst (pc' := 184) (x := (0 : Int32)) X hx (hb hby d1_183) (by decide) rfl ?_
  exact b1_184 C a0 v0 x1 x4 x5 x6 (0 : Int32) X eT Aa0 hz2 hz3 hz7 hz8 hz9 hs hK

def f1_166 (v0 : List Int32) (x1 : Int32) (x2 : Int32) (x4 : Int32) (x5 : Int32) (x6 : Int32) : Int32 := (if (0 : Int32) < x4 then (if (x2 - x1) < x4 then (f1_183 v0 x1 x4 x5 x6) else (f1_184 v0 x1 x4 x5 x6 (1 : Int32))) else (f1_183 v0 x1 x4 x5 x6))
def s1_166 (v0 : List Int32) (x1 : Int32) (x2 : Int32) (x4 : Int32) (x5 : Int32) (x6 : Int32) : Prop := (((0 : Int32) < x4 → (((x2 - x1) < x4 → s1_183 v0 x1 x4 x5 x6) ∧ (¬ ((x2 - x1) < x4) → s1_184 v0 x1 x4 x5 x6 (1 : Int32)))) ∧ (¬ ((0 : Int32) < x4) → s1_183 v0 x1 x4 x5 x6))
set_option maxRecDepth 65536 in
set_option maxHeartbeats 40000000 in
theorem b1_166 (C : own_Cx p s m meth c Z ag prog_144_method_5_code 10 "com/example/ledgerline/ledgerline/cli/MessageLine" (some .int) "utf8Length") {T : State} {h : Heap} {z3 : Slot} {z7 : Slot} {z8 : Slot} {z9 : Slot} (a0 : Addr) (v0 : List Int32) (x1 : Int32) (x2 : Int32) (x4 : Int32) (x5 : Int32) (x6 : Int32) (X : Stand p l e R1 s m args below meth c T [] 0 0) (eT : T.heap = h) (Aa0 : own_AI Z h a0 .byte v0) (hz3 : One z3) (hz7 : One z7) (hz8 : One z8) (hz9 : One z9) (hs : s1_166 v0 x1 x2 x4 x5 x6) (hK : K (some (.int (f1_166 v0 x1 x2 x4 x5 x6))) h []) : own_Go p e below (own_Q s K cc1 ss1) T (mkF m 166 #[.val (.ref a0), .val (.int x1), .val (.int x2), z3, .val (.int x4), .val (.int x5), .val (.int x6), z7, z8, z9] []) := by
  obtain ⟨hx, hZ, hw, hby, hml, hown, hret, hlk, hnm⟩ := id C
  unfold f1_166 at hK
  unfold s1_166 at hs
  refine o_iload (pc' := 168) X hx (hb hby d1_166) rfl rfl ?_
  refine o_ifN (P := (0 : Int32) < x4) (pc1 := 183) (pc2 := 171) X hx XT.i0_le_f XT.i0_le_t (hb hby d1_168) (by decide) (by decide) rfl (fun c5 => ?_) (fun c5 => ?_)
  · rw [if_neg c5] at hK
    exact b1_183 C a0 v0 x1 x4 x5 x6 X eT Aa0 (One.val rfl) hz3 hz7 hz8 hz9 (hs.2 c5) hK
  · rw [if_pos c5] at hK
    refine o_iloadN (pc' := 172) X hx (hb hby d1_171) rfl rfl ?_
    refine o_iloadN (pc' := 173) X hx (hb hby d1_172) rfl rfl ?_
    refine o_isub (pc' := 174)  X hx (hb hby d1_173) rfl rfl ?_
    refine o_iload (pc' := 176) X hx (hb hby d1_174) rfl rfl ?_
    refine o_icP (P := (x2 - x1) < x4) (pc1 := 183) (pc2 := 179) X hx XT.ii_lt_t XT.ii_lt_f (hb hby d1_176) (by decide) (by decide) rfl (fun c14 => ?_) (fun c14 => ?_)
    · rw [if_pos c14] at hK
      exact b1_183 C a0 v0 x1 x4 x5 x6 X eT Aa0 (One.val rfl) hz3 hz7 hz8 hz9 ((hs.1 c5).1 c14) hK
    · rw [if_neg c14] at hK
      refine o_iconst (pc' := 180) (x := (1 : Int32)) X hx (hb hby d1_179) (by decide) rfl ?_
      refine o_goto (pc' := 184) X hx (hb hby d1_180) (by decide) (by decide) ?_
      exact b1_184 C a0 v0 x1 x4 x5 x6 (1 : Int32) X eT Aa0 (One.val rfl) hz3 hz7 hz8 hz9 ((hs.1 c5).2 c14) hK

def f1_163 (v0 : List Int32) (x1 : Int32) (x2 : Int32) (x5 : Int32) (x6 : Int32) : Int32 := (f1_166 v0 x1 x2 (0 : Int32) x5 x6)
def s1_163 (v0 : List Int32) (x1 : Int32) (x2 : Int32) (x5 : Int32) (x6 : Int32) : Prop := s1_166 v0 x1 x2 (0 : Int32) x5 x6
set_option maxRecDepth 65536 in
set_option maxHeartbeats 40000000 in
theorem b1_163 (C : own_Cx p s m meth c Z ag prog_144_method_5_code 10 "com/example/ledgerline/ledgerline/cli/MessageLine" (some .int) "utf8Length") {T : State} {h : Heap} {z3 : Slot} {z4 : Slot} {z7 : Slot} {z8 : Slot} {z9 : Slot} (a0 : Addr) (v0 : List Int32) (x1 : Int32) (x2 : Int32) (x5 : Int32) (x6 : Int32) (X : Stand p l e R1 s m args below meth c T [] 0 0) (eT : T.heap = h) (Aa0 : own_AI Z h a0 .byte v0) (hz3 : One z3) (hz4 : One z4) (hz7 : One z7) (hz8 : One z8) (hz9 : One z9) (hs : s1_163 v0 x1 x2 x5 x6) (hK : K (some (.int (f1_163 v0 x1 x2 x5 x6))) h []) : own_Go p e below (own_Q s K cc1 ss1) T (mkF m 163 #[.val (.ref a0), .val (.int x1), .val (.int x2), z3, z4, .val (.int x5), .val (.int x6), z7, z8, z9] []) := by
  obtain ⟨hx, hZ, hw, hby, hml, hown, hret, hlk, hnm⟩ := id C
  unfold f1_163 at hK
  unfold s1_163 at hs
  refine o_iconst (pc' := 164) (x := (0 : Int32)) X hx (hb hby d1_163) (by decide) rfl ?_
  refine o_istoreS (pc' := 166) (l' := #[.val (.ref a0), .val (.int x1), .val (.int x2), z3, .val (.int (0 : Int32)), .val (.int x5), .val (.int x6), z7, z8, z9]) X hx (hb hby d1_164) rfl hz4 rfl rfl ?_
  exact b1_166 C a0 v0 x1 x2 (0 : Int32) x5 x6 X eT Aa0 hz3 hz7 hz8 hz9 hs hK

def f1_158 (v0 : List Int32) (x1 : Int32) (x2 : Int32) (x4 : Int32) (x5 : Int32) (t0 : Int32) : Int32 := (f1_166 v0 x1 x2 x4 x5 t0)
def s1_158 (v0 : List Int32) (x1 : Int32) (x2 : Int32) (x4 : Int32) (x5 : Int32) (t0 : Int32) : Prop := s1_166 v0 x1 x2 x4 x5 t0
set_option maxRecDepth 65536 in
set_option maxHeartbeats 40000000 in
theorem b1_158 (C : own_Cx p s m meth c Z ag prog_144_method_5_code 10 "com/example/ledgerline/ledgerline/cli/MessageLine" (some .int) "utf8Length") {T : State} {h : Heap} {z3 : Slot} {z6 : Slot} {z7 : Slot} {z8 : Slot} {z9 : Slot} (a0 : Addr) (v0 : List Int32) (x1 : Int32) (x2 : Int32) (x4 : Int32) (x5 : Int32) (t0 : Int32) (X : Stand p l e R1 s m args below meth c T [] 0 0) (eT : T.heap = h) (Aa0 : own_AI Z h a0 .byte v0) (hz3 : One z3) (hz6 : One z6) (hz7 : One z7) (hz8 : One z8) (hz9 : One z9) (hs : s1_158 v0 x1 x2 x4 x5 t0) (hK : K (some (.int (f1_158 v0 x1 x2 x4 x5 t0))) h []) : own_Go p e below (own_Q s K cc1 ss1) T (mkF m 158 #[.val (.ref a0), .val (.int x1), .val (.int x2), z3, .val (.int x4), .val (.int x5), z6, z7, z8, z9] [(.int t0)]) := by
  obtain ⟨hx, hZ, hw, hby, hml, hown, hret, hlk, hnm⟩ := id C
  unfold f1_158 at hK
  unfold s1_158 at hs
  refine o_istoreS (pc' := 160) (l' := #[.val (.ref a0), .val (.int x1), .val (.int x2), z3, .val (.int x4), .val (.int x5), .val (.int t0), z7, z8, z9]) X hx (hb hby d1_158) rfl hz6 rfl rfl ?_
  refine o_goto (pc' := 166) X hx (hb hby d1_160) (by decide) (by decide) ?_
  exact b1_166 C a0 v0 x1 x2 x4 x5 t0 X eT Aa0 hz3 hz7 hz8 hz9 hs hK

def f1_140 (v0 : List Int32) (x1 : Int32) (x2 : Int32) (x3 : Int32) (x4 : Int32) (t0 : Int32) : Int32 := (if x3 = (244 : Int32) then (f1_158 v0 x1 x2 x4 t0 (143 : Int32)) else (f1_158 v0 x1 x2 x4 t0 (191 : Int32)))
def s1_140 (v0 : List Int32) (x1 : Int32) (x2 : Int32) (x3 : Int32) (x4 : Int32) (t0 : Int32) : Prop := ((x3 = (244 : Int32) → s1_158 v0 x1 x2 x4 t0 (143 : Int32)) ∧ (¬ (x3 = (244 : Int32)) → s1_158 v0 x1 x2 x4 t0 (191 : Int32)))
set_option maxRecDepth 65536 in
set_option maxHeartbeats 40000000 in
theorem b1_140 (C : own_Cx p s m meth c Z ag prog_144_method_5_code 10 "com/example/ledgerline/ledgerline/cli/MessageLine" (some .int) "utf8Length") {T : State} {h : Heap} {z5 : Slot} {z6 : Slot} {z7 : Slot} {z8 : Slot} {z9 : Slot} (a0 : Addr) (v0 : List Int32) (x1 : Int32) (x2 : Int32) (x3 : Int32) (x4 : Int32) (t0 : Int32) (X : Stand p l e R1 s m args below meth c T [] 0 0) (eT : T.heap = h) (Aa0 : own_AI Z h a0 .byte v0) (hz5 : One z5) (hz6 : One z6) (hz7 : One z7) (hz8 : One z8) (hz9 : One z9) (hs : s1_140 v0 x1 x2 x3 x4 t0) (hK : K (some (.int (f1_140 v0 x1 x2 x3 x4 t0))) h []) : own_Go p e below (own_Q s K cc1 ss1) T (mkF m 140 #[.val (.ref a0), .val (.int x1), .val (.int x2), .val (.int x3), .val (.int x4), z5, z6, z7, z8, z9] [(.int t0)]) := by
  obtain ⟨hx, hZ, hw, hby, hml, hown, hret, hlk, hnm⟩ := id C
  unfold f1_140 at hK
  unfold s1_140 at hs
  refine o_istoreS (pc' := 142) (l' := #[.val (.ref a0), .val (.int x1), .val (.int x2), .val (.int x3), .val (.int x4), .val (.int t0), z6, z7, z8, z9]) X hx (hb hby d1_140) rfl hz5 rfl rfl ?_
  refine o_iloadN (pc' := 143) X hx (hb hby d1_142) rfl rfl ?_
  refine o_sipush (pc' := 146) (x := (244 : Int32)) X hx (hb hby d1_143) (by decide) rfl ?_
  refine o_icN (P := x3 = (244 : Int32)) (pc1 := 155) (pc2 := 149) X hx XT.ii_ne_f XT.ii_ne_t (hb hby d1_146) (by decide) (by decide) rfl (fun c17 => ?_) (fun c17 => ?_)
  · rw [if_neg c17] at hK
    refine o_sipush (pc' := 158) (x := (191 : Int32)) X hx (hb hby d1_155) (by decide) rfl ?_
    exact b1_158 C a0 v0 x1 x2 x4 t0 (191 : Int32) X eT Aa0 (One.val rfl) hz6 hz7 hz8 hz9 (hs.2 c17) hK
  · rw [if_pos c17] at hK
    refine o_sipush (pc' := 152) (x := (143 : Int32)) X hx (hb hby d1_149) (by decide) rfl ?_
    refine o_goto (pc' := 158) X hx (hb hby d1_152) (by decide) (by decide) ?_
    exact b1_158 C a0 v0 x1 x2 x4 t0 (143 : Int32) X eT Aa0 (One.val rfl) hz6 hz7 hz8 hz9 (hs.1 c17) hK

def f1_107 (v0 : List Int32) (x1 : Int32) (x2 : Int32) (x3 : Int32) (x5 : Int32) (x6 : Int32) : Int32 := (if x3 < (240 : Int32) then (f1_163 v0 x1 x2 x5 x6) else (if (244 : Int32) < x3 then (f1_163 v0 x1 x2 x5 x6) else (if x3 = (240 : Int32) then (f1_140 v0 x1 x2 x3 (4 : Int32) (144 : Int32)) else (f1_140 v0 x1 x2 x3 (4 : Int32) (128 : Int32)))))
def s1_107 (v0 : List Int32) (x1 : Int32) (x2 : Int32) (x3 : Int32) (x5 : Int32) (x6 : Int32) : Prop := ((x3 < (240 : Int32) → s1_163 v0 x1 x2 x5 x6) ∧ (¬ (x3 < (240 : Int32)) → (((244 : Int32) < x3 → s1_163 v0 x1 x2 x5 x6) ∧ (¬ ((244 : Int32) < x3) → ((x3 = (240 : Int32) → s1_140 v0 x1 x2 x3 (4 : Int32) (144 : Int32)) ∧ (¬ (x3 = (240 : Int32)) → s1_140 v0 x1 x2 x3 (4 : Int32) (128 : Int32)))))))
set_option maxRecDepth 65536 in
set_option maxHeartbeats 40000000 in
theorem b1_107 (C : own_Cx p s m meth c Z ag prog_144_method_5_code 10 "com/example/ledgerline/ledgerline/cli/MessageLine" (some .int) "utf8Length") {T : State} {h : Heap} {z4 : Slot} {z7 : Slot} {z8 : Slot} {z9 : Slot} (a0 : Addr) (v0 : List Int32) (x1 : Int32) (x2 : Int32) (x3 : Int32) (x5 : Int32) (x6 : Int32) (X : Stand p l e R1 s m args below meth c T [] 0 0) (eT : T.heap = h) (Aa0 : own_AI Z h a0 .byte v0) (hz4 : One z4) (hz7 : One z7) (hz8 : One z8) (hz9 : One z9) (hs : s1_107 v0 x1 x2 x3 x5 x6) (hK : K (some (.int (f1_107 v0 x1 x2 x3 x5 x6))) h []) : own_Go p e below (own_Q s K cc1 ss1) T (mkF m 107 #[.val (.ref a0), .val (.int x1), .val (.int x2), .val (.int x3), z4, .val (.int x5), .val (.int x6), z7, z8, z9] []) := by
  obtain ⟨hx, hZ, hw, hby, hml, hown, hret, hlk, hnm⟩ := id C
  unfold f1_107 at hK
  unfold s1_107 at hs
  refine o_iloadN (pc' := 108) X hx (hb hby d1_107) rfl rfl ?_
  refine o_sipush (pc' := 111) (x := (240 : Int32)) X hx (hb hby d1_108) (by decide) rfl ?_
  refine o_icP (P := x3 < (240 : Int32)) (pc1 := 163) (pc2 := 114) X hx XT.ii_lt_t XT.ii_lt_f (hb hby d1_111) (by decide) (by decide) rfl (fun c4 => ?_) (fun c4 => ?_)
  · rw [if_pos c4] at hK
    exact b1_163 C a0 v0 x1 x2 x5 x6 X eT Aa0 (One.val rfl) hz4 hz7 hz8 hz9 (hs.1 c4) hK
  · rw [if_neg c4] at hK
    refine o_iloadN (pc' := 115) X hx (hb hby d1_114) rfl rfl ?_
    refine o_sipush (pc' := 118) (x := (244 : Int32)) X hx (hb hby d1_115) (by decide) rfl ?_
    refine o_icP (P := (244 : Int32) < x3) (pc1 := 163) (pc2 := 121) X hx XT.ii_gt_t XT.ii_gt_f (hb hby d1_118) (by decide) (by decide) rfl (fun c15 => ?_) (fun c15 => ?_)
    · rw [if_pos c15] at hK
      exact b1_163 C a0 v0 x1 x2 x5 x6 X eT Aa0 (One.val rfl) hz4 hz7 hz8 hz9 ((hs.2 c4).1 c15) hK
    · rw [if_neg c15] at hK
      refine o_iconst (pc' := 122) (x := (4 : Int32)) X hx (hb hby d1_121) (by decide) rfl ?_
      refine o_istoreS (pc' := 124) (l' := #[.val (.ref a0), .val (.int x1), .val (.int x2), .val (.int x3), .val (.int (4 : Int32)), .val (.int x5), .val (.int x6), z7, z8, z9]) X hx (hb hby d1_122) rfl hz4 rfl rfl ?_
      refine o_iloadN (pc' := 125) X hx (hb hby d1_124) rfl rfl ?_
      refine o_sipush (pc' := 128) (x := (240 : Int32)) X hx (hb hby d1_125) (by decide) rfl ?_
      refine o_icN (P := x3 = (240 : Int32)) (pc1 := 137) (pc2 := 131) X hx XT.ii_ne_f XT.ii_ne_t (hb hby d1_128) (by decide) (by decide) rfl (fun c16 => ?_) (fun c16 => ?_)
      · rw [if_neg c16] at hK
        refine o_sipush (pc' := 140) (x := (128 : Int32)) X hx (hb hby d1_137) (by decide) rfl ?_
        exact b1_140 C a0 v0 x1 x2 x3 (4 : Int32) (128 : Int32) X eT Aa0 (One.val rfl) (One.val rfl) hz7 hz8 hz9 (((hs.2 c4).2 c15).2 c16) hK
      · rw [if_pos c16] at hK
        refine o_sipush (pc' := 134) (x := (144 : Int32)) X hx (hb hby d1_131) (by decide) rfl ?_
        refine o_goto (pc' := 140) X hx (hb hby d1_134) (by decide) (by decide) ?_
        exact b1_140 C a0 v0 x1 x2 x3 (4 : Int32) (144 : Int32) X eT Aa0 (One.val rfl) (One.val rfl) hz7 hz8 hz9 (((hs.2 c4).2 c15).1 c16) hK

def f1_102 (v0 : List Int32) (x1 : Int32) (x2 : Int32) (x4 : Int32) (x5 : Int32) (t0 : Int32) : Int32 := (f1_166 v0 x1 x2 x4 x5 t0)
def s1_102 (v0 : List Int32) (x1 : Int32) (x2 : Int32) (x4 : Int32) (x5 : Int32) (t0 : Int32) : Prop := s1_166 v0 x1 x2 x4 x5 t0
set_option maxRecDepth 65536 in
set_option maxHeartbeats 40000000 in
theorem b1_102 (C : own_Cx p s m meth c Z ag prog_144_method_5_code 10 "com/example/ledgerline/ledgerline/cli/MessageLine" (some .int) "utf8Length") {T : State} {h : Heap} {z3 : Slot} {z6 : Slot} {z7 : Slot} {z8 : Slot} {z9 : Slot} (a0 : Addr) (v0 : List Int32) (x1 : Int32) (x2 : Int32) (x4 : Int32) (x5 : Int32) (t0 : Int32) (X : Stand p l e R1 s m args below meth c T [] 0 0) (eT : T.heap = h) (Aa0 : own_AI Z h a0 .byte v0) (hz3 : One z3) (hz6 : One z6) (hz7 : One z7) (hz8 : One z8) (hz9 : One z9) (hs : s1_102 v0 x1 x2 x4 x5 t0) (hK : K (some (.int (f1_102 v0 x1 x2 x4 x5 t0))) h []) : own_Go p e below (own_Q s K cc1 ss1) T (mkF m 102 #[.val (.ref a0), .val (.int x1), .val (.int x2), z3, .val (.int x4), .val (.int x5), z6, z7, z8, z9] [(.int t0)]) := by
  obtain ⟨hx, hZ, hw, hby, hml, hown, hret, hlk, hnm⟩ := id C
  unfold f1_102 at hK
  unfold s1_102 at hs
  refine o_istoreS (pc' := 104) (l' := #[.val (.ref a0), .val (.int x1), .val (.int x2), z3, .val (.int x4), .val (.int x5), .val (.int t0), z7, z8, z9]) X hx (hb hby d1_102) rfl hz6 rfl rfl ?_
  refine o_goto (pc' := 166) X hx (hb hby d1_104) (by decide) (by decide) ?_
  exact b1_166 C a0 v0 x1 x2 x4 x5 t0 X eT Aa0 hz3 hz7 hz8 hz9 hs hK

def f1_84 (v0 : List Int32) (x1 : Int32) (x2 : Int32) (x3 : Int32) (x4 : Int32) (t0 : Int32) : Int32 := (if x3 = (237 : Int32) then (f1_102 v0 x1 x2 x4 t0 (159 : Int32)) else (f1_102 v0 x1 x2 x4 t0 (191 : Int32)))
def s1_84 (v0 : List Int32) (x1 : Int32) (x2 : Int32) (x3 : Int32) (x4 : Int32) (t0 : Int32) : Prop := ((x3 = (237 : Int32) → s1_102 v0 x1 x2 x4 t0 (159 : Int32)) ∧ (¬ (x3 = (237 : Int32)) → s1_102 v0 x1 x2 x4 t0 (191 : Int32)))
set_option maxRecDepth 65536 in
set_option maxHeartbeats 40000000 in
theorem b1_84 (C : own_Cx p s m meth c Z ag prog_144_method_5_code 10 "com/example/ledgerline/ledgerline/cli/MessageLine" (some .int) "utf8Length") {T : State} {h : Heap} {z5 : Slot} {z6 : Slot} {z7 : Slot} {z8 : Slot} {z9 : Slot} (a0 : Addr) (v0 : List Int32) (x1 : Int32) (x2 : Int32) (x3 : Int32) (x4 : Int32) (t0 : Int32) (X : Stand p l e R1 s m args below meth c T [] 0 0) (eT : T.heap = h) (Aa0 : own_AI Z h a0 .byte v0) (hz5 : One z5) (hz6 : One z6) (hz7 : One z7) (hz8 : One z8) (hz9 : One z9) (hs : s1_84 v0 x1 x2 x3 x4 t0) (hK : K (some (.int (f1_84 v0 x1 x2 x3 x4 t0))) h []) : own_Go p e below (own_Q s K cc1 ss1) T (mkF m 84 #[.val (.ref a0), .val (.int x1), .val (.int x2), .val (.int x3), .val (.int x4), z5, z6, z7, z8, z9] [(.int t0)]) := by
  obtain ⟨hx, hZ, hw, hby, hml, hown, hret, hlk, hnm⟩ := id C
  unfold f1_84 at hK
  unfold s1_84 at hs
  refine o_istoreS (pc' := 86) (l' := #[.val (.ref a0), .val (.int x1), .val (.int x2), .val (.int x3), .val (.int x4), .val (.int t0), z6, z7, z8, z9]) X hx (hb hby d1_84) rfl hz5 rfl rfl ?_
  refine o_iloadN (pc' := 87) X hx (hb hby d1_86) rfl rfl ?_
  refine o_sipush (pc' := 90) (x := (237 : Int32)) X hx (hb hby d1_87) (by decide) rfl ?_
  refine o_icN (P := x3 = (237 : Int32)) (pc1 := 99) (pc2 := 93) X hx XT.ii_ne_f XT.ii_ne_t (hb hby d1_90) (by decide) (by decide) rfl (fun c20 => ?_) (fun c20 => ?_)
  · rw [if_neg c20] at hK
    refine o_sipush (pc' := 102) (x := (191 : Int32)) X hx (hb hby d1_99) (by decide) rfl ?_
    exact b1_102 C a0 v0 x1 x2 x4 t0 (191 : Int32) X eT Aa0 (One.val rfl) hz6 hz7 hz8 hz9 (hs.2 c20) hK
  · rw [if_pos c20] at hK
    refine o_sipush (pc' := 96) (x := (159 : Int32)) X hx (hb hby d1_93) (by decide) rfl ?_
    refine o_goto (pc' := 102) X hx (hb hby d1_96) (by decide) (by decide) ?_
    exact b1_102 C a0 v0 x1 x2 x4 t0 (159 : Int32) X eT Aa0 (One.val rfl) hz6 hz7 hz8 hz9 (hs.1 c20) hK

def f1_51 (v0 : List Int32) (x1 : Int32) (x2 : Int32) (x3 : Int32) (x5 : Int32) (x6 : Int32) : Int32 := (if x3 < (224 : Int32) then (f1_107 v0 x1 x2 x3 x5 x6) else (if (239 : Int32) < x3 then (f1_107 v0 x1 x2 x3 x5 x6) else (if x3 = (224 : Int32) then (f1_84 v0 x1 x2 x3 (3 : Int32) (160 : Int32)) else (f1_84 v0 x1 x2 x3 (3 : Int32) (128 : Int32)))))
def s1_51 (v0 : List Int32) (x1 : Int32) (x2 : Int32) (x3 : Int32) (x5 : Int32) (x6 : Int32) : Prop := ((x3 < (224 : Int32) → s1_107 v0 x1 x2 x3 x5 x6) ∧ (¬ (x3 < (224 : Int32)) → (((239 : Int32) < x3 → s1_107 v0 x1 x2 x3 x5 x6) ∧ (¬ ((239 : Int32) < x3) → ((x3 = (224 : Int32) → s1_84 v0 x1 x2 x3 (3 : Int32) (160 : Int32)) ∧ (¬ (x3 = (224 : Int32)) → s1_84 v0 x1 x2 x3 (3 : Int32) (128 : Int32)))))))
set_option maxRecDepth 65536 in
set_option maxHeartbeats 40000000 in
theorem b1_51 (C : own_Cx p s m meth c Z ag prog_144_method_5_code 10 "com/example/ledgerline/ledgerline/cli/MessageLine" (some .int) "utf8Length") {T : State} {h : Heap} {z4 : Slot} {z7 : Slot} {z8 : Slot} {z9 : Slot} (a0 : Addr) (v0 : List Int32) (x1 : Int32) (x2 : Int32) (x3 : Int32) (x5 : Int32) (x6 : Int32) (X : Stand p l e R1 s m args below meth c T [] 0 0) (eT : T.heap = h) (Aa0 : own_AI Z h a0 .byte v0) (hz4 : One z4) (hz7 : One z7) (hz8 : One z8) (hz9 : One z9) (hs : s1_51 v0 x1 x2 x3 x5 x6) (hK : K (some (.int (f1_51 v0 x1 x2 x3 x5 x6))) h []) : own_Go p e below (own_Q s K cc1 ss1) T (mkF m 51 #[.val (.ref a0), .val (.int x1), .val (.int x2), .val (.int x3), z4, .val (.int x5), .val (.int x6), z7, z8, z9] []) := by
  obtain ⟨hx, hZ, hw, hby, hml, hown, hret, hlk, hnm⟩ := id C
  unfold f1_51 at hK
  unfold s1_51 at hs
  refine o_iloadN (pc' := 52) X hx (hb hby d1_51) rfl rfl ?_
  refine o_sipush (pc' := 55) (x := (224 : Int32)) X hx (hb hby d1_52) (by decide) rfl ?_
  refine o_icP (P := x3 < (224 : Int32)) (pc1 := 107) (pc2 := 58) X hx XT.ii_lt_t XT.ii_lt_f (hb hby d1_55) (by decide) (by decide) rfl (fun c3 => ?_) (fun c3 => ?_)
  · rw [if_pos c3] at hK
    exact b1_107 C a0 v0 x1 x2 x3 x5 x6 X eT Aa0 hz4 hz7 hz8 hz9 (hs.1 c3) hK
  · rw [if_neg c3] at hK
    refine o_iloadN (pc' := 59) X hx (hb hby d1_58) rfl rfl ?_
    refine o_sipush (pc' := 62) (x := (239 : Int32)) X hx (hb hby d1_59) (by decide) rfl ?_
    refine o_icP (P := (239 : Int32) < x3) (pc1 := 107) (pc2 := 65) X hx XT.ii_gt_t XT.ii_gt_f (hb hby d1_62) (by decide) (by decide) rfl (fun c18 => ?_) (fun c18 => ?_)
    · rw [if_pos c18] at hK
      exact b1_107 C a0 v0 x1 x2 x3 x5 x6 X eT Aa0 hz4 hz7 hz8 hz9 ((hs.2 c3).1 c18) hK
    · rw [if_neg c18] at hK
      refine o_iconst (pc' := 66) (x := (3 : Int32)) X hx (hb hby d1_65) (by decide) rfl ?_
      refine o_istoreS (pc' := 68) (l' := #[.val (.ref a0), .val (.int x1), .val (.int x2), .val (.int x3), .val (.int (3 : Int32)), .val (.int x5), .val (.int x6), z7, z8, z9]) X hx (hb hby d1_66) rfl hz4 rfl rfl ?_
      refine o_iloadN (pc' := 69) X hx (hb hby d1_68) rfl rfl ?_
      refine o_sipush (pc' := 72) (x := (224 : Int32)) X hx (hb hby d1_69) (by decide) rfl ?_
      refine o_icN (P := x3 = (224 : Int32)) (pc1 := 81) (pc2 := 75) X hx XT.ii_ne_f XT.ii_ne_t (hb hby d1_72) (by decide) (by decide) rfl (fun c19 => ?_) (fun c19 => ?_)
      · rw [if_neg c19] at hK
        refine o_sipush (pc' := 84) (x := (128 : Int32)) X hx (hb hby d1_81) (by decide) rfl ?_
        exact b1_84 C a0 v0 x1 x2 x3 (3 : Int32) (128 : Int32) X eT Aa0 (One.val rfl) (One.val rfl) hz7 hz8 hz9 (((hs.2 c3).2 c18).2 c19) hK
      · rw [if_pos c19] at hK
        refine o_sipush (pc' := 78) (x := (160 : Int32)) X hx (hb hby d1_75) (by decide) rfl ?_
        refine o_goto (pc' := 84) X hx (hb hby d1_78) (by decide) (by decide) ?_
        exact b1_84 C a0 v0 x1 x2 x3 (3 : Int32) (160 : Int32) X eT Aa0 (One.val rfl) (One.val rfl) hz7 hz8 hz9 (((hs.2 c3).2 c18).1 c19) hK

def f1_0 (v0 : List Int32) (p1 : Int32) (p2 : Int32) : Int32 := (if ((own_get v0 p1) &&& (255 : Int32)) < (128 : Int32) then (f1_166 v0 p1 p2 (1 : Int32) (128 : Int32) (191 : Int32)) else (if ((own_get v0 p1) &&& (255 : Int32)) < (194 : Int32) then (f1_51 v0 p1 p2 ((own_get v0 p1) &&& (255 : Int32)) (128 : Int32) (191 : Int32)) else (if (223 : Int32) < ((own_get v0 p1) &&& (255 : Int32)) then (f1_51 v0 p1 p2 ((own_get v0 p1) &&& (255 : Int32)) (128 : Int32) (191 : Int32)) else (f1_166 v0 p1 p2 (2 : Int32) (128 : Int32) (191 : Int32)))))
def s1_0 (v0 : List Int32) (p1 : Int32) (p2 : Int32) : Prop := (own_in v0.length p1 ∧ ((((own_get v0 p1) &&& (255 : Int32)) < (128 : Int32) → s1_166 v0 p1 p2 (1 : Int32) (128 : Int32) (191 : Int32)) ∧ (¬ (((own_get v0 p1) &&& (255 : Int32)) < (128 : Int32)) → ((((own_get v0 p1) &&& (255 : Int32)) < (194 : Int32) → s1_51 v0 p1 p2 ((own_get v0 p1) &&& (255 : Int32)) (128 : Int32) (191 : Int32)) ∧ (¬ (((own_get v0 p1) &&& (255 : Int32)) < (194 : Int32)) → (((223 : Int32) < ((own_get v0 p1) &&& (255 : Int32)) → s1_51 v0 p1 p2 ((own_get v0 p1) &&& (255 : Int32)) (128 : Int32) (191 : Int32)) ∧ (¬ ((223 : Int32) < ((own_get v0 p1) &&& (255 : Int32))) → s1_166 v0 p1 p2 (2 : Int32) (128 : Int32) (191 : Int32))))))))
set_option maxRecDepth 65536 in
set_option maxHeartbeats 40000000 in
theorem b1_0 (C : own_Cx p s m meth c Z ag prog_144_method_5_code 10 "com/example/ledgerline/ledgerline/cli/MessageLine" (some .int) "utf8Length") {T : State} {h : Heap} (a0 : Addr) (v0 : List Int32) (p1 : Int32) (p2 : Int32) (X : Stand p l e R1 s m args below meth c T [] 0 0) (eT : T.heap = h) (Aa0 : own_AI Z h a0 .byte v0) (hs : s1_0 v0 p1 p2) (hK : K (some (.int (f1_0 v0 p1 p2))) h []) : own_Go p e below (own_Q s K cc1 ss1) T (mkF m 0 #[.val (.ref a0), .val (.int p1), .val (.int p2), .unset, .unset, .unset, .unset, .unset, .unset, .unset] []) := by
  obtain ⟨hx, hZ, hw, hby, hml, hown, hret, hlk, hnm⟩ := id C
  unfold f1_0 at hK
  unfold s1_0 at hs
  refine o_aloadN (pc' := 1) X hx (hb hby d1_0) rfl rfl rfl ?_
  refine o_iloadN (pc' := 2) X hx (hb hby d1_1) rfl rfl ?_
  refine o_baload (pc' := 3)  X hx hZ eT Aa0 hs.1 (hb hby d1_2) rfl rfl ?_
  refine o_sipush (pc' := 6) (x := (255 : Int32)) X hx (hb hby d1_3) (by decide) rfl ?_
  refine o_iand (pc' := 7)  X hx (hb hby d1_6) rfl rfl ?_
  refine o_istoreN (pc' := 8) (l' := #[.val (.ref a0), .val (.int p1), .val (.int p2), .val (.int ((own_get v0 p1) &&& (255 : Int32))), .unset, .unset, .unset, .unset, .unset, .unset]) X hx (hb hby d1_7) rfl rfl ?_
  refine o_sipush (pc' := 11) (x := (128 : Int32)) X hx (hb hby d1_8) (by decide) rfl ?_
  refine o_istore (pc' := 13) (l' := #[.val (.ref a0), .val (.int p1), .val (.int p2), .val (.int ((own_get v0 p1) &&& (255 : Int32))), .unset, .val (.int (128 : Int32)), .unset, .unset, .unset, .unset]) X hx (hb hby d1_11) rfl rfl ?_
  refine o_sipush (pc' := 16) (x := (191 : Int32)) X hx (hb hby d1_13) (by decide) rfl ?_
  refine o_istore (pc' := 18) (l' := #[.val (.ref a0), .val (.int p1), .val (.int p2), .val (.int ((own_get v0 p1) &&& (255 : Int32))), .unset, .val (.int (128 : Int32)), .val (.int (191 : Int32)), .unset, .unset, .unset]) X hx (hb hby d1_16) rfl rfl ?_
  refine o_iloadN (pc' := 19) X hx (hb hby d1_18) rfl rfl ?_
  refine o_sipush (pc' := 22) (x := (128 : Int32)) X hx (hb hby d1_19) (by decide) rfl ?_
  refine o_icN (P := ((own_get v0 p1) &&& (255 : Int32)) < (128 : Int32)) (pc1 := 31) (pc2 := 25) X hx XT.ii_ge_f XT.ii_ge_t (hb hby d1_22) (by decide) (by decide) rfl (fun c1 => ?_) (fun c1 => ?_)
  · rw [if_neg c1] at hK
    refine o_iloadN (pc' := 32) X hx (hb hby d1_31) rfl rfl ?_
    refine o_sipush (pc' := 35) (x := (194 : Int32)) X hx (hb hby d1_32) (by decide) rfl ?_
    refine o_icP (P := ((own_get v0 p1) &&& (255 : Int32)) < (194 : Int32)) (pc1 := 51) (pc2 := 38) X hx XT.ii_lt_t XT.ii_lt_f (hb hby d1_35) (by decide) (by decide) rfl (fun c2 => ?_) (fun c2 => ?_)
    · rw [if_pos c2] at hK
      exact b1_51 C a0 v0 p1 p2 ((own_get v0 p1) &&& (255 : Int32)) (128 : Int32) (191 : Int32) X eT Aa0 One.u One.u One.u One.u ((hs.2.2 c1).1 c2) hK
    · rw [if_neg c2] at hK
      refine o_iloadN (pc' := 39) X hx (hb hby d1_38) rfl rfl ?_
      refine o_sipush (pc' := 42) (x := (223 : Int32)) X hx (hb hby d1_39) (by decide) rfl ?_
      refine o_icP (P := (223 : Int32) < ((own_get v0 p1) &&& (255 : Int32))) (pc1 := 51) (pc2 := 45) X hx XT.ii_gt_t XT.ii_gt_f (hb hby d1_42) (by decide) (by decide) rfl (fun c21 => ?_) (fun c21 => ?_)
      · rw [if_pos c21] at hK
        exact b1_51 C a0 v0 p1 p2 ((own_get v0 p1) &&& (255 : Int32)) (128 : Int32) (191 : Int32) X eT Aa0 One.u One.u One.u One.u (((hs.2.2 c1).2 c2).1 c21) hK
      · rw [if_neg c21] at hK
        refine o_iconst (pc' := 46) (x := (2 : Int32)) X hx (hb hby d1_45) (by decide) rfl ?_
        refine o_istore (pc' := 48) (l' := #[.val (.ref a0), .val (.int p1), .val (.int p2), .val (.int ((own_get v0 p1) &&& (255 : Int32))), .val (.int (2 : Int32)), .val (.int (128 : Int32)), .val (.int (191 : Int32)), .unset, .unset, .unset]) X hx (hb hby d1_46) rfl rfl ?_
        refine o_goto (pc' := 166) X hx (hb hby d1_48) (by decide) (by decide) ?_
        exact b1_166 C a0 v0 p1 p2 (2 : Int32) (128 : Int32) (191 : Int32) X eT Aa0 (One.val rfl) One.u One.u One.u (((hs.2.2 c1).2 c2).2 c21) hK
  · rw [if_pos c1] at hK
    refine o_iconst (pc' := 26) (x := (1 : Int32)) X hx (hb hby d1_25) (by decide) rfl ?_
    refine o_istore (pc' := 28) (l' := #[.val (.ref a0), .val (.int p1), .val (.int p2), .val (.int ((own_get v0 p1) &&& (255 : Int32))), .val (.int (1 : Int32)), .val (.int (128 : Int32)), .val (.int (191 : Int32)), .unset, .unset, .unset]) X hx (hb hby d1_26) rfl rfl ?_
    refine o_goto (pc' := 166) X hx (hb hby d1_28) (by decide) (by decide) ?_
    exact b1_166 C a0 v0 p1 p2 (1 : Int32) (128 : Int32) (191 : Int32) X eT Aa0 (One.val rfl) One.u One.u One.u (hs.2.1 c1) hK

end Body1
theorem pn_MessageLine : plainName "com/example/ledgerline/ledgerline/cli/MessageLine" = true := by first | (simp [plainName, overriddenIn]; done) | decide +kernel
theorem ef_1 (m : MethodId) (a0 : Addr) (p1 : Int32) (p2 : Int32) : entryFrame m #[(.ref a0), (.int p1), (.int p2)] 10 = mkF m 0 #[.val (.ref a0), .val (.int p1), .val (.int p2), .unset, .unset, .unset, .unset, .unset, .unset, .unset] [] := by first | (simp [entryFrame, mkF, argsToLocals, Value.category]; done) | rfl
set_option maxRecDepth 65536 in
set_option maxHeartbeats 40000000 in
theorem rm1 (l : Launch) (Z : State) (ag : Array Value) (hw : ∀ d ∈ tables_1, d.before ag Z = true) (ws : List Jvm.Cond) (a0 : Addr) (v0 : List Int32) (p1 : Int32) (p2 : Int32) (h0 : Heap) (Aa0 : own_AI Z h0 a0 .byte v0) (hs : s1_0 v0 p1 p2) :
    MetFree l (⟨"com/example/ledgerline/ledgerline/cli/MessageLine", "utf8Length", "([BII)I"⟩ : MethodName) (head1 (Jvm.Cond.code (⟨"com/example/ledgerline/ledgerline/cli/MessageLine", "utf8Length", "([BII)I"⟩ : MethodName) prog_144_method_5_code 10 (some .int) :: ws) R1) (fun a U => a = #[(.ref a0), (.int p1), (.int p2)] ∧ Z.Warmed39 U.vm ∧ U.heap = h0) (fun _ _ _ _ _ => True) (fun _ U o U' => ∃ v L, o = .returned v ∧ own_KP (some (.int (f1_0 v0 p1 p2))) h0 v U'.heap L ∧ FrameEnd U o U' L R1.cells R1.slots) := by
  refine MetFree.of_bodySF (plainFor_of_name pn_MessageLine) hisR ?_
  intro p e s m args below meth c s₁ Bd hml0 hP hK
  obtain ⟨rfl, hZ, hh⟩ := hP
  have C : own_Cx p s m meth c Z ag prog_144_method_5_code 10 "com/example/ledgerline/ledgerline/cli/MessageLine" (some .int) "utf8Length" := ⟨Bd.exec, hZ, hw, Bd.bytes, hml0, findClass_of_methodNamed Bd.named, Bd.returns, Bd.notSynchronized, (name_of_methodNamed Bd.named Bd.method).1⟩
  have X0 : Stand p l e R1 s m #[(.ref a0), (.int p1), (.int p2)] below meth c s₁ [] 0 0 := Stand.of_body Bd
  have e0 : s₁.heap = h0 := by rw [← hh, Bd.state]; rfl
  rw [ef_1]
  exact b1_0 (K := own_KP (some (.int (f1_0 v0 p1 p2))) h0) C a0 v0 p1 p2 X0 e0 Aa0 hs ⟨rfl, rfl, rfl⟩

theorem d2_0 : decode method_2_code 0 = .ok (.iload_n 0, 1) := by decide +kernel
theorem d2_1 : decode method_2_code 1 = .ok (.iload_n 1, 1) := by decide +kernel
theorem d2_2 : decode method_2_code 2 = .ok (.if_icmp .lt 12, 3) := by decide +kernel
theorem d2_5 : decode method_2_code 5 = .ok (.iload_n 0, 1) := by decide +kernel
theorem d2_6 : decode method_2_code 6 = .ok (.iload_n 2, 1) := by decide +kernel
theorem d2_7 : decode method_2_code 7 = .ok (.if_icmp .gt 7, 3) := by decide +kernel
theorem d2_10 : decode method_2_code 10 = .ok (.iconst 1, 1) := by decide +kernel
theorem d2_11 : decode method_2_code 11 = .ok (.goto 4, 3) := by decide +kernel
theorem d2_14 : decode method_2_code 14 = .ok (.iconst 0, 1) := by decide +kernel
theorem d2_15 : decode method_2_code 15 = .ok (.ireturn, 1) := by decide +kernel
section Body2
variable {p : Program} {l : Launch} {e : Env} {s : State} {m : MethodId} {args : Array Value} {below : List Frame} {meth : Method} {c : Code} {Z : State} {ag : Array Value} {K : Option Value → Heap → List Loc → Prop}
abbrev R2 : Room := { frames := 0, cells := 0, slots := 0, locals := 0 }
abbrev cc2 : Nat := 0
abbrev ss2 : Nat := 0
def f2_15 : Int32 := (0 : Int32)
set_option maxRecDepth 65536 in
set_option maxHeartbeats 40000000 in
theorem b2_15 (C : own_Cx p s m meth c Z ag method_2_code 3 "com/example/ledgerline/ledgerline/cli/MessageLineUtf8LengthPinLaw" (some .boolean) "in") {T : State} {h : Heap} {z0 : Slot} {z1 : Slot} {z2 : Slot} (X : Stand p l e R2 s m args below meth c T [] 0 0) (eT : T.heap = h) (hz0 : One z0) (hz1 : One z1) (hz2 : One z2) (hK : K (some (.int (f2_15))) h []) : own_Go p e below (own_Q s K cc2 ss2) T (mkF m 15 #[z0, z1, z2] [(.int (0 : Int32))]) := by
  obtain ⟨hx, hZ, hw, hby, hml, hown, hret, hlk, hnm⟩ := id C
  unfold f2_15 at hK
  exact o_retN X hx (t := .boolean) hret (by simp) hlk (hb hby d2_15) (by decide) (by decide) eT (hK)

def f2_14 : Int32 := f2_15
set_option maxRecDepth 65536 in
set_option maxHeartbeats 40000000 in
theorem b2_14 (C : own_Cx p s m meth c Z ag method_2_code 3 "com/example/ledgerline/ledgerline/cli/MessageLineUtf8LengthPinLaw" (some .boolean) "in") {T : State} {h : Heap} {z0 : Slot} {z1 : Slot} {z2 : Slot} (X : Stand p l e R2 s m args below meth c T [] 0 0) (eT : T.heap = h) (hz0 : One z0) (hz1 : One z1) (hz2 : One z2) (hK : K (some (.int (f2_14))) h []) : own_Go p e below (own_Q s K cc2 ss2) T (mkF m 14 #[z0, z1, z2] []) := by
  obtain ⟨hx, hZ, hw, hby, hml, hown, hret, hlk, hnm⟩ := id C
  unfold f2_14 at hK
  refine o_iconst (pc' := 15) (x := (0 : Int32)) X hx (hb hby d2_14) (by decide) rfl ?_
  exact b2_15 C X eT hz0 hz1 hz2 hK

def f2_15_3 : Int32 := (1 : Int32)
set_option maxRecDepth 65536 in
set_option maxHeartbeats 40000000 in
theorem b2_15_3 (C : own_Cx p s m meth c Z ag method_2_code 3 "com/example/ledgerline/ledgerline/cli/MessageLineUtf8LengthPinLaw" (some .boolean) "in") {T : State} {h : Heap} {z0 : Slot} {z1 : Slot} {z2 : Slot} (X : Stand p l e R2 s m args below meth c T [] 0 0) (eT : T.heap = h) (hz0 : One z0) (hz1 : One z1) (hz2 : One z2) (hK : K (some (.int (f2_15_3))) h []) : own_Go p e below (own_Q s K cc2 ss2) T (mkF m 15 #[z0, z1, z2] [(.int (1 : Int32))]) := by
  obtain ⟨hx, hZ, hw, hby, hml, hown, hret, hlk, hnm⟩ := id C
  unfold f2_15_3 at hK
  exact o_retN X hx (t := .boolean) hret (by simp) hlk (hb hby d2_15) (by decide) (by decide) eT (hK)

def f2_0 (p0 : Int32) (p1 : Int32) (p2 : Int32) : Int32 := (if p0 < p1 then f2_14 else (if p2 < p0 then f2_14 else f2_15_3))
set_option maxRecDepth 65536 in
set_option maxHeartbeats 40000000 in
theorem b2_0 (C : own_Cx p s m meth c Z ag method_2_code 3 "com/example/ledgerline/ledgerline/cli/MessageLineUtf8LengthPinLaw" (some .boolean) "in") {T : State} {h : Heap} (p0 : Int32) (p1 : Int32) (p2 : Int32) (X : Stand p l e R2 s m args below meth c T [] 0 0) (eT : T.heap = h) (hK : K (some (.int (f2_0 p0 p1 p2))) h []) : own_Go p e below (own_Q s K cc2 ss2) T (mkF m 0 #[.val (.int p0), .val (.int p1), .val (.int p2)] []) := by
  obtain ⟨hx, hZ, hw, hby, hml, hown, hret, hlk, hnm⟩ := id C
  unfold f2_0 at hK
  refine o_iloadN (pc' := 1) X hx (hb hby d2_0) rfl rfl ?_
  refine o_iloadN (pc' := 2) X hx (hb hby d2_1) rfl rfl ?_
  refine o_icP (P := p0 < p1) (pc1 := 14) (pc2 := 5) X hx XT.ii_lt_t XT.ii_lt_f (hb hby d2_2) (by decide) (by decide) rfl (fun c22 => ?_) (fun c22 => ?_)
  · rw [if_pos c22] at hK
    exact b2_14 C X eT (One.val rfl) (One.val rfl) (One.val rfl) hK
  · rw [if_neg c22] at hK
    refine o_iloadN (pc' := 6) X hx (hb hby d2_5) rfl rfl ?_
    refine o_iloadN (pc' := 7) X hx (hb hby d2_6) rfl rfl ?_
    refine o_icP (P := p2 < p0) (pc1 := 14) (pc2 := 10) X hx XT.ii_gt_t XT.ii_gt_f (hb hby d2_7) (by decide) (by decide) rfl (fun c23 => ?_) (fun c23 => ?_)
    · rw [if_pos c23] at hK
      exact b2_14 C X eT (One.val rfl) (One.val rfl) (One.val rfl) hK
    · rw [if_neg c23] at hK
      refine o_iconst (pc' := 11) (x := (1 : Int32)) X hx (hb hby d2_10) (by decide) rfl ?_
      refine o_goto (pc' := 15) X hx (hb hby d2_11) (by decide) (by decide) ?_
      exact b2_15_3 C X eT (One.val rfl) (One.val rfl) (One.val rfl) hK

end Body2
theorem pn_MessageLineUtf8LengthPinLaw : plainName "com/example/ledgerline/ledgerline/cli/MessageLineUtf8LengthPinLaw" = true := by first | (simp [plainName, overriddenIn]; done) | decide +kernel
theorem ef_2 (m : MethodId) (p0 : Int32) (p1 : Int32) (p2 : Int32) : entryFrame m #[(.int p0), (.int p1), (.int p2)] 3 = mkF m 0 #[.val (.int p0), .val (.int p1), .val (.int p2)] [] := by first | (simp [entryFrame, mkF, argsToLocals, Value.category]; done) | rfl
set_option maxRecDepth 65536 in
set_option maxHeartbeats 40000000 in
theorem rm2 (l : Launch) (Z : State) (ag : Array Value) (hw : ∀ d ∈ tables_1, d.before ag Z = true) (ws : List Jvm.Cond) (p0 : Int32) (p1 : Int32) (p2 : Int32) (h0 : Heap) :
    MetFree l (⟨"com/example/ledgerline/ledgerline/cli/MessageLineUtf8LengthPinLaw", "in", "(III)Z"⟩ : MethodName) (head1 (Jvm.Cond.code (⟨"com/example/ledgerline/ledgerline/cli/MessageLineUtf8LengthPinLaw", "in", "(III)Z"⟩ : MethodName) method_2_code 3 (some .boolean) :: ws) R2) (fun a U => a = #[(.int p0), (.int p1), (.int p2)] ∧ Z.Warmed39 U.vm ∧ U.heap = h0) (fun _ _ _ _ _ => True) (fun _ U o U' => ∃ v L, o = .returned v ∧ own_KP (some (.int (f2_0 p0 p1 p2))) h0 v U'.heap L ∧ FrameEnd U o U' L R2.cells R2.slots) := by
  refine MetFree.of_bodySF (plainFor_of_name pn_MessageLineUtf8LengthPinLaw) hisR ?_
  intro p e s m args below meth c s₁ Bd hml0 hP hK
  obtain ⟨rfl, hZ, hh⟩ := hP
  have C : own_Cx p s m meth c Z ag method_2_code 3 "com/example/ledgerline/ledgerline/cli/MessageLineUtf8LengthPinLaw" (some .boolean) "in" := ⟨Bd.exec, hZ, hw, Bd.bytes, hml0, findClass_of_methodNamed Bd.named, Bd.returns, Bd.notSynchronized, (name_of_methodNamed Bd.named Bd.method).1⟩
  have X0 : Stand p l e R2 s m #[(.int p0), (.int p1), (.int p2)] below meth c s₁ [] 0 0 := Stand.of_body Bd
  have e0 : s₁.heap = h0 := by rw [← hh, Bd.state]; rfl
  rw [ef_2]
  exact b2_0 (K := own_KP (some (.int (f2_0 p0 p1 p2))) h0) C p0 p1 p2 X0 e0 ⟨rfl, rfl, rfl⟩

section Body0
variable {p : Program} {l : Launch} {e : Env} {s : State} {m : MethodId} {args : Array Value} {below : List Frame} {meth : Method} {c : Code} {Z : State} {ag : Array Value} {K : Option Value → Heap → List Loc → Prop}
abbrev R0 : Room := room_1
abbrev cc0 : Nat := 1
abbrev ss0 : Nat := 8
def f0_599 (t0 : Int32) : Int32 := (t0 &&& 1)
set_option maxRecDepth 65536 in
set_option maxHeartbeats 40000000 in
theorem b0_599 (C : own_Cx p s m meth c Z ag code maxLocals "com/example/ledgerline/ledgerline/cli/MessageLineUtf8LengthPinLaw" ret "law") {T : State} {h : Heap} {z0 : Slot} {z1 : Slot} {z2 : Slot} {z3 : Slot} {z4 : Slot} {z5 : Slot} {z6 : Slot} {z7 : Slot} {z8 : Slot} {z9 : Slot} {z10 : Slot} {z11 : Slot} {z12 : Slot} {z13 : Slot} {z14 : Slot} {z15 : Slot} {z16 : Slot} {z17 : Slot} (t0 : Int32) (X : Stand p l e R0 s m args below meth c T [] 1 8) (eT : T.heap = h) (hz0 : One z0) (hz1 : One z1) (hz2 : One z2) (hz3 : One z3) (hz4 : One z4) (hz5 : One z5) (hz6 : One z6) (hz7 : One z7) (hz8 : One z8) (hz9 : One z9) (hz10 : One z10) (hz11 : One z11) (hz12 : One z12) (hz13 : One z13) (hz14 : One z14) (hz15 : One z15) (hz16 : One z16) (hz17 : One z17) (hK : ∀ h', K (some (.int (f0_599 t0))) h' []) : own_Go p e below (own_Q s K cc0 ss0) T (mkF m 599 #[z0, z1, z2, z3, z4, z5, z6, z7, z8, z9, z10, z11, z12, z13, z14, z15, z16, z17] [(.int t0)]) := by
  obtain ⟨hx, hZ, hw, hby, hml, hown, hret, hlk, hnm⟩ := id C
  unfold f0_599 at hK
  exact o_retN X hx (t := .boolean) hret (by simp) hlk (hb hby at_599) (by decide) (by decide) eT (hK _)

def f0_585 (x10 : Int32) (t0 : Int32) : Int32 := (if x10 = t0 then (f0_599 (1 : Int32)) else (f0_599 (0 : Int32)))
set_option maxRecDepth 65536 in
set_option maxHeartbeats 40000000 in
theorem b0_585 (C : own_Cx p s m meth c Z ag code maxLocals "com/example/ledgerline/ledgerline/cli/MessageLineUtf8LengthPinLaw" ret "law") {T : State} {h : Heap} {z0 : Slot} {z1 : Slot} {z2 : Slot} {z3 : Slot} {z4 : Slot} {z5 : Slot} {z6 : Slot} {z7 : Slot} {z8 : Slot} {z9 : Slot} {z11 : Slot} {z12 : Slot} {z13 : Slot} {z14 : Slot} {z15 : Slot} {z16 : Slot} {z17 : Slot} (x10 : Int32) (t0 : Int32) (X : Stand p l e R0 s m args below meth c T [] 1 8) (eT : T.heap = h) (hz0 : One z0) (hz1 : One z1) (hz2 : One z2) (hz3 : One z3) (hz4 : One z4) (hz5 : One z5) (hz6 : One z6) (hz7 : One z7) (hz8 : One z8) (hz9 : One z9) (hz11 : One z11) (hz12 : One z12) (hz13 : One z13) (hz14 : One z14) (hz15 : One z15) (hz16 : One z16) (hz17 : One z17) (hK : ∀ h', K (some (.int (f0_585 x10 t0))) h' []) : own_Go p e below (own_Q s K cc0 ss0) T (mkF m 585 #[z0, z1, z2, z3, z4, z5, z6, z7, z8, z9, .val (.int x10), z11, z12, z13, z14, z15, z16, z17] [(.int t0)]) := by
  obtain ⟨hx, hZ, hw, hby, hml, hown, hret, hlk, hnm⟩ := id C
  unfold f0_585 at hK
  refine o_istoreS (pc' := 587) (l' := #[z0, z1, z2, z3, z4, z5, z6, z7, z8, z9, .val (.int x10), z11, z12, z13, z14, z15, z16, .val (.int t0)]) X hx (hb hby at_585) rfl hz17 rfl rfl ?_
  refine o_iload (pc' := 589) X hx (hb hby at_587) rfl rfl ?_
  refine o_iload (pc' := 591) X hx (hb hby at_589) rfl rfl ?_
  refine o_icN (P := x10 = t0) (pc1 := 598) (pc2 := 594) X hx XT.ii_ne_f XT.ii_ne_t (hb hby at_591) (by decide) (by decide) rfl (fun c47 => ?_) (fun c47 => ?_)
  · rw [if_neg c47] at hK
    refine o_iconst (pc' := 599) (x := (0 : Int32)) X hx (hb hby at_598) (by decide) rfl ?_
    exact b0_599 C (0 : Int32) X eT hz0 hz1 hz2 hz3 hz4 hz5 hz6 hz7 hz8 hz9 (One.val rfl) hz11 hz12 hz13 hz14 hz15 hz16 (One.val rfl) hK
  · rw [if_pos c47] at hK
    refine o_iconst (pc' := 595) (x := (1 : Int32)) X hx (hb hby at_594) (by decide) rfl ?_
    refine o_goto (pc' := 599) X hx (hb hby at_595) (by decide) (by decide) ?_
    exact b0_599 C (1 : Int32) X eT hz0 hz1 hz2 hz3 hz4 hz5 hz6 hz7 hz8 hz9 (One.val rfl) hz11 hz12 hz13 hz14 hz15 hz16 (One.val rfl) hK

def f0_584 (x10 : Int32) : Int32 := (f0_585 x10 (0 : Int32))
set_option maxRecDepth 65536 in
set_option maxHeartbeats 40000000 in
theorem b0_584 (C : own_Cx p s m meth c Z ag code maxLocals "com/example/ledgerline/ledgerline/cli/MessageLineUtf8LengthPinLaw" ret "law") {T : State} {h : Heap} {z0 : Slot} {z1 : Slot} {z2 : Slot} {z3 : Slot} {z4 : Slot} {z5 : Slot} {z6 : Slot} {z7 : Slot} {z8 : Slot} {z9 : Slot} {z11 : Slot} {z12 : Slot} {z13 : Slot} {z14 : Slot} {z15 : Slot} {z16 : Slot} {z17 : Slot} (x10 : Int32) (X : Stand p l e R0 s m args below meth c T [] 1 8) (eT : T.heap = h) (hz0 : One z0) (hz1 : One z1) (hz2 : One z2) (hz3 : One z3) (hz4 : One z4) (hz5 : One z5) (hz6 : One z6) (hz7 : One z7) (hz8 : One z8) (hz9 : One z9) (hz11 : One z11) (hz12 : One z12) (hz13 : One z13) (hz14 : One z14) (hz15 : One z15) (hz16 : One z16) (hz17 : One z17) (hK : ∀ h', K (some (.int (f0_584 x10))) h' []) : own_Go p e below (own_Q s K cc0 ss0) T (mkF m 584 #[z0, z1, z2, z3, z4, z5, z6, z7, z8, z9, .val (.int x10), z11, z12, z13, z14, z15, z16, z17] []) := by
  obtain ⟨hx, hZ, hw, hby, hml, hown, hret, hlk, hnm⟩ := id C
  unfold f0_584 at hK
  refine o_iconst (pc' := 585) (x := (0 : Int32)) X hx (hb hby at_584) (by decide) rfl ?_
  exact b0_585 C x10 (0 : Int32) X eT hz0 hz1 hz2 hz3 hz4 hz5 hz6 hz7 hz8 hz9 hz11 hz12 hz13 hz14 hz15 hz16 hz17 hK

def f0_567 (x7 : Int32) (x10 : Int32) (x15 : Int32) (x16 : Int32) : Int32 := (if x16 = (0 : Int32) then (f0_584 x10) else (if x7 < x15 then (f0_584 x10) else (f0_585 x10 x15)))
set_option maxRecDepth 65536 in
set_option maxHeartbeats 40000000 in
theorem b0_567 (C : own_Cx p s m meth c Z ag code maxLocals "com/example/ledgerline/ledgerline/cli/MessageLineUtf8LengthPinLaw" ret "law") {T : State} {h : Heap} {z0 : Slot} {z1 : Slot} {z2 : Slot} {z3 : Slot} {z4 : Slot} {z5 : Slot} {z6 : Slot} {z8 : Slot} {z9 : Slot} {z11 : Slot} {z12 : Slot} {z13 : Slot} {z14 : Slot} {z17 : Slot} (x7 : Int32) (x10 : Int32) (x15 : Int32) (x16 : Int32) (X : Stand p l e R0 s m args below meth c T [] 1 8) (eT : T.heap = h) (hz0 : One z0) (hz1 : One z1) (hz2 : One z2) (hz3 : One z3) (hz4 : One z4) (hz5 : One z5) (hz6 : One z6) (hz8 : One z8) (hz9 : One z9) (hz11 : One z11) (hz12 : One z12) (hz13 : One z13) (hz14 : One z14) (hz17 : One z17) (hK : ∀ h', K (some (.int (f0_567 x7 x10 x15 x16))) h' []) : own_Go p e below (own_Q s K cc0 ss0) T (mkF m 567 #[z0, z1, z2, z3, z4, z5, z6, .val (.int x7), z8, z9, .val (.int x10), z11, z12, z13, z14, .val (.int x15), .val (.int x16), z17] []) := by
  obtain ⟨hx, hZ, hw, hby, hml, hown, hret, hlk, hnm⟩ := id C
  unfold f0_567 at hK
  refine o_iload (pc' := 569) X hx (hb hby at_567) rfl rfl ?_
  refine o_ifP (P := x16 = (0 : Int32)) (pc1 := 584) (pc2 := 572) X hx XT.i0_eq_t XT.i0_eq_f (hb hby at_569) (by decide) (by decide) rfl (fun c46 => ?_) (fun c46 => ?_)
  · rw [if_pos c46] at hK
    exact b0_584 C x10 X eT hz0 hz1 hz2 hz3 hz4 hz5 hz6 (One.val rfl) hz8 hz9 hz11 hz12 hz13 hz14 (One.val rfl) (One.val rfl) hz17 hK
  · rw [if_neg c46] at hK
    refine o_iload (pc' := 574) X hx (hb hby at_572) rfl rfl ?_
    refine o_iload (pc' := 576) X hx (hb hby at_574) rfl rfl ?_
    refine o_icP (P := x7 < x15) (pc1 := 584) (pc2 := 579) X hx XT.ii_lt_t XT.ii_lt_f (hb hby at_576) (by decide) (by decide) rfl (fun c48 => ?_) (fun c48 => ?_)
    · rw [if_pos c48] at hK
      exact b0_584 C x10 X eT hz0 hz1 hz2 hz3 hz4 hz5 hz6 (One.val rfl) hz8 hz9 hz11 hz12 hz13 hz14 (One.val rfl) (One.val rfl) hz17 hK
    · rw [if_neg c48] at hK
      refine o_iload (pc' := 581) X hx (hb hby at_579) rfl rfl ?_
      refine o_goto (pc' := 585) X hx (hb hby at_581) (by decide) (by decide) ?_
      exact b0_585 C x10 x15 X eT hz0 hz1 hz2 hz3 hz4 hz5 hz6 (One.val rfl) hz8 hz9 hz11 hz12 hz13 hz14 (One.val rfl) (One.val rfl) hz17 hK

def f0_312 (x7 : Int32) (x10 : Int32) (x15 : Int32) (t0 : Int32) : Int32 := (f0_567 x7 x10 x15 t0)
set_option maxRecDepth 65536 in
set_option maxHeartbeats 40000000 in
theorem b0_312 (C : own_Cx p s m meth c Z ag code maxLocals "com/example/ledgerline/ledgerline/cli/MessageLineUtf8LengthPinLaw" ret "law") {T : State} {h : Heap} {z0 : Slot} {z1 : Slot} {z2 : Slot} {z3 : Slot} {z4 : Slot} {z5 : Slot} {z6 : Slot} {z8 : Slot} {z9 : Slot} {z11 : Slot} {z12 : Slot} {z13 : Slot} {z14 : Slot} {z16 : Slot} {z17 : Slot} (x7 : Int32) (x10 : Int32) (x15 : Int32) (t0 : Int32) (X : Stand p l e R0 s m args below meth c T [] 1 8) (eT : T.heap = h) (hz0 : One z0) (hz1 : One z1) (hz2 : One z2) (hz3 : One z3) (hz4 : One z4) (hz5 : One z5) (hz6 : One z6) (hz8 : One z8) (hz9 : One z9) (hz11 : One z11) (hz12 : One z12) (hz13 : One z13) (hz14 : One z14) (hz16 : One z16) (hz17 : One z17) (hK : ∀ h', K (some (.int (f0_312 x7 x10 x15 t0))) h' []) : own_Go p e below (own_Q s K cc0 ss0) T (mkF m 312 #[z0, z1, z2, z3, z4, z5, z6, .val (.int x7), z8, z9, .val (.int x10), z11, z12, z13, z14, .val (.int x15), z16, z17] [(.int t0)]) := by
  obtain ⟨hx, hZ, hw, hby, hml, hown, hret, hlk, hnm⟩ := id C
  unfold f0_312 at hK
  refine o_istoreS (pc' := 314) (l' := #[z0, z1, z2, z3, z4, z5, z6, .val (.int x7), z8, z9, .val (.int x10), z11, z12, z13, z14, .val (.int x15), .val (.int t0), z17]) X hx (hb hby at_312) rfl hz16 rfl rfl ?_
  refine o_goto (pc' := 567) X hx (hb hby at_314) (by decide) (by decide) ?_
  exact b0_567 C x7 x10 x15 t0 X eT hz0 hz1 hz2 hz3 hz4 hz5 hz6 hz8 hz9 hz11 hz12 hz13 hz14 hz17 hK

def f0_311 (x7 : Int32) (x10 : Int32) (x15 : Int32) : Int32 := (f0_312 x7 x10 x15 (0 : Int32))
set_option maxRecDepth 65536 in
set_option maxHeartbeats 40000000 in
theorem b0_311 (C : own_Cx p s m meth c Z ag code maxLocals "com/example/ledgerline/ledgerline/cli/MessageLineUtf8LengthPinLaw" ret "law") {T : State} {h : Heap} {z0 : Slot} {z1 : Slot} {z2 : Slot} {z3 : Slot} {z4 : Slot} {z5 : Slot} {z6 : Slot} {z8 : Slot} {z9 : Slot} {z11 : Slot} {z12 : Slot} {z13 : Slot} {z14 : Slot} {z16 : Slot} {z17 : Slot} (x7 : Int32) (x10 : Int32) (x15 : Int32) (X : Stand p l e R0 s m args below meth c T [] 1 8) (eT : T.heap = h) (hz0 : One z0) (hz1 : One z1) (hz2 : One z2) (hz3 : One z3) (hz4 : One z4) (hz5 : One z5) (hz6 : One z6) (hz8 : One z8) (hz9 : One z9) (hz11 : One z11) (hz12 : One z12) (hz13 : One z13) (hz14 : One z14) (hz16 : One z16) (hz17 : One z17) (hK : ∀ h', K (some (.int (f0_311 x7 x10 x15))) h' []) : own_Go p e below (own_Q s K cc0 ss0) T (mkF m 311 #[z0, z1, z2, z3, z4, z5, z6, .val (.int x7), z8, z9, .val (.int x10), z11, z12, z13, z14, .val (.int x15), z16, z17] []) := by
  obtain ⟨hx, hZ, hw, hby, hml, hown, hret, hlk, hnm⟩ := id C
  unfold f0_311 at hK
  refine o_iconst (pc' := 312) (x := (0 : Int32)) X hx (hb hby at_311) (by decide) rfl ?_
  exact b0_312 C x7 x10 x15 (0 : Int32) X eT hz0 hz1 hz2 hz3 hz4 hz5 hz6 hz8 hz9 hz11 hz12 hz13 hz14 hz16 hz17 hK

def f0_276 (x7 : Int32) (x10 : Int32) (x12 : Int32) (x13 : Int32) : Int32 := (if (f2_0 x12 (128 : Int32) (191 : Int32)) = (0 : Int32) then (f0_311 x7 x10 (3 : Int32)) else (if (f2_0 x13 (128 : Int32) (191 : Int32)) = (0 : Int32) then (f0_311 x7 x10 (3 : Int32)) else (f0_312 x7 x10 (3 : Int32) (1 : Int32))))
set_option maxRecDepth 65536 in
set_option maxHeartbeats 40000000 in
theorem b0_276 (C : own_Cx p s m meth c Z ag code maxLocals "com/example/ledgerline/ledgerline/cli/MessageLineUtf8LengthPinLaw" ret "law") {T : State} {h : Heap} {z0 : Slot} {z1 : Slot} {z2 : Slot} {z3 : Slot} {z4 : Slot} {z5 : Slot} {z6 : Slot} {z8 : Slot} {z9 : Slot} {z11 : Slot} {z14 : Slot} {z15 : Slot} {z16 : Slot} {z17 : Slot} (x7 : Int32) (x10 : Int32) (x12 : Int32) (x13 : Int32) (X : Stand p l e R0 s m args below meth c T [] 1 8) (eT : T.heap = h) (hz0 : One z0) (hz1 : One z1) (hz2 : One z2) (hz3 : One z3) (hz4 : One z4) (hz5 : One z5) (hz6 : One z6) (hz8 : One z8) (hz9 : One z9) (hz11 : One z11) (hz14 : One z14) (hz15 : One z15) (hz16 : One z16) (hz17 : One z17) (hK : ∀ h', K (some (.int (f0_276 x7 x10 x12 x13))) h' []) : own_Go p e below (own_Q s K cc0 ss0) T (mkF m 276 #[z0, z1, z2, z3, z4, z5, z6, .val (.int x7), z8, z9, .val (.int x10), z11, .val (.int x12), .val (.int x13), z14, z15, z16, z17] []) := by
  obtain ⟨hx, hZ, hw, hby, hml, hown, hret, hlk, hnm⟩ := id C
  unfold f0_276 at hK
  refine o_iconst (pc' := 277) (x := (3 : Int32)) X hx (hb hby at_276) (by decide) rfl ?_
  refine o_istoreS (pc' := 279) (l' := #[z0, z1, z2, z3, z4, z5, z6, .val (.int x7), z8, z9, .val (.int x10), z11, .val (.int x12), .val (.int x13), z14, .val (.int (3 : Int32)), z16, z17]) X hx (hb hby at_277) rfl hz15 rfl rfl ?_
  refine o_iload (pc' := 281) X hx (hb hby at_279) rfl rfl ?_
  refine o_sipush (pc' := 284) (x := (128 : Int32)) X hx (hb hby at_281) (by decide) rfl ?_
  refine o_sipush (pc' := 287) (x := (191 : Int32)) X hx (hb hby at_284) (by decide) rfl ?_
  refine o_callP (W := 0) (pc' := 290) (argsL := [(.int x12), (.int (128 : Int32)), (.int (191 : Int32))]) (rest := []) (st' := [(.int (f2_0 x12 (128 : Int32) (191 : Int32)))]) X hx hZ eT hown (hw _ (List.mem_of_getElem? (i := 5) rfl)) (hw _ (List.mem_of_getElem? (i := 6) rfl)) (hw _ (List.mem_of_getElem? (i := 7) rfl)) (hw _ (List.mem_of_getElem? (i := 8) rfl)) (by decide) (rm2 l Z ag hw [] x12 (128 : Int32) (191 : Int32) h) (by decide) (by decide) (by rw [hml]; rfl) pd_1 rfl rfl rfl rfl (hb hby at_287) rfl rfl rfl (by decide) (by decide) rfl fun T44 X44 e44 => ?_
  refine o_ifP (P := (f2_0 x12 (128 : Int32) (191 : Int32)) = (0 : Int32)) (pc1 := 311) (pc2 := 293) X44 hx XT.i0_eq_t XT.i0_eq_f (hb hby at_290) (by decide) (by decide) rfl (fun c45 => ?_) (fun c45 => ?_)
  · rw [if_pos c45] at hK
    exact b0_311 C x7 x10 (3 : Int32) X44 e44 hz0 hz1 hz2 hz3 hz4 hz5 hz6 hz8 hz9 hz11 (One.val rfl) (One.val rfl) hz14 hz16 hz17 hK
  · rw [if_neg c45] at hK
    refine o_iload (pc' := 295) X44 hx (hb hby at_293) rfl rfl ?_
    refine o_sipush (pc' := 298) (x := (128 : Int32)) X44 hx (hb hby at_295) (by decide) rfl ?_
    refine o_sipush (pc' := 301) (x := (191 : Int32)) X44 hx (hb hby at_298) (by decide) rfl ?_
    refine o_callP (W := 0) (pc' := 304) (argsL := [(.int x13), (.int (128 : Int32)), (.int (191 : Int32))]) (rest := []) (st' := [(.int (f2_0 x13 (128 : Int32) (191 : Int32)))]) X44 hx hZ e44 hown (hw _ (List.mem_of_getElem? (i := 5) rfl)) (hw _ (List.mem_of_getElem? (i := 6) rfl)) (hw _ (List.mem_of_getElem? (i := 7) rfl)) (hw _ (List.mem_of_getElem? (i := 8) rfl)) (by decide) (rm2 l Z ag hw [] x13 (128 : Int32) (191 : Int32) h) (by decide) (by decide) (by rw [hml]; rfl) pd_1 rfl rfl rfl rfl (hb hby at_301) rfl rfl rfl (by decide) (by decide) rfl fun T49 X49 e49 => ?_
    refine o_ifP (P := (f2_0 x13 (128 : Int32) (191 : Int32)) = (0 : Int32)) (pc1 := 311) (pc2 := 307) X49 hx XT.i0_eq_t XT.i0_eq_f (hb hby at_304) (by decide) (by decide) rfl (fun c50 => ?_) (fun c50 => ?_)
    · rw [if_pos c50] at hK
      exact b0_311 C x7 x10 (3 : Int32) X49 e49 hz0 hz1 hz2 hz3 hz4 hz5 hz6 hz8 hz9 hz11 (One.val rfl) (One.val rfl) hz14 hz16 hz17 hK
    · rw [if_neg c50] at hK
      refine o_iconst (pc' := 308) (x := (1 : Int32)) X49 hx (hb hby at_307) (by decide) rfl ?_
      refine o_goto (pc' := 312) X49 hx (hb hby at_308) (by decide) (by decide) ?_
      exact b0_312 C x7 x10 (3 : Int32) (1 : Int32) X49 e49 hz0 hz1 hz2 hz3 hz4 hz5 hz6 hz8 hz9 hz11 (One.val rfl) (One.val rfl) hz14 hz16 hz17 hK

def f0_556 (x7 : Int32) (x10 : Int32) (x15 : Int32) (t0 : Int32) : Int32 := (f0_567 x7 x10 x15 t0)
set_option maxRecDepth 65536 in
set_option maxHeartbeats 40000000 in
theorem b0_556 (C : own_Cx p s m meth c Z ag code maxLocals "com/example/ledgerline/ledgerline/cli/MessageLineUtf8LengthPinLaw" ret "law") {T : State} {h : Heap} {z0 : Slot} {z1 : Slot} {z2 : Slot} {z3 : Slot} {z4 : Slot} {z5 : Slot} {z6 : Slot} {z8 : Slot} {z9 : Slot} {z11 : Slot} {z12 : Slot} {z13 : Slot} {z14 : Slot} {z16 : Slot} {z17 : Slot} (x7 : Int32) (x10 : Int32) (x15 : Int32) (t0 : Int32) (X : Stand p l e R0 s m args below meth c T [] 1 8) (eT : T.heap = h) (hz0 : One z0) (hz1 : One z1) (hz2 : One z2) (hz3 : One z3) (hz4 : One z4) (hz5 : One z5) (hz6 : One z6) (hz8 : One z8) (hz9 : One z9) (hz11 : One z11) (hz12 : One z12) (hz13 : One z13) (hz14 : One z14) (hz16 : One z16) (hz17 : One z17) (hK : ∀ h', K (some (.int (f0_556 x7 x10 x15 t0))) h' []) : own_Go p e below (own_Q s K cc0 ss0) T (mkF m 556 #[z0, z1, z2, z3, z4, z5, z6, .val (.int x7), z8, z9, .val (.int x10), z11, z12, z13, z14, .val (.int x15), z16, z17] [(.int t0)]) := by
  obtain ⟨hx, hZ, hw, hby, hml, hown, hret, hlk, hnm⟩ := id C
  unfold f0_556 at hK
  refine o_istoreS (pc' := 558) (l' := #[z0, z1, z2, z3, z4, z5, z6, .val (.int x7), z8, z9, .val (.int x10), z11, z12, z13, z14, .val (.int x15), .val (.int t0), z17]) X hx (hb hby at_556) rfl hz16 rfl rfl ?_
  refine o_goto (pc' := 567) X hx (hb hby at_558) (by decide) (by decide) ?_
  exact b0_567 C x7 x10 x15 t0 X eT hz0 hz1 hz2 hz3 hz4 hz5 hz6 hz8 hz9 hz11 hz12 hz13 hz14 hz17 hK

def f0_555 (x7 : Int32) (x10 : Int32) (x15 : Int32) : Int32 := (f0_556 x7 x10 x15 (0 : Int32))
set_option maxRecDepth 65536 in
set_option maxHeartbeats 40000000 in
theorem b0_555 (C : own_Cx p s m meth c Z ag code maxLocals "com/example/ledgerline/ledgerline/cli/MessageLineUtf8LengthPinLaw" ret "law") {T : State} {h : Heap} {z0 : Slot} {z1 : Slot} {z2 : Slot} {z3 : Slot} {z4 : Slot} {z5 : Slot} {z6 : Slot} {z8 : Slot} {z9 : Slot} {z11 : Slot} {z12 : Slot} {z13 : Slot} {z14 : Slot} {z16 : Slot} {z17 : Slot} (x7 : Int32) (x10 : Int32) (x15 : Int32) (X : Stand p l e R0 s m args below meth c T [] 1 8) (eT : T.heap = h) (hz0 : One z0) (hz1 : One z1) (hz2 : One z2) (hz3 : One z3) (hz4 : One z4) (hz5 : One z5) (hz6 : One z6) (hz8 : One z8) (hz9 : One z9) (hz11 : One z11) (hz12 : One z12) (hz13 : One z13) (hz14 : One z14) (hz16 : One z16) (hz17 : One z17) (hK : ∀ h', K (some (.int (f0_555 x7 x10 x15))) h' []) : own_Go p e below (own_Q s K cc0 ss0) T (mkF m 555 #[z0, z1, z2, z3, z4, z5, z6, .val (.int x7), z8, z9, .val (.int x10), z11, z12, z13, z14, .val (.int x15), z16, z17] []) := by
  obtain ⟨hx, hZ, hw, hby, hml, hown, hret, hlk, hnm⟩ := id C
  unfold f0_555 at hK
  refine o_iconst (pc' := 556) (x := (0 : Int32)) X hx (hb hby at_555) (by decide) rfl ?_
  exact b0_556 C x7 x10 x15 (0 : Int32) X eT hz0 hz1 hz2 hz3 hz4 hz5 hz6 hz8 hz9 hz11 hz12 hz13 hz14 hz16 hz17 hK

def f0_493 (x7 : Int32) (x10 : Int32) (x15 : Int32) (t0 : Int32) : Int32 := (f0_567 x7 x10 x15 t0)
set_option maxRecDepth 65536 in
set_option maxHeartbeats 40000000 in
theorem b0_493 (C : own_Cx p s m meth c Z ag code maxLocals "com/example/ledgerline/ledgerline/cli/MessageLineUtf8LengthPinLaw" ret "law") {T : State} {h : Heap} {z0 : Slot} {z1 : Slot} {z2 : Slot} {z3 : Slot} {z4 : Slot} {z5 : Slot} {z6 : Slot} {z8 : Slot} {z9 : Slot} {z11 : Slot} {z12 : Slot} {z13 : Slot} {z14 : Slot} {z16 : Slot} {z17 : Slot} (x7 : Int32) (x10 : Int32) (x15 : Int32) (t0 : Int32) (X : Stand p l e R0 s m args below meth c T [] 1 8) (eT : T.heap = h) (hz0 : One z0) (hz1 : One z1) (hz2 : One z2) (hz3 : One z3) (hz4 : One z4) (hz5 : One z5) (hz6 : One z6) (hz8 : One z8) (hz9 : One z9) (hz11 : One z11) (hz12 : One z12) (hz13 : One z13) (hz14 : One z14) (hz16 : One z16) (hz17 : One z17) (hK : ∀ h', K (some (.int (f0_493 x7 x10 x15 t0))) h' []) : own_Go p e below (own_Q s K cc0 ss0) T (mkF m 493 #[z0, z1, z2, z3, z4, z5, z6, .val (.int x7), z8, z9, .val (.int x10), z11, z12, z13, z14, .val (.int x15), z16, z17] [(.int t0)]) := by
  obtain ⟨hx, hZ, hw, hby, hml, hown, hret, hlk, hnm⟩ := id C
  unfold f0_493 at hK
  refine o_istoreS (pc' := 495) (l' := #[z0, z1, z2, z3, z4, z5, z6, .val (.int x7), z8, z9, .val (.int x10), z11, z12, z13, z14, .val (.int x15), .val (.int t0), z17]) X hx (hb hby at_493) rfl hz16 rfl rfl ?_
  refine o_goto (pc' := 567) X hx (hb hby at_495) (by decide) (by decide) ?_
  exact b0_567 C x7 x10 x15 t0 X eT hz0 hz1 hz2 hz3 hz4 hz5 hz6 hz8 hz9 hz11 hz12 hz13 hz14 hz17 hK

def f0_492 (x7 : Int32) (x10 : Int32) (x15 : Int32) : Int32 := (f0_493 x7 x10 x15 (0 : Int32))
set_option maxRecDepth 65536 in
set_option maxHeartbeats 40000000 in
theorem b0_492 (C : own_Cx p s m meth c Z ag code maxLocals "com/example/ledgerline/ledgerline/cli/MessageLineUtf8LengthPinLaw" ret "law") {T : State} {h : Heap} {z0 : Slot} {z1 : Slot} {z2 : Slot} {z3 : Slot} {z4 : Slot} {z5 : Slot} {z6 : Slot} {z8 : Slot} {z9 : Slot} {z11 : Slot} {z12 : Slot} {z13 : Slot} {z14 : Slot} {z16 : Slot} {z17 : Slot} (x7 : Int32) (x10 : Int32) (x15 : Int32) (X : Stand p l e R0 s m args below meth c T [] 1 8) (eT : T.heap = h) (hz0 : One z0) (hz1 : One z1) (hz2 : One z2) (hz3 : One z3) (hz4 : One z4) (hz5 : One z5) (hz6 : One z6) (hz8 : One z8) (hz9 : One z9) (hz11 : One z11) (hz12 : One z12) (hz13 : One z13) (hz14 : One z14) (hz16 : One z16) (hz17 : One z17) (hK : ∀ h', K (some (.int (f0_492 x7 x10 x15))) h' []) : own_Go p e below (own_Q s K cc0 ss0) T (mkF m 492 #[z0, z1, z2, z3, z4, z5, z6, .val (.int x7), z8, z9, .val (.int x10), z11, z12, z13, z14, .val (.int x15), z16, z17] []) := by
  obtain ⟨hx, hZ, hw, hby, hml, hown, hret, hlk, hnm⟩ := id C
  unfold f0_492 at hK
  refine o_iconst (pc' := 493) (x := (0 : Int32)) X hx (hb hby at_492) (by decide) rfl ?_
  exact b0_493 C x7 x10 x15 (0 : Int32) X eT hz0 hz1 hz2 hz3 hz4 hz5 hz6 hz8 hz9 hz11 hz12 hz13 hz14 hz16 hz17 hK

def f0_424 (x7 : Int32) (x10 : Int32) (x15 : Int32) (t0 : Int32) : Int32 := (f0_567 x7 x10 x15 t0)
set_option maxRecDepth 65536 in
set_option maxHeartbeats 40000000 in
theorem b0_424 (C : own_Cx p s m meth c Z ag code maxLocals "com/example/ledgerline/ledgerline/cli/MessageLineUtf8LengthPinLaw" ret "law") {T : State} {h : Heap} {z0 : Slot} {z1 : Slot} {z2 : Slot} {z3 : Slot} {z4 : Slot} {z5 : Slot} {z6 : Slot} {z8 : Slot} {z9 : Slot} {z11 : Slot} {z12 : Slot} {z13 : Slot} {z14 : Slot} {z16 : Slot} {z17 : Slot} (x7 : Int32) (x10 : Int32) (x15 : Int32) (t0 : Int32) (X : Stand p l e R0 s m args below meth c T [] 1 8) (eT : T.heap = h) (hz0 : One z0) (hz1 : One z1) (hz2 : One z2) (hz3 : One z3) (hz4 : One z4) (hz5 : One z5) (hz6 : One z6) (hz8 : One z8) (hz9 : One z9) (hz11 : One z11) (hz12 : One z12) (hz13 : One z13) (hz14 : One z14) (hz16 : One z16) (hz17 : One z17) (hK : ∀ h', K (some (.int (f0_424 x7 x10 x15 t0))) h' []) : own_Go p e below (own_Q s K cc0 ss0) T (mkF m 424 #[z0, z1, z2, z3, z4, z5, z6, .val (.int x7), z8, z9, .val (.int x10), z11, z12, z13, z14, .val (.int x15), z16, z17] [(.int t0)]) := by
  obtain ⟨hx, hZ, hw, hby, hml, hown, hret, hlk, hnm⟩ := id C
  unfold f0_424 at hK
  refine o_istoreS (pc' := 426) (l' := #[z0, z1, z2, z3, z4, z5, z6, .val (.int x7), z8, z9, .val (.int x10), z11, z12, z13, z14, .val (.int x15), .val (.int t0), z17]) X hx (hb hby at_424) rfl hz16 rfl rfl ?_
  refine o_goto (pc' := 567) X hx (hb hby at_426) (by decide) (by decide) ?_
  exact b0_567 C x7 x10 x15 t0 X eT hz0 hz1 hz2 hz3 hz4 hz5 hz6 hz8 hz9 hz11 hz12 hz13 hz14 hz17 hK

def f0_423 (x7 : Int32) (x10 : Int32) (x15 : Int32) : Int32 := (f0_424 x7 x10 x15 (0 : Int32))
set_option maxRecDepth 65536 in
set_option maxHeartbeats 40000000 in
theorem b0_423 (C : own_Cx p s m meth c Z ag code maxLocals "com/example/ledgerline/ledgerline/cli/MessageLineUtf8LengthPinLaw" ret "law") {T : State} {h : Heap} {z0 : Slot} {z1 : Slot} {z2 : Slot} {z3 : Slot} {z4 : Slot} {z5 : Slot} {z6 : Slot} {z8 : Slot} {z9 : Slot} {z11 : Slot} {z12 : Slot} {z13 : Slot} {z14 : Slot} {z16 : Slot} {z17 : Slot} (x7 : Int32) (x10 : Int32) (x15 : Int32) (X : Stand p l e R0 s m args below meth c T [] 1 8) (eT : T.heap = h) (hz0 : One z0) (hz1 : One z1) (hz2 : One z2) (hz3 : One z3) (hz4 : One z4) (hz5 : One z5) (hz6 : One z6) (hz8 : One z8) (hz9 : One z9) (hz11 : One z11) (hz12 : One z12) (hz13 : One z13) (hz14 : One z14) (hz16 : One z16) (hz17 : One z17) (hK : ∀ h', K (some (.int (f0_423 x7 x10 x15))) h' []) : own_Go p e below (own_Q s K cc0 ss0) T (mkF m 423 #[z0, z1, z2, z3, z4, z5, z6, .val (.int x7), z8, z9, .val (.int x10), z11, z12, z13, z14, .val (.int x15), z16, z17] []) := by
  obtain ⟨hx, hZ, hw, hby, hml, hown, hret, hlk, hnm⟩ := id C
  unfold f0_423 at hK
  refine o_iconst (pc' := 424) (x := (0 : Int32)) X hx (hb hby at_423) (by decide) rfl ?_
  exact b0_424 C x7 x10 x15 (0 : Int32) X eT hz0 hz1 hz2 hz3 hz4 hz5 hz6 hz8 hz9 hz11 hz12 hz13 hz14 hz16 hz17 hK

def f0_361 (x7 : Int32) (x10 : Int32) (x15 : Int32) (t0 : Int32) : Int32 := (f0_567 x7 x10 x15 t0)
set_option maxRecDepth 65536 in
set_option maxHeartbeats 40000000 in
theorem b0_361 (C : own_Cx p s m meth c Z ag code maxLocals "com/example/ledgerline/ledgerline/cli/MessageLineUtf8LengthPinLaw" ret "law") {T : State} {h : Heap} {z0 : Slot} {z1 : Slot} {z2 : Slot} {z3 : Slot} {z4 : Slot} {z5 : Slot} {z6 : Slot} {z8 : Slot} {z9 : Slot} {z11 : Slot} {z12 : Slot} {z13 : Slot} {z14 : Slot} {z16 : Slot} {z17 : Slot} (x7 : Int32) (x10 : Int32) (x15 : Int32) (t0 : Int32) (X : Stand p l e R0 s m args below meth c T [] 1 8) (eT : T.heap = h) (hz0 : One z0) (hz1 : One z1) (hz2 : One z2) (hz3 : One z3) (hz4 : One z4) (hz5 : One z5) (hz6 : One z6) (hz8 : One z8) (hz9 : One z9) (hz11 : One z11) (hz12 : One z12) (hz13 : One z13) (hz14 : One z14) (hz16 : One z16) (hz17 : One z17) (hK : ∀ h', K (some (.int (f0_361 x7 x10 x15 t0))) h' []) : own_Go p e below (own_Q s K cc0 ss0) T (mkF m 361 #[z0, z1, z2, z3, z4, z5, z6, .val (.int x7), z8, z9, .val (.int x10), z11, z12, z13, z14, .val (.int x15), z16, z17] [(.int t0)]) := by
  obtain ⟨hx, hZ, hw, hby, hml, hown, hret, hlk, hnm⟩ := id C
  unfold f0_361 at hK
  refine o_istoreS (pc' := 363) (l' := #[z0, z1, z2, z3, z4, z5, z6, .val (.int x7), z8, z9, .val (.int x10), z11, z12, z13, z14, .val (.int x15), .val (.int t0), z17]) X hx (hb hby at_361) rfl hz16 rfl rfl ?_
  refine o_goto (pc' := 567) X hx (hb hby at_363) (by decide) (by decide) ?_
  exact b0_567 C x7 x10 x15 t0 X eT hz0 hz1 hz2 hz3 hz4 hz5 hz6 hz8 hz9 hz11 hz12 hz13 hz14 hz17 hK

def f0_360 (x7 : Int32) (x10 : Int32) (x15 : Int32) : Int32 := (f0_361 x7 x10 x15 (0 : Int32))
set_option maxRecDepth 65536 in
set_option maxHeartbeats 40000000 in
theorem b0_360 (C : own_Cx p s m meth c Z ag code maxLocals "com/example/ledgerline/ledgerline/cli/MessageLineUtf8LengthPinLaw" ret "law") {T : State} {h : Heap} {z0 : Slot} {z1 : Slot} {z2 : Slot} {z3 : Slot} {z4 : Slot} {z5 : Slot} {z6 : Slot} {z8 : Slot} {z9 : Slot} {z11 : Slot} {z12 : Slot} {z13 : Slot} {z14 : Slot} {z16 : Slot} {z17 : Slot} (x7 : Int32) (x10 : Int32) (x15 : Int32) (X : Stand p l e R0 s m args below meth c T [] 1 8) (eT : T.heap = h) (hz0 : One z0) (hz1 : One z1) (hz2 : One z2) (hz3 : One z3) (hz4 : One z4) (hz5 : One z5) (hz6 : One z6) (hz8 : One z8) (hz9 : One z9) (hz11 : One z11) (hz12 : One z12) (hz13 : One z13) (hz14 : One z14) (hz16 : One z16) (hz17 : One z17) (hK : ∀ h', K (some (.int (f0_360 x7 x10 x15))) h' []) : own_Go p e below (own_Q s K cc0 ss0) T (mkF m 360 #[z0, z1, z2, z3, z4, z5, z6, .val (.int x7), z8, z9, .val (.int x10), z11, z12, z13, z14, .val (.int x15), z16, z17] []) := by
  obtain ⟨hx, hZ, hw, hby, hml, hown, hret, hlk, hnm⟩ := id C
  unfold f0_360 at hK
  refine o_iconst (pc' := 361) (x := (0 : Int32)) X hx (hb hby at_360) (by decide) rfl ?_
  exact b0_361 C x7 x10 x15 (0 : Int32) X eT hz0 hz1 hz2 hz3 hz4 hz5 hz6 hz8 hz9 hz11 hz12 hz13 hz14 hz16 hz17 hK

def f0_241 (x7 : Int32) (x10 : Int32) (x15 : Int32) (t0 : Int32) : Int32 := (f0_567 x7 x10 x15 t0)
set_option maxRecDepth 65536 in
set_option maxHeartbeats 40000000 in
theorem b0_241 (C : own_Cx p s m meth c Z ag code maxLocals "com/example/ledgerline/ledgerline/cli/MessageLineUtf8LengthPinLaw" ret "law") {T : State} {h : Heap} {z0 : Slot} {z1 : Slot} {z2 : Slot} {z3 : Slot} {z4 : Slot} {z5 : Slot} {z6 : Slot} {z8 : Slot} {z9 : Slot} {z11 : Slot} {z12 : Slot} {z13 : Slot} {z14 : Slot} {z16 : Slot} {z17 : Slot} (x7 : Int32) (x10 : Int32) (x15 : Int32) (t0 : Int32) (X : Stand p l e R0 s m args below meth c T [] 1 8) (eT : T.heap = h) (hz0 : One z0) (hz1 : One z1) (hz2 : One z2) (hz3 : One z3) (hz4 : One z4) (hz5 : One z5) (hz6 : One z6) (hz8 : One z8) (hz9 : One z9) (hz11 : One z11) (hz12 : One z12) (hz13 : One z13) (hz14 : One z14) (hz16 : One z16) (hz17 : One z17) (hK : ∀ h', K (some (.int (f0_241 x7 x10 x15 t0))) h' []) : own_Go p e below (own_Q s K cc0 ss0) T (mkF m 241 #[z0, z1, z2, z3, z4, z5, z6, .val (.int x7), z8, z9, .val (.int x10), z11, z12, z13, z14, .val (.int x15), z16, z17] [(.int t0)]) := by
  obtain ⟨hx, hZ, hw, hby, hml, hown, hret, hlk, hnm⟩ := id C
  unfold f0_241 at hK
  refine o_istoreS (pc' := 243) (l' := #[z0, z1, z2, z3, z4, z5, z6, .val (.int x7), z8, z9, .val (.int x10), z11, z12, z13, z14, .val (.int x15), .val (.int t0), z17]) X hx (hb hby at_241) rfl hz16 rfl rfl ?_
  refine o_goto (pc' := 567) X hx (hb hby at_243) (by decide) (by decide) ?_
  exact b0_567 C x7 x10 x15 t0 X eT hz0 hz1 hz2 hz3 hz4 hz5 hz6 hz8 hz9 hz11 hz12 hz13 hz14 hz17 hK

def f0_240 (x7 : Int32) (x10 : Int32) (x15 : Int32) : Int32 := (f0_241 x7 x10 x15 (0 : Int32))
set_option maxRecDepth 65536 in
set_option maxHeartbeats 40000000 in
theorem b0_240 (C : own_Cx p s m meth c Z ag code maxLocals "com/example/ledgerline/ledgerline/cli/MessageLineUtf8LengthPinLaw" ret "law") {T : State} {h : Heap} {z0 : Slot} {z1 : Slot} {z2 : Slot} {z3 : Slot} {z4 : Slot} {z5 : Slot} {z6 : Slot} {z8 : Slot} {z9 : Slot} {z11 : Slot} {z12 : Slot} {z13 : Slot} {z14 : Slot} {z16 : Slot} {z17 : Slot} (x7 : Int32) (x10 : Int32) (x15 : Int32) (X : Stand p l e R0 s m args below meth c T [] 1 8) (eT : T.heap = h) (hz0 : One z0) (hz1 : One z1) (hz2 : One z2) (hz3 : One z3) (hz4 : One z4) (hz5 : One z5) (hz6 : One z6) (hz8 : One z8) (hz9 : One z9) (hz11 : One z11) (hz12 : One z12) (hz13 : One z13) (hz14 : One z14) (hz16 : One z16) (hz17 : One z17) (hK : ∀ h', K (some (.int (f0_240 x7 x10 x15))) h' []) : own_Go p e below (own_Q s K cc0 ss0) T (mkF m 240 #[z0, z1, z2, z3, z4, z5, z6, .val (.int x7), z8, z9, .val (.int x10), z11, z12, z13, z14, .val (.int x15), z16, z17] []) := by
  obtain ⟨hx, hZ, hw, hby, hml, hown, hret, hlk, hnm⟩ := id C
  unfold f0_240 at hK
  refine o_iconst (pc' := 241) (x := (0 : Int32)) X hx (hb hby at_240) (by decide) rfl ?_
  exact b0_241 C x7 x10 x15 (0 : Int32) X eT hz0 hz1 hz2 hz3 hz4 hz5 hz6 hz8 hz9 hz11 hz12 hz13 hz14 hz16 hz17 hK

def f0_0 (p0 : Int32) (p1 : Int32) (p2 : Int32) (p3 : Int32) (p4 : Int32) (p5 : Int32) : Int32 := (if (127 : Int32) < (p0 &&& (255 : Int32)) then (if (f2_0 (p0 &&& (255 : Int32)) (194 : Int32) (223 : Int32)) = (0 : Int32) then (if (p0 &&& (255 : Int32)) = (224 : Int32) then (if (f2_0 (p1 &&& (255 : Int32)) (160 : Int32) (191 : Int32)) = (0 : Int32) then (f0_240 ((1 : Int32) + (own_rem ((own_ushr p4 (2 : Int32)) &&& (7 : Int32)) (5 : Int32))) (f1_0 (own_set (own_set (own_set (own_set [(own_i2b (own_i2b p5)), (own_i2b (own_i2b p5)), (own_i2b (own_i2b p5)), (own_i2b (own_i2b p5)), (own_i2b (own_i2b p5)), (own_i2b (own_i2b p5)), (own_i2b (own_i2b p5)), (own_i2b (own_i2b p5))] (p4 &&& (3 : Int32)) (own_i2b (own_i2b p0))) ((p4 &&& (3 : Int32)) + (1 : Int32)) (own_i2b (own_i2b p1))) ((p4 &&& (3 : Int32)) + (2 : Int32)) (own_i2b (own_i2b p2))) ((p4 &&& (3 : Int32)) + (3 : Int32)) (own_i2b (own_i2b p3))) (p4 &&& (3 : Int32)) ((p4 &&& (3 : Int32)) + ((1 : Int32) + (own_rem ((own_ushr p4 (2 : Int32)) &&& (7 : Int32)) (5 : Int32))))) (3 : Int32)) else (if (f2_0 (p2 &&& (255 : Int32)) (128 : Int32) (191 : Int32)) = (0 : Int32) then (f0_240 ((1 : Int32) + (own_rem ((own_ushr p4 (2 : Int32)) &&& (7 : Int32)) (5 : Int32))) (f1_0 (own_set (own_set (own_set (own_set [(own_i2b (own_i2b p5)), (own_i2b (own_i2b p5)), (own_i2b (own_i2b p5)), (own_i2b (own_i2b p5)), (own_i2b (own_i2b p5)), (own_i2b (own_i2b p5)), (own_i2b (own_i2b p5)), (own_i2b (own_i2b p5))] (p4 &&& (3 : Int32)) (own_i2b (own_i2b p0))) ((p4 &&& (3 : Int32)) + (1 : Int32)) (own_i2b (own_i2b p1))) ((p4 &&& (3 : Int32)) + (2 : Int32)) (own_i2b (own_i2b p2))) ((p4 &&& (3 : Int32)) + (3 : Int32)) (own_i2b (own_i2b p3))) (p4 &&& (3 : Int32)) ((p4 &&& (3 : Int32)) + ((1 : Int32) + (own_rem ((own_ushr p4 (2 : Int32)) &&& (7 : Int32)) (5 : Int32))))) (3 : Int32)) else (f0_241 ((1 : Int32) + (own_rem ((own_ushr p4 (2 : Int32)) &&& (7 : Int32)) (5 : Int32))) (f1_0 (own_set (own_set (own_set (own_set [(own_i2b (own_i2b p5)), (own_i2b (own_i2b p5)), (own_i2b (own_i2b p5)), (own_i2b (own_i2b p5)), (own_i2b (own_i2b p5)), (own_i2b (own_i2b p5)), (own_i2b (own_i2b p5)), (own_i2b (own_i2b p5))] (p4 &&& (3 : Int32)) (own_i2b (own_i2b p0))) ((p4 &&& (3 : Int32)) + (1 : Int32)) (own_i2b (own_i2b p1))) ((p4 &&& (3 : Int32)) + (2 : Int32)) (own_i2b (own_i2b p2))) ((p4 &&& (3 : Int32)) + (3 : Int32)) (own_i2b (own_i2b p3))) (p4 &&& (3 : Int32)) ((p4 &&& (3 : Int32)) + ((1 : Int32) + (own_rem ((own_ushr p4 (2 : Int32)) &&& (7 : Int32)) (5 : Int32))))) (3 : Int32) (1 : Int32)))) else (if (f2_0 (p0 &&& (255 : Int32)) (225 : Int32) (236 : Int32)) = (0 : Int32) then (if (p0 &&& (255 : Int32)) = (238 : Int32) then (f0_276 ((1 : Int32) + (own_rem ((own_ushr p4 (2 : Int32)) &&& (7 : Int32)) (5 : Int32))) (f1_0 (own_set (own_set (own_set (own_set [(own_i2b (own_i2b p5)), (own_i2b (own_i2b p5)), (own_i2b (own_i2b p5)), (own_i2b (own_i2b p5)), (own_i2b (own_i2b p5)), (own_i2b (own_i2b p5)), (own_i2b (own_i2b p5)), (own_i2b (own_i2b p5))] (p4 &&& (3 : Int32)) (own_i2b (own_i2b p0))) ((p4 &&& (3 : Int32)) + (1 : Int32)) (own_i2b (own_i2b p1))) ((p4 &&& (3 : Int32)) + (2 : Int32)) (own_i2b (own_i2b p2))) ((p4 &&& (3 : Int32)) + (3 : Int32)) (own_i2b (own_i2b p3))) (p4 &&& (3 : Int32)) ((p4 &&& (3 : Int32)) + ((1 : Int32) + (own_rem ((own_ushr p4 (2 : Int32)) &&& (7 : Int32)) (5 : Int32))))) (p1 &&& (255 : Int32)) (p2 &&& (255 : Int32))) else (if (p0 &&& (255 : Int32)) = (239 : Int32) then (f0_276 ((1 : Int32) + (own_rem ((own_ushr p4 (2 : Int32)) &&& (7 : Int32)) (5 : Int32))) (f1_0 (own_set (own_set (own_set (own_set [(own_i2b (own_i2b p5)), (own_i2b (own_i2b p5)), (own_i2b (own_i2b p5)), (own_i2b (own_i2b p5)), (own_i2b (own_i2b p5)), (own_i2b (own_i2b p5)), (own_i2b (own_i2b p5)), (own_i2b (own_i2b p5))] (p4 &&& (3 : Int32)) (own_i2b (own_i2b p0))) ((p4 &&& (3 : Int32)) + (1 : Int32)) (own_i2b (own_i2b p1))) ((p4 &&& (3 : Int32)) + (2 : Int32)) (own_i2b (own_i2b p2))) ((p4 &&& (3 : Int32)) + (3 : Int32)) (own_i2b (own_i2b p3))) (p4 &&& (3 : Int32)) ((p4 &&& (3 : Int32)) + ((1 : Int32) + (own_rem ((own_ushr p4 (2 : Int32)) &&& (7 : Int32)) (5 : Int32))))) (p1 &&& (255 : Int32)) (p2 &&& (255 : Int32))) else (if (p0 &&& (255 : Int32)) = (237 : Int32) then (if (f2_0 (p1 &&& (255 : Int32)) (128 : Int32) (159 : Int32)) = (0 : Int32) then (f0_360 ((1 : Int32) + (own_rem ((own_ushr p4 (2 : Int32)) &&& (7 : Int32)) (5 : Int32))) (f1_0 (own_set (own_set (own_set (own_set [(own_i2b (own_i2b p5)), (own_i2b (own_i2b p5)), (own_i2b (own_i2b p5)), (own_i2b (own_i2b p5)), (own_i2b (own_i2b p5)), (own_i2b (own_i2b p5)), (own_i2b (own_i2b p5)), (own_i2b (own_i2b p5))] (p4 &&& (3 : Int32)) (own_i2b (own_i2b p0))) ((p4 &&& (3 : Int32)) + (1 : Int32)) (own_i2b (own_i2b p1))) ((p4 &&& (3 : Int32)) + (2 : Int32)) (own_i2b (own_i2b p2))) ((p4 &&& (3 : Int32)) + (3 : Int32)) (own_i2b (own_i2b p3))) (p4 &&& (3 : Int32)) ((p4 &&& (3 : Int32)) + ((1 : Int32) + (own_rem ((own_ushr p4 (2 : Int32)) &&& (7 : Int32)) (5 : Int32))))) (3 : Int32)) else (if (f2_0 (p2 &&& (255 : Int32)) (128 : Int32) (191 : Int32)) = (0 : Int32) then (f0_360 ((1 : Int32) + (own_rem ((own_ushr p4 (2 : Int32)) &&& (7 : Int32)) (5 : Int32))) (f1_0 (own_set (own_set (own_set (own_set [(own_i2b (own_i2b p5)), (own_i2b (own_i2b p5)), (own_i2b (own_i2b p5)), (own_i2b (own_i2b p5)), (own_i2b (own_i2b p5)), (own_i2b (own_i2b p5)), (own_i2b (own_i2b p5)), (own_i2b (own_i2b p5))] (p4 &&& (3 : Int32)) (own_i2b (own_i2b p0))) ((p4 &&& (3 : Int32)) + (1 : Int32)) (own_i2b (own_i2b p1))) ((p4 &&& (3 : Int32)) + (2 : Int32)) (own_i2b (own_i2b p2))) ((p4 &&& (3 : Int32)) + (3 : Int32)) (own_i2b (own_i2b p3))) (p4 &&& (3 : Int32)) ((p4 &&& (3 : Int32)) + ((1 : Int32) + (own_rem ((own_ushr p4 (2 : Int32)) &&& (7 : Int32)) (5 : Int32))))) (3 : Int32)) else (f0_361 ((1 : Int32) + (own_rem ((own_ushr p4 (2 : Int32)) &&& (7 : Int32)) (5 : Int32))) (f1_0 (own_set (own_set (own_set (own_set [(own_i2b (own_i2b p5)), (own_i2b (own_i2b p5)), (own_i2b (own_i2b p5)), (own_i2b (own_i2b p5)), (own_i2b (own_i2b p5)), (own_i2b (own_i2b p5)), (own_i2b (own_i2b p5)), (own_i2b (own_i2b p5))] (p4 &&& (3 : Int32)) (own_i2b (own_i2b p0))) ((p4 &&& (3 : Int32)) + (1 : Int32)) (own_i2b (own_i2b p1))) ((p4 &&& (3 : Int32)) + (2 : Int32)) (own_i2b (own_i2b p2))) ((p4 &&& (3 : Int32)) + (3 : Int32)) (own_i2b (own_i2b p3))) (p4 &&& (3 : Int32)) ((p4 &&& (3 : Int32)) + ((1 : Int32) + (own_rem ((own_ushr p4 (2 : Int32)) &&& (7 : Int32)) (5 : Int32))))) (3 : Int32) (1 : Int32)))) else (if (p0 &&& (255 : Int32)) = (240 : Int32) then (if (f2_0 (p1 &&& (255 : Int32)) (144 : Int32) (191 : Int32)) = (0 : Int32) then (f0_423 ((1 : Int32) + (own_rem ((own_ushr p4 (2 : Int32)) &&& (7 : Int32)) (5 : Int32))) (f1_0 (own_set (own_set (own_set (own_set [(own_i2b (own_i2b p5)), (own_i2b (own_i2b p5)), (own_i2b (own_i2b p5)), (own_i2b (own_i2b p5)), (own_i2b (own_i2b p5)), (own_i2b (own_i2b p5)), (own_i2b (own_i2b p5)), (own_i2b (own_i2b p5))] (p4 &&& (3 : Int32)) (own_i2b (own_i2b p0))) ((p4 &&& (3 : Int32)) + (1 : Int32)) (own_i2b (own_i2b p1))) ((p4 &&& (3 : Int32)) + (2 : Int32)) (own_i2b (own_i2b p2))) ((p4 &&& (3 : Int32)) + (3 : Int32)) (own_i2b (own_i2b p3))) (p4 &&& (3 : Int32)) ((p4 &&& (3 : Int32)) + ((1 : Int32) + (own_rem ((own_ushr p4 (2 : Int32)) &&& (7 : Int32)) (5 : Int32))))) (4 : Int32)) else (if (f2_0 (p2 &&& (255 : Int32)) (128 : Int32) (191 : Int32)) = (0 : Int32) then (f0_423 ((1 : Int32) + (own_rem ((own_ushr p4 (2 : Int32)) &&& (7 : Int32)) (5 : Int32))) (f1_0 (own_set (own_set (own_set (own_set [(own_i2b (own_i2b p5)), (own_i2b (own_i2b p5)), (own_i2b (own_i2b p5)), (own_i2b (own_i2b p5)), (own_i2b (own_i2b p5)), (own_i2b (own_i2b p5)), (own_i2b (own_i2b p5)), (own_i2b (own_i2b p5))] (p4 &&& (3 : Int32)) (own_i2b (own_i2b p0))) ((p4 &&& (3 : Int32)) + (1 : Int32)) (own_i2b (own_i2b p1))) ((p4 &&& (3 : Int32)) + (2 : Int32)) (own_i2b (own_i2b p2))) ((p4 &&& (3 : Int32)) + (3 : Int32)) (own_i2b (own_i2b p3))) (p4 &&& (3 : Int32)) ((p4 &&& (3 : Int32)) + ((1 : Int32) + (own_rem ((own_ushr p4 (2 : Int32)) &&& (7 : Int32)) (5 : Int32))))) (4 : Int32)) else (if (f2_0 (p3 &&& (255 : Int32)) (128 : Int32) (191 : Int32)) = (0 : Int32) then (f0_423 ((1 : Int32) + (own_rem ((own_ushr p4 (2 : Int32)) &&& (7 : Int32)) (5 : Int32))) (f1_0 (own_set (own_set (own_set (own_set [(own_i2b (own_i2b p5)), (own_i2b (own_i2b p5)), (own_i2b (own_i2b p5)), (own_i2b (own_i2b p5)), (own_i2b (own_i2b p5)), (own_i2b (own_i2b p5)), (own_i2b (own_i2b p5)), (own_i2b (own_i2b p5))] (p4 &&& (3 : Int32)) (own_i2b (own_i2b p0))) ((p4 &&& (3 : Int32)) + (1 : Int32)) (own_i2b (own_i2b p1))) ((p4 &&& (3 : Int32)) + (2 : Int32)) (own_i2b (own_i2b p2))) ((p4 &&& (3 : Int32)) + (3 : Int32)) (own_i2b (own_i2b p3))) (p4 &&& (3 : Int32)) ((p4 &&& (3 : Int32)) + ((1 : Int32) + (own_rem ((own_ushr p4 (2 : Int32)) &&& (7 : Int32)) (5 : Int32))))) (4 : Int32)) else (f0_424 ((1 : Int32) + (own_rem ((own_ushr p4 (2 : Int32)) &&& (7 : Int32)) (5 : Int32))) (f1_0 (own_set (own_set (own_set (own_set [(own_i2b (own_i2b p5)), (own_i2b (own_i2b p5)), (own_i2b (own_i2b p5)), (own_i2b (own_i2b p5)), (own_i2b (own_i2b p5)), (own_i2b (own_i2b p5)), (own_i2b (own_i2b p5)), (own_i2b (own_i2b p5))] (p4 &&& (3 : Int32)) (own_i2b (own_i2b p0))) ((p4 &&& (3 : Int32)) + (1 : Int32)) (own_i2b (own_i2b p1))) ((p4 &&& (3 : Int32)) + (2 : Int32)) (own_i2b (own_i2b p2))) ((p4 &&& (3 : Int32)) + (3 : Int32)) (own_i2b (own_i2b p3))) (p4 &&& (3 : Int32)) ((p4 &&& (3 : Int32)) + ((1 : Int32) + (own_rem ((own_ushr p4 (2 : Int32)) &&& (7 : Int32)) (5 : Int32))))) (4 : Int32) (1 : Int32))))) else (if (f2_0 (p0 &&& (255 : Int32)) (241 : Int32) (243 : Int32)) = (0 : Int32) then (if (p0 &&& (255 : Int32)) = (244 : Int32) then (if (f2_0 (p1 &&& (255 : Int32)) (128 : Int32) (143 : Int32)) = (0 : Int32) then (f0_555 ((1 : Int32) + (own_rem ((own_ushr p4 (2 : Int32)) &&& (7 : Int32)) (5 : Int32))) (f1_0 (own_set (own_set (own_set (own_set [(own_i2b (own_i2b p5)), (own_i2b (own_i2b p5)), (own_i2b (own_i2b p5)), (own_i2b (own_i2b p5)), (own_i2b (own_i2b p5)), (own_i2b (own_i2b p5)), (own_i2b (own_i2b p5)), (own_i2b (own_i2b p5))] (p4 &&& (3 : Int32)) (own_i2b (own_i2b p0))) ((p4 &&& (3 : Int32)) + (1 : Int32)) (own_i2b (own_i2b p1))) ((p4 &&& (3 : Int32)) + (2 : Int32)) (own_i2b (own_i2b p2))) ((p4 &&& (3 : Int32)) + (3 : Int32)) (own_i2b (own_i2b p3))) (p4 &&& (3 : Int32)) ((p4 &&& (3 : Int32)) + ((1 : Int32) + (own_rem ((own_ushr p4 (2 : Int32)) &&& (7 : Int32)) (5 : Int32))))) (4 : Int32)) else (if (f2_0 (p2 &&& (255 : Int32)) (128 : Int32) (191 : Int32)) = (0 : Int32) then (f0_555 ((1 : Int32) + (own_rem ((own_ushr p4 (2 : Int32)) &&& (7 : Int32)) (5 : Int32))) (f1_0 (own_set (own_set (own_set (own_set [(own_i2b (own_i2b p5)), (own_i2b (own_i2b p5)), (own_i2b (own_i2b p5)), (own_i2b (own_i2b p5)), (own_i2b (own_i2b p5)), (own_i2b (own_i2b p5)), (own_i2b (own_i2b p5)), (own_i2b (own_i2b p5))] (p4 &&& (3 : Int32)) (own_i2b (own_i2b p0))) ((p4 &&& (3 : Int32)) + (1 : Int32)) (own_i2b (own_i2b p1))) ((p4 &&& (3 : Int32)) + (2 : Int32)) (own_i2b (own_i2b p2))) ((p4 &&& (3 : Int32)) + (3 : Int32)) (own_i2b (own_i2b p3))) (p4 &&& (3 : Int32)) ((p4 &&& (3 : Int32)) + ((1 : Int32) + (own_rem ((own_ushr p4 (2 : Int32)) &&& (7 : Int32)) (5 : Int32))))) (4 : Int32)) else (if (f2_0 (p3 &&& (255 : Int32)) (128 : Int32) (191 : Int32)) = (0 : Int32) then (f0_555 ((1 : Int32) + (own_rem ((own_ushr p4 (2 : Int32)) &&& (7 : Int32)) (5 : Int32))) (f1_0 (own_set (own_set (own_set (own_set [(own_i2b (own_i2b p5)), (own_i2b (own_i2b p5)), (own_i2b (own_i2b p5)), (own_i2b (own_i2b p5)), (own_i2b (own_i2b p5)), (own_i2b (own_i2b p5)), (own_i2b (own_i2b p5)), (own_i2b (own_i2b p5))] (p4 &&& (3 : Int32)) (own_i2b (own_i2b p0))) ((p4 &&& (3 : Int32)) + (1 : Int32)) (own_i2b (own_i2b p1))) ((p4 &&& (3 : Int32)) + (2 : Int32)) (own_i2b (own_i2b p2))) ((p4 &&& (3 : Int32)) + (3 : Int32)) (own_i2b (own_i2b p3))) (p4 &&& (3 : Int32)) ((p4 &&& (3 : Int32)) + ((1 : Int32) + (own_rem ((own_ushr p4 (2 : Int32)) &&& (7 : Int32)) (5 : Int32))))) (4 : Int32)) else (f0_556 ((1 : Int32) + (own_rem ((own_ushr p4 (2 : Int32)) &&& (7 : Int32)) (5 : Int32))) (f1_0 (own_set (own_set (own_set (own_set [(own_i2b (own_i2b p5)), (own_i2b (own_i2b p5)), (own_i2b (own_i2b p5)), (own_i2b (own_i2b p5)), (own_i2b (own_i2b p5)), (own_i2b (own_i2b p5)), (own_i2b (own_i2b p5)), (own_i2b (own_i2b p5))] (p4 &&& (3 : Int32)) (own_i2b (own_i2b p0))) ((p4 &&& (3 : Int32)) + (1 : Int32)) (own_i2b (own_i2b p1))) ((p4 &&& (3 : Int32)) + (2 : Int32)) (own_i2b (own_i2b p2))) ((p4 &&& (3 : Int32)) + (3 : Int32)) (own_i2b (own_i2b p3))) (p4 &&& (3 : Int32)) ((p4 &&& (3 : Int32)) + ((1 : Int32) + (own_rem ((own_ushr p4 (2 : Int32)) &&& (7 : Int32)) (5 : Int32))))) (4 : Int32) (1 : Int32))))) else (f0_567 ((1 : Int32) + (own_rem ((own_ushr p4 (2 : Int32)) &&& (7 : Int32)) (5 : Int32))) (f1_0 (own_set (own_set (own_set (own_set [(own_i2b (own_i2b p5)), (own_i2b (own_i2b p5)), (own_i2b (own_i2b p5)), (own_i2b (own_i2b p5)), (own_i2b (own_i2b p5)), (own_i2b (own_i2b p5)), (own_i2b (own_i2b p5)), (own_i2b (own_i2b p5))] (p4 &&& (3 : Int32)) (own_i2b (own_i2b p0))) ((p4 &&& (3 : Int32)) + (1 : Int32)) (own_i2b (own_i2b p1))) ((p4 &&& (3 : Int32)) + (2 : Int32)) (own_i2b (own_i2b p2))) ((p4 &&& (3 : Int32)) + (3 : Int32)) (own_i2b (own_i2b p3))) (p4 &&& (3 : Int32)) ((p4 &&& (3 : Int32)) + ((1 : Int32) + (own_rem ((own_ushr p4 (2 : Int32)) &&& (7 : Int32)) (5 : Int32))))) (0 : Int32) (0 : Int32))) else (if (f2_0 (p1 &&& (255 : Int32)) (128 : Int32) (191 : Int32)) = (0 : Int32) then (f0_492 ((1 : Int32) + (own_rem ((own_ushr p4 (2 : Int32)) &&& (7 : Int32)) (5 : Int32))) (f1_0 (own_set (own_set (own_set (own_set [(own_i2b (own_i2b p5)), (own_i2b (own_i2b p5)), (own_i2b (own_i2b p5)), (own_i2b (own_i2b p5)), (own_i2b (own_i2b p5)), (own_i2b (own_i2b p5)), (own_i2b (own_i2b p5)), (own_i2b (own_i2b p5))] (p4 &&& (3 : Int32)) (own_i2b (own_i2b p0))) ((p4 &&& (3 : Int32)) + (1 : Int32)) (own_i2b (own_i2b p1))) ((p4 &&& (3 : Int32)) + (2 : Int32)) (own_i2b (own_i2b p2))) ((p4 &&& (3 : Int32)) + (3 : Int32)) (own_i2b (own_i2b p3))) (p4 &&& (3 : Int32)) ((p4 &&& (3 : Int32)) + ((1 : Int32) + (own_rem ((own_ushr p4 (2 : Int32)) &&& (7 : Int32)) (5 : Int32))))) (4 : Int32)) else (if (f2_0 (p2 &&& (255 : Int32)) (128 : Int32) (191 : Int32)) = (0 : Int32) then (f0_492 ((1 : Int32) + (own_rem ((own_ushr p4 (2 : Int32)) &&& (7 : Int32)) (5 : Int32))) (f1_0 (own_set (own_set (own_set (own_set [(own_i2b (own_i2b p5)), (own_i2b (own_i2b p5)), (own_i2b (own_i2b p5)), (own_i2b (own_i2b p5)), (own_i2b (own_i2b p5)), (own_i2b (own_i2b p5)), (own_i2b (own_i2b p5)), (own_i2b (own_i2b p5))] (p4 &&& (3 : Int32)) (own_i2b (own_i2b p0))) ((p4 &&& (3 : Int32)) + (1 : Int32)) (own_i2b (own_i2b p1))) ((p4 &&& (3 : Int32)) + (2 : Int32)) (own_i2b (own_i2b p2))) ((p4 &&& (3 : Int32)) + (3 : Int32)) (own_i2b (own_i2b p3))) (p4 &&& (3 : Int32)) ((p4 &&& (3 : Int32)) + ((1 : Int32) + (own_rem ((own_ushr p4 (2 : Int32)) &&& (7 : Int32)) (5 : Int32))))) (4 : Int32)) else (if (f2_0 (p3 &&& (255 : Int32)) (128 : Int32) (191 : Int32)) = (0 : Int32) then (f0_492 ((1 : Int32) + (own_rem ((own_ushr p4 (2 : Int32)) &&& (7 : Int32)) (5 : Int32))) (f1_0 (own_set (own_set (own_set (own_set [(own_i2b (own_i2b p5)), (own_i2b (own_i2b p5)), (own_i2b (own_i2b p5)), (own_i2b (own_i2b p5)), (own_i2b (own_i2b p5)), (own_i2b (own_i2b p5)), (own_i2b (own_i2b p5)), (own_i2b (own_i2b p5))] (p4 &&& (3 : Int32)) (own_i2b (own_i2b p0))) ((p4 &&& (3 : Int32)) + (1 : Int32)) (own_i2b (own_i2b p1))) ((p4 &&& (3 : Int32)) + (2 : Int32)) (own_i2b (own_i2b p2))) ((p4 &&& (3 : Int32)) + (3 : Int32)) (own_i2b (own_i2b p3))) (p4 &&& (3 : Int32)) ((p4 &&& (3 : Int32)) + ((1 : Int32) + (own_rem ((own_ushr p4 (2 : Int32)) &&& (7 : Int32)) (5 : Int32))))) (4 : Int32)) else (f0_493 ((1 : Int32) + (own_rem ((own_ushr p4 (2 : Int32)) &&& (7 : Int32)) (5 : Int32))) (f1_0 (own_set (own_set (own_set (own_set [(own_i2b (own_i2b p5)), (own_i2b (own_i2b p5)), (own_i2b (own_i2b p5)), (own_i2b (own_i2b p5)), (own_i2b (own_i2b p5)), (own_i2b (own_i2b p5)), (own_i2b (own_i2b p5)), (own_i2b (own_i2b p5))] (p4 &&& (3 : Int32)) (own_i2b (own_i2b p0))) ((p4 &&& (3 : Int32)) + (1 : Int32)) (own_i2b (own_i2b p1))) ((p4 &&& (3 : Int32)) + (2 : Int32)) (own_i2b (own_i2b p2))) ((p4 &&& (3 : Int32)) + (3 : Int32)) (own_i2b (own_i2b p3))) (p4 &&& (3 : Int32)) ((p4 &&& (3 : Int32)) + ((1 : Int32) + (own_rem ((own_ushr p4 (2 : Int32)) &&& (7 : Int32)) (5 : Int32))))) (4 : Int32) (1 : Int32)))))))))) else (f0_276 ((1 : Int32) + (own_rem ((own_ushr p4 (2 : Int32)) &&& (7 : Int32)) (5 : Int32))) (f1_0 (own_set (own_set (own_set (own_set [(own_i2b (own_i2b p5)), (own_i2b (own_i2b p5)), (own_i2b (own_i2b p5)), (own_i2b (own_i2b p5)), (own_i2b (own_i2b p5)), (own_i2b (own_i2b p5)), (own_i2b (own_i2b p5)), (own_i2b (own_i2b p5))] (p4 &&& (3 : Int32)) (own_i2b (own_i2b p0))) ((p4 &&& (3 : Int32)) + (1 : Int32)) (own_i2b (own_i2b p1))) ((p4 &&& (3 : Int32)) + (2 : Int32)) (own_i2b (own_i2b p2))) ((p4 &&& (3 : Int32)) + (3 : Int32)) (own_i2b (own_i2b p3))) (p4 &&& (3 : Int32)) ((p4 &&& (3 : Int32)) + ((1 : Int32) + (own_rem ((own_ushr p4 (2 : Int32)) &&& (7 : Int32)) (5 : Int32))))) (p1 &&& (255 : Int32)) (p2 &&& (255 : Int32))))) else (f0_567 ((1 : Int32) + (own_rem ((own_ushr p4 (2 : Int32)) &&& (7 : Int32)) (5 : Int32))) (f1_0 (own_set (own_set (own_set (own_set [(own_i2b (own_i2b p5)), (own_i2b (own_i2b p5)), (own_i2b (own_i2b p5)), (own_i2b (own_i2b p5)), (own_i2b (own_i2b p5)), (own_i2b (own_i2b p5)), (own_i2b (own_i2b p5)), (own_i2b (own_i2b p5))] (p4 &&& (3 : Int32)) (own_i2b (own_i2b p0))) ((p4 &&& (3 : Int32)) + (1 : Int32)) (own_i2b (own_i2b p1))) ((p4 &&& (3 : Int32)) + (2 : Int32)) (own_i2b (own_i2b p2))) ((p4 &&& (3 : Int32)) + (3 : Int32)) (own_i2b (own_i2b p3))) (p4 &&& (3 : Int32)) ((p4 &&& (3 : Int32)) + ((1 : Int32) + (own_rem ((own_ushr p4 (2 : Int32)) &&& (7 : Int32)) (5 : Int32))))) (2 : Int32) (f2_0 (p1 &&& (255 : Int32)) (128 : Int32) (191 : Int32)))) else (f0_567 ((1 : Int32) + (own_rem ((own_ushr p4 (2 : Int32)) &&& (7 : Int32)) (5 : Int32))) (f1_0 (own_set (own_set (own_set (own_set [(own_i2b (own_i2b p5)), (own_i2b (own_i2b p5)), (own_i2b (own_i2b p5)), (own_i2b (own_i2b p5)), (own_i2b (own_i2b p5)), (own_i2b (own_i2b p5)), (own_i2b (own_i2b p5)), (own_i2b (own_i2b p5))] (p4 &&& (3 : Int32)) (own_i2b (own_i2b p0))) ((p4 &&& (3 : Int32)) + (1 : Int32)) (own_i2b (own_i2b p1))) ((p4 &&& (3 : Int32)) + (2 : Int32)) (own_i2b (own_i2b p2))) ((p4 &&& (3 : Int32)) + (3 : Int32)) (own_i2b (own_i2b p3))) (p4 &&& (3 : Int32)) ((p4 &&& (3 : Int32)) + ((1 : Int32) + (own_rem ((own_ushr p4 (2 : Int32)) &&& (7 : Int32)) (5 : Int32))))) (1 : Int32) (1 : Int32)))
def s0_0 (p0 : Int32) (p1 : Int32) (p2 : Int32) (p3 : Int32) (p4 : Int32) (p5 : Int32) : Prop := (own_in [(own_i2b (own_i2b p5)), (own_i2b (own_i2b p5)), (own_i2b (own_i2b p5)), (own_i2b (own_i2b p5)), (own_i2b (own_i2b p5)), (own_i2b (own_i2b p5)), (own_i2b (own_i2b p5)), (own_i2b (own_i2b p5))].length (p4 &&& (3 : Int32)) ∧ own_in (own_set [(own_i2b (own_i2b p5)), (own_i2b (own_i2b p5)), (own_i2b (own_i2b p5)), (own_i2b (own_i2b p5)), (own_i2b (own_i2b p5)), (own_i2b (own_i2b p5)), (own_i2b (own_i2b p5)), (own_i2b (own_i2b p5))] (p4 &&& (3 : Int32)) (own_i2b (own_i2b p0))).length ((p4 &&& (3 : Int32)) + (1 : Int32)) ∧ own_in (own_set (own_set [(own_i2b (own_i2b p5)), (own_i2b (own_i2b p5)), (own_i2b (own_i2b p5)), (own_i2b (own_i2b p5)), (own_i2b (own_i2b p5)), (own_i2b (own_i2b p5)), (own_i2b (own_i2b p5)), (own_i2b (own_i2b p5))] (p4 &&& (3 : Int32)) (own_i2b (own_i2b p0))) ((p4 &&& (3 : Int32)) + (1 : Int32)) (own_i2b (own_i2b p1))).length ((p4 &&& (3 : Int32)) + (2 : Int32)) ∧ own_in (own_set (own_set (own_set [(own_i2b (own_i2b p5)), (own_i2b (own_i2b p5)), (own_i2b (own_i2b p5)), (own_i2b (own_i2b p5)), (own_i2b (own_i2b p5)), (own_i2b (own_i2b p5)), (own_i2b (own_i2b p5)), (own_i2b (own_i2b p5))] (p4 &&& (3 : Int32)) (own_i2b (own_i2b p0))) ((p4 &&& (3 : Int32)) + (1 : Int32)) (own_i2b (own_i2b p1))) ((p4 &&& (3 : Int32)) + (2 : Int32)) (own_i2b (own_i2b p2))).length ((p4 &&& (3 : Int32)) + (3 : Int32)) ∧ (s1_0 (own_set (own_set (own_set (own_set [(own_i2b (own_i2b p5)), (own_i2b (own_i2b p5)), (own_i2b (own_i2b p5)), (own_i2b (own_i2b p5)), (own_i2b (own_i2b p5)), (own_i2b (own_i2b p5)), (own_i2b (own_i2b p5)), (own_i2b (own_i2b p5))] (p4 &&& (3 : Int32)) (own_i2b (own_i2b p0))) ((p4 &&& (3 : Int32)) + (1 : Int32)) (own_i2b (own_i2b p1))) ((p4 &&& (3 : Int32)) + (2 : Int32)) (own_i2b (own_i2b p2))) ((p4 &&& (3 : Int32)) + (3 : Int32)) (own_i2b (own_i2b p3))) (p4 &&& (3 : Int32)) ((p4 &&& (3 : Int32)) + ((1 : Int32) + (own_rem ((own_ushr p4 (2 : Int32)) &&& (7 : Int32)) (5 : Int32))))) ∧ True)
set_option maxRecDepth 65536 in
set_option maxHeartbeats 40000000 in
theorem b0_0 (C : own_Cx p s m meth c Z ag code maxLocals "com/example/ledgerline/ledgerline/cli/MessageLineUtf8LengthPinLaw" ret "law") {T : State} {h : Heap} (p0 : Int32) (p1 : Int32) (p2 : Int32) (p3 : Int32) (p4 : Int32) (p5 : Int32) (X : Stand p l e R0 s m args below meth c T [] 0 0) (eT : T.heap = h) (hs : s0_0 p0 p1 p2 p3 p4 p5) (hK : ∀ h', K (some (.int (f0_0 p0 p1 p2 p3 p4 p5))) h' []) : own_Go p e below (own_Q s K cc0 ss0) T (mkF m 0 #[.val (.int p0), .val (.int p1), .val (.int p2), .val (.int p3), .val (.int p4), .val (.int p5), .unset, .unset, .unset, .unset, .unset, .unset, .unset, .unset, .unset, .unset, .unset, .unset] []) := by
  obtain ⟨hx, hZ, hw, hby, hml, hown, hret, hlk, hnm⟩ := id C
  unfold f0_0 at hK
  unfold s0_0 at hs
  refine o_iload (pc' := 2) X hx (hb hby at_0) rfl rfl ?_
  refine o_iconst (pc' := 3) (x := (3 : Int32)) X hx (hb hby at_2) (by decide) rfl ?_
  refine o_iand (pc' := 4)  X hx (hb hby at_3) rfl rfl ?_
  refine o_istore (pc' := 6) (l' := #[.val (.int p0), .val (.int p1), .val (.int p2), .val (.int p3), .val (.int p4), .val (.int p5), .val (.int (p4 &&& (3 : Int32))), .unset, .unset, .unset, .unset, .unset, .unset, .unset, .unset, .unset, .unset, .unset]) X hx (hb hby at_4) rfl rfl ?_
  refine o_iconst (pc' := 7) (x := (1 : Int32)) X hx (hb hby at_6) (by decide) rfl ?_
  refine o_iload (pc' := 9) X hx (hb hby at_7) rfl rfl ?_
  refine o_iconst (pc' := 10) (x := (2 : Int32)) X hx (hb hby at_9) (by decide) rfl ?_
  refine o_iushr (pc' := 11)  X hx (hb hby at_10) rfl rfl ?_
  refine o_bipush (pc' := 13) (x := (7 : Int32)) X hx (hb hby at_11) (by decide) rfl ?_
  refine o_iand (pc' := 14)  X hx (hb hby at_13) rfl rfl ?_
  refine o_iconst (pc' := 15) (x := (5 : Int32)) X hx (hb hby at_14) (by decide) rfl ?_
  refine o_irem (pc' := 16)  X hx (hb hby at_15) rfl (by decide) rfl ?_
  refine o_iadd (pc' := 17)  X hx (hb hby at_16) rfl rfl ?_
  refine o_istore (pc' := 19) (l' := #[.val (.int p0), .val (.int p1), .val (.int p2), .val (.int p3), .val (.int p4), .val (.int p5), .val (.int (p4 &&& (3 : Int32))), .val (.int ((1 : Int32) + (own_rem ((own_ushr p4 (2 : Int32)) &&& (7 : Int32)) (5 : Int32)))), .unset, .unset, .unset, .unset, .unset, .unset, .unset, .unset, .unset, .unset]) X hx (hb hby at_17) rfl rfl ?_
  refine o_iload (pc' := 21) X hx (hb hby at_19) rfl rfl ?_
  refine o_i2b (pc' := 22)  X hx (hb hby at_21) rfl rfl ?_
  refine o_istore (pc' := 24) (l' := #[.val (.int p0), .val (.int p1), .val (.int p2), .val (.int p3), .val (.int p4), .val (.int p5), .val (.int (p4 &&& (3 : Int32))), .val (.int ((1 : Int32) + (own_rem ((own_ushr p4 (2 : Int32)) &&& (7 : Int32)) (5 : Int32)))), .val (.int (own_i2b p5)), .unset, .unset, .unset, .unset, .unset, .unset, .unset, .unset, .unset]) X hx (hb hby at_22) rfl rfl ?_
  refine o_bipush (pc' := 26) (x := (8 : Int32)) X hx (hb hby at_24) (by decide) rfl ?_
  refine o_newI (pc' := 28) (cap := 8) (vs := [(0 : Int32), (0 : Int32), (0 : Int32), (0 : Int32), (0 : Int32), (0 : Int32), (0 : Int32), (0 : Int32)]) X hx hZ eT (hw _ (List.mem_of_getElem? (i := 0) rfl)) rfl rfl (hb hby at_26) rfl (by decide) (by decide) (by decide) (by decide) (by decide) rfl fun T24 h24 b24 X24 e24 q24 E24 A24 => ?_
  have g24 : s.heap.size ≤ b24 := q24 ▸ own_sz X eT
  refine o_dup (pc' := 29) X24 hx (hb hby at_28) rfl rfl ?_
  refine o_iconst (pc' := 30) (x := (0 : Int32)) X24 hx (hb hby at_29) (by decide) rfl ?_
  refine o_iload (pc' := 32) X24 hx (hb hby at_30) rfl rfl ?_
  refine o_bastore (pc' := 33) (vs' := [(own_i2b (own_i2b p5)), (0 : Int32), (0 : Int32), (0 : Int32), (0 : Int32), (0 : Int32), (0 : Int32), (0 : Int32)]) X24 hx hZ e24 A24 ⟨by decide, Nat.le_of_ble_eq_true rfl⟩ (hb hby at_32) rfl rfl fun T25 h25 X25 e25 W25 A25 => ?_
  have Y25 := own_drop X25 g24
  refine o_dup (pc' := 34) Y25 hx (hb hby at_33) rfl rfl ?_
  refine o_iconst (pc' := 35) (x := (1 : Int32)) Y25 hx (hb hby at_34) (by decide) rfl ?_
  refine o_iload (pc' := 37) Y25 hx (hb hby at_35) rfl rfl ?_
  refine o_bastore (pc' := 38) (vs' := [(own_i2b (own_i2b p5)), (own_i2b (own_i2b p5)), (0 : Int32), (0 : Int32), (0 : Int32), (0 : Int32), (0 : Int32), (0 : Int32)]) Y25 hx hZ e25 A25 ⟨by decide, Nat.le_of_ble_eq_true rfl⟩ (hb hby at_37) rfl rfl fun T26 h26 X26 e26 W26 A26 => ?_
  have Y26 := own_drop X26 g24
  refine o_dup (pc' := 39) Y26 hx (hb hby at_38) rfl rfl ?_
  refine o_iconst (pc' := 40) (x := (2 : Int32)) Y26 hx (hb hby at_39) (by decide) rfl ?_
  refine o_iload (pc' := 42) Y26 hx (hb hby at_40) rfl rfl ?_
  refine o_bastore (pc' := 43) (vs' := [(own_i2b (own_i2b p5)), (own_i2b (own_i2b p5)), (own_i2b (own_i2b p5)), (0 : Int32), (0 : Int32), (0 : Int32), (0 : Int32), (0 : Int32)]) Y26 hx hZ e26 A26 ⟨by decide, Nat.le_of_ble_eq_true rfl⟩ (hb hby at_42) rfl rfl fun T27 h27 X27 e27 W27 A27 => ?_
  have Y27 := own_drop X27 g24
  refine o_dup (pc' := 44) Y27 hx (hb hby at_43) rfl rfl ?_
  refine o_iconst (pc' := 45) (x := (3 : Int32)) Y27 hx (hb hby at_44) (by decide) rfl ?_
  refine o_iload (pc' := 47) Y27 hx (hb hby at_45) rfl rfl ?_
  refine o_bastore (pc' := 48) (vs' := [(own_i2b (own_i2b p5)), (own_i2b (own_i2b p5)), (own_i2b (own_i2b p5)), (own_i2b (own_i2b p5)), (0 : Int32), (0 : Int32), (0 : Int32), (0 : Int32)]) Y27 hx hZ e27 A27 ⟨by decide, Nat.le_of_ble_eq_true rfl⟩ (hb hby at_47) rfl rfl fun T28 h28 X28 e28 W28 A28 => ?_
  have Y28 := own_drop X28 g24
  refine o_dup (pc' := 49) Y28 hx (hb hby at_48) rfl rfl ?_
  refine o_iconst (pc' := 50) (x := (4 : Int32)) Y28 hx (hb hby at_49) (by decide) rfl ?_
  refine o_iload (pc' := 52) Y28 hx (hb hby at_50) rfl rfl ?_
  refine o_bastore (pc' := 53) (vs' := [(own_i2b (own_i2b p5)), (own_i2b (own_i2b p5)), (own_i2b (own_i2b p5)), (own_i2b (own_i2b p5)), (own_i2b (own_i2b p5)), (0 : Int32), (0 : Int32), (0 : Int32)]) Y28 hx hZ e28 A28 ⟨by decide, Nat.le_of_ble_eq_true rfl⟩ (hb hby at_52) rfl rfl fun T29 h29 X29 e29 W29 A29 => ?_
  have Y29 := own_drop X29 g24
  refine o_dup (pc' := 54) Y29 hx (hb hby at_53) rfl rfl ?_
  refine o_iconst (pc' := 55) (x := (5 : Int32)) Y29 hx (hb hby at_54) (by decide) rfl ?_
  refine o_iload (pc' := 57) Y29 hx (hb hby at_55) rfl rfl ?_
  refine o_bastore (pc' := 58) (vs' := [(own_i2b (own_i2b p5)), (own_i2b (own_i2b p5)), (own_i2b (own_i2b p5)), (own_i2b (own_i2b p5)), (own_i2b (own_i2b p5)), (own_i2b (own_i2b p5)), (0 : Int32), (0 : Int32)]) Y29 hx hZ e29 A29 ⟨by decide, Nat.le_of_ble_eq_true rfl⟩ (hb hby at_57) rfl rfl fun T30 h30 X30 e30 W30 A30 => ?_
  have Y30 := own_drop X30 g24
  refine o_dup (pc' := 59) Y30 hx (hb hby at_58) rfl rfl ?_
  refine o_bipush (pc' := 61) (x := (6 : Int32)) Y30 hx (hb hby at_59) (by decide) rfl ?_
  refine o_iload (pc' := 63) Y30 hx (hb hby at_61) rfl rfl ?_
  refine o_bastore (pc' := 64) (vs' := [(own_i2b (own_i2b p5)), (own_i2b (own_i2b p5)), (own_i2b (own_i2b p5)), (own_i2b (own_i2b p5)), (own_i2b (own_i2b p5)), (own_i2b (own_i2b p5)), (own_i2b (own_i2b p5)), (0 : Int32)]) Y30 hx hZ e30 A30 ⟨by decide, Nat.le_of_ble_eq_true rfl⟩ (hb hby at_63) rfl rfl fun T31 h31 X31 e31 W31 A31 => ?_
  have Y31 := own_drop X31 g24
  refine o_dup (pc' := 65) Y31 hx (hb hby at_64) rfl rfl ?_
  refine o_bipush (pc' := 67) (x := (7 : Int32)) Y31 hx (hb hby at_65) (by decide) rfl ?_
  refine o_iload (pc' := 69) Y31 hx (hb hby at_67) rfl rfl ?_
  refine o_bastore (pc' := 70) (vs' := [(own_i2b (own_i2b p5)), (own_i2b (own_i2b p5)), (own_i2b (own_i2b p5)), (own_i2b (own_i2b p5)), (own_i2b (own_i2b p5)), (own_i2b (own_i2b p5)), (own_i2b (own_i2b p5)), (own_i2b (own_i2b p5))]) Y31 hx hZ e31 A31 ⟨by decide, Nat.le_of_ble_eq_true rfl⟩ (hb hby at_69) rfl rfl fun T32 h32 X32 e32 W32 A32 => ?_
  have Y32 := own_drop X32 g24
  refine o_astore (pc' := 72) (l' := #[.val (.int p0), .val (.int p1), .val (.int p2), .val (.int p3), .val (.int p4), .val (.int p5), .val (.int (p4 &&& (3 : Int32))), .val (.int ((1 : Int32) + (own_rem ((own_ushr p4 (2 : Int32)) &&& (7 : Int32)) (5 : Int32)))), .val (.int (own_i2b p5)), .val (.ref b24), .unset, .unset, .unset, .unset, .unset, .unset, .unset, .unset]) Y32 hx (hb hby at_70) rfl rfl rfl ?_
  refine o_aload (pc' := 74) Y32 hx (hb hby at_72) rfl rfl rfl ?_
  refine o_iload (pc' := 76) Y32 hx (hb hby at_74) rfl rfl ?_
  refine o_iloadN (pc' := 77) Y32 hx (hb hby at_76) rfl rfl ?_
  refine o_i2b (pc' := 78)  Y32 hx (hb hby at_77) rfl rfl ?_
  refine o_bastore (pc' := 79) (vs' := (own_set [(own_i2b (own_i2b p5)), (own_i2b (own_i2b p5)), (own_i2b (own_i2b p5)), (own_i2b (own_i2b p5)), (own_i2b (own_i2b p5)), (own_i2b (own_i2b p5)), (own_i2b (own_i2b p5)), (own_i2b (own_i2b p5))] (p4 &&& (3 : Int32)) (own_i2b (own_i2b p0)))) Y32 hx hZ e32 A32 hs.1 (hb hby at_78) rfl rfl fun T33 h33 X33 e33 W33 A33 => ?_
  have Y33 := own_drop X33 g24
  refine o_aload (pc' := 81) Y33 hx (hb hby at_79) rfl rfl rfl ?_
  refine o_iload (pc' := 83) Y33 hx (hb hby at_81) rfl rfl ?_
  refine o_iconst (pc' := 84) (x := (1 : Int32)) Y33 hx (hb hby at_83) (by decide) rfl ?_
  refine o_iadd (pc' := 85)  Y33 hx (hb hby at_84) rfl rfl ?_
  refine o_iloadN (pc' := 86) Y33 hx (hb hby at_85) rfl rfl ?_
  refine o_i2b (pc' := 87)  Y33 hx (hb hby at_86) rfl rfl ?_
  refine o_bastore (pc' := 88) (vs' := (own_set (own_set [(own_i2b (own_i2b p5)), (own_i2b (own_i2b p5)), (own_i2b (own_i2b p5)), (own_i2b (own_i2b p5)), (own_i2b (own_i2b p5)), (own_i2b (own_i2b p5)), (own_i2b (own_i2b p5)), (own_i2b (own_i2b p5))] (p4 &&& (3 : Int32)) (own_i2b (own_i2b p0))) ((p4 &&& (3 : Int32)) + (1 : Int32)) (own_i2b (own_i2b p1)))) Y33 hx hZ e33 A33 hs.2.1 (hb hby at_87) rfl rfl fun T34 h34 X34 e34 W34 A34 => ?_
  have Y34 := own_drop X34 g24
  refine o_aload (pc' := 90) Y34 hx (hb hby at_88) rfl rfl rfl ?_
  refine o_iload (pc' := 92) Y34 hx (hb hby at_90) rfl rfl ?_
  refine o_iconst (pc' := 93) (x := (2 : Int32)) Y34 hx (hb hby at_92) (by decide) rfl ?_
  refine o_iadd (pc' := 94)  Y34 hx (hb hby at_93) rfl rfl ?_
  refine o_iloadN (pc' := 95) Y34 hx (hb hby at_94) rfl rfl ?_
  refine o_i2b (pc' := 96)  Y34 hx (hb hby at_95) rfl rfl ?_
  refine o_bastore (pc' := 97) (vs' := (own_set (own_set (own_set [(own_i2b (own_i2b p5)), (own_i2b (own_i2b p5)), (own_i2b (own_i2b p5)), (own_i2b (own_i2b p5)), (own_i2b (own_i2b p5)), (own_i2b (own_i2b p5)), (own_i2b (own_i2b p5)), (own_i2b (own_i2b p5))] (p4 &&& (3 : Int32)) (own_i2b (own_i2b p0))) ((p4 &&& (3 : Int32)) + (1 : Int32)) (own_i2b (own_i2b p1))) ((p4 &&& (3 : Int32)) + (2 : Int32)) (own_i2b (own_i2b p2)))) Y34 hx hZ e34 A34 hs.2.2.1 (hb hby at_96) rfl rfl fun T35 h35 X35 e35 W35 A35 => ?_
  have Y35 := own_drop X35 g24
  refine o_aload (pc' := 99) Y35 hx (hb hby at_97) rfl rfl rfl ?_
  refine o_iload (pc' := 101) Y35 hx (hb hby at_99) rfl rfl ?_
  refine o_iconst (pc' := 102) (x := (3 : Int32)) Y35 hx (hb hby at_101) (by decide) rfl ?_
  refine o_iadd (pc' := 103)  Y35 hx (hb hby at_102) rfl rfl ?_
  refine o_iloadN (pc' := 104) Y35 hx (hb hby at_103) rfl rfl ?_
  refine o_i2b (pc' := 105)  Y35 hx (hb hby at_104) rfl rfl ?_
  refine o_bastore (pc' := 106) (vs' := (own_set (own_set (own_set (own_set [(own_i2b (own_i2b p5)), (own_i2b (own_i2b p5)), (own_i2b (own_i2b p5)), (own_i2b (own_i2b p5)), (own_i2b (own_i2b p5)), (own_i2b (own_i2b p5)), (own_i2b (own_i2b p5)), (own_i2b (own_i2b p5))] (p4 &&& (3 : Int32)) (own_i2b (own_i2b p0))) ((p4 &&& (3 : Int32)) + (1 : Int32)) (own_i2b (own_i2b p1))) ((p4 &&& (3 : Int32)) + (2 : Int32)) (own_i2b (own_i2b p2))) ((p4 &&& (3 : Int32)) + (3 : Int32)) (own_i2b (own_i2b p3)))) Y35 hx hZ e35 A35 hs.2.2.2.1 (hb hby at_105) rfl rfl fun T36 h36 X36 e36 W36 A36 => ?_
  have Y36 := own_drop X36 g24
  refine o_aload (pc' := 108) Y36 hx (hb hby at_106) rfl rfl rfl ?_
  refine o_iload (pc' := 110) Y36 hx (hb hby at_108) rfl rfl ?_
  refine o_iload (pc' := 112) Y36 hx (hb hby at_110) rfl rfl ?_
  refine o_iload (pc' := 114) Y36 hx (hb hby at_112) rfl rfl ?_
  refine o_iadd (pc' := 115)  Y36 hx (hb hby at_114) rfl rfl ?_
  refine o_callP (W := 0) (pc' := 118) (argsL := [(.ref b24), (.int (p4 &&& (3 : Int32))), (.int ((p4 &&& (3 : Int32)) + ((1 : Int32) + (own_rem ((own_ushr p4 (2 : Int32)) &&& (7 : Int32)) (5 : Int32)))))]) (rest := []) (st' := [(.int (f1_0 (own_set (own_set (own_set (own_set [(own_i2b (own_i2b p5)), (own_i2b (own_i2b p5)), (own_i2b (own_i2b p5)), (own_i2b (own_i2b p5)), (own_i2b (own_i2b p5)), (own_i2b (own_i2b p5)), (own_i2b (own_i2b p5)), (own_i2b (own_i2b p5))] (p4 &&& (3 : Int32)) (own_i2b (own_i2b p0))) ((p4 &&& (3 : Int32)) + (1 : Int32)) (own_i2b (own_i2b p1))) ((p4 &&& (3 : Int32)) + (2 : Int32)) (own_i2b (own_i2b p2))) ((p4 &&& (3 : Int32)) + (3 : Int32)) (own_i2b (own_i2b p3))) (p4 &&& (3 : Int32)) ((p4 &&& (3 : Int32)) + ((1 : Int32) + (own_rem ((own_ushr p4 (2 : Int32)) &&& (7 : Int32)) (5 : Int32))))))]) Y36 hx hZ e36 hown (hw _ (List.mem_of_getElem? (i := 1) rfl)) (hw _ (List.mem_of_getElem? (i := 2) rfl)) (hw _ (List.mem_of_getElem? (i := 3) rfl)) (hw _ (List.mem_of_getElem? (i := 4) rfl)) (by decide) (rm1 l Z ag hw [] b24 (own_set (own_set (own_set (own_set [(own_i2b (own_i2b p5)), (own_i2b (own_i2b p5)), (own_i2b (own_i2b p5)), (own_i2b (own_i2b p5)), (own_i2b (own_i2b p5)), (own_i2b (own_i2b p5)), (own_i2b (own_i2b p5)), (own_i2b (own_i2b p5))] (p4 &&& (3 : Int32)) (own_i2b (own_i2b p0))) ((p4 &&& (3 : Int32)) + (1 : Int32)) (own_i2b (own_i2b p1))) ((p4 &&& (3 : Int32)) + (2 : Int32)) (own_i2b (own_i2b p2))) ((p4 &&& (3 : Int32)) + (3 : Int32)) (own_i2b (own_i2b p3))) (p4 &&& (3 : Int32)) ((p4 &&& (3 : Int32)) + ((1 : Int32) + (own_rem ((own_ushr p4 (2 : Int32)) &&& (7 : Int32)) (5 : Int32)))) h36 A36 hs.2.2.2.2.1) (by decide) (by decide) (by rw [hml]; rfl) pd_0 rfl rfl rfl rfl (hb hby at_115) rfl rfl rfl (by decide) (by decide) rfl fun T37 X37 e37 => ?_
  refine o_istore (pc' := 120) (l' := #[.val (.int p0), .val (.int p1), .val (.int p2), .val (.int p3), .val (.int p4), .val (.int p5), .val (.int (p4 &&& (3 : Int32))), .val (.int ((1 : Int32) + (own_rem ((own_ushr p4 (2 : Int32)) &&& (7 : Int32)) (5 : Int32)))), .val (.int (own_i2b p5)), .val (.ref b24), .val (.int (f1_0 (own_set (own_set (own_set (own_set [(own_i2b (own_i2b p5)), (own_i2b (own_i2b p5)), (own_i2b (own_i2b p5)), (own_i2b (own_i2b p5)), (own_i2b (own_i2b p5)), (own_i2b (own_i2b p5)), (own_i2b (own_i2b p5)), (own_i2b (own_i2b p5))] (p4 &&& (3 : Int32)) (own_i2b (own_i2b p0))) ((p4 &&& (3 : Int32)) + (1 : Int32)) (own_i2b (own_i2b p1))) ((p4 &&& (3 : Int32)) + (2 : Int32)) (own_i2b (own_i2b p2))) ((p4 &&& (3 : Int32)) + (3 : Int32)) (own_i2b (own_i2b p3))) (p4 &&& (3 : Int32)) ((p4 &&& (3 : Int32)) + ((1 : Int32) + (own_rem ((own_ushr p4 (2 : Int32)) &&& (7 : Int32)) (5 : Int32)))))), .unset, .unset, .unset, .unset, .unset, .unset, .unset]) X37 hx (hb hby at_118) rfl rfl ?_
  refine o_iloadN (pc' := 121) X37 hx (hb hby at_120) rfl rfl ?_
  refine o_sipush (pc' := 124) (x := (255 : Int32)) X37 hx (hb hby at_121) (by decide) rfl ?_
  refine o_iand (pc' := 125)  X37 hx (hb hby at_124) rfl rfl ?_
  refine o_istore (pc' := 127) (l' := #[.val (.int p0), .val (.int p1), .val (.int p2), .val (.int p3), .val (.int p4), .val (.int p5), .val (.int (p4 &&& (3 : Int32))), .val (.int ((1 : Int32) + (own_rem ((own_ushr p4 (2 : Int32)) &&& (7 : Int32)) (5 : Int32)))), .val (.int (own_i2b p5)), .val (.ref b24), .val (.int (f1_0 (own_set (own_set (own_set (own_set [(own_i2b (own_i2b p5)), (own_i2b (own_i2b p5)), (own_i2b (own_i2b p5)), (own_i2b (own_i2b p5)), (own_i2b (own_i2b p5)), (own_i2b (own_i2b p5)), (own_i2b (own_i2b p5)), (own_i2b (own_i2b p5))] (p4 &&& (3 : Int32)) (own_i2b (own_i2b p0))) ((p4 &&& (3 : Int32)) + (1 : Int32)) (own_i2b (own_i2b p1))) ((p4 &&& (3 : Int32)) + (2 : Int32)) (own_i2b (own_i2b p2))) ((p4 &&& (3 : Int32)) + (3 : Int32)) (own_i2b (own_i2b p3))) (p4 &&& (3 : Int32)) ((p4 &&& (3 : Int32)) + ((1 : Int32) + (own_rem ((own_ushr p4 (2 : Int32)) &&& (7 : Int32)) (5 : Int32)))))), .val (.int (p0 &&& (255 : Int32))), .unset, .unset, .unset, .unset, .unset, .unset]) X37 hx (hb hby at_125) rfl rfl ?_
  refine o_iloadN (pc' := 128) X37 hx (hb hby at_127) rfl rfl ?_
  refine o_sipush (pc' := 131) (x := (255 : Int32)) X37 hx (hb hby at_128) (by decide) rfl ?_
  refine o_iand (pc' := 132)  X37 hx (hb hby at_131) rfl rfl ?_
  refine o_istore (pc' := 134) (l' := #[.val (.int p0), .val (.int p1), .val (.int p2), .val (.int p3), .val (.int p4), .val (.int p5), .val (.int (p4 &&& (3 : Int32))), .val (.int ((1 : Int32) + (own_rem ((own_ushr p4 (2 : Int32)) &&& (7 : Int32)) (5 : Int32)))), .val (.int (own_i2b p5)), .val (.ref b24), .val (.int (f1_0 (own_set (own_set (own_set (own_set [(own_i2b (own_i2b p5)), (own_i2b (own_i2b p5)), (own_i2b (own_i2b p5)), (own_i2b (own_i2b p5)), (own_i2b (own_i2b p5)), (own_i2b (own_i2b p5)), (own_i2b (own_i2b p5)), (own_i2b (own_i2b p5))] (p4 &&& (3 : Int32)) (own_i2b (own_i2b p0))) ((p4 &&& (3 : Int32)) + (1 : Int32)) (own_i2b (own_i2b p1))) ((p4 &&& (3 : Int32)) + (2 : Int32)) (own_i2b (own_i2b p2))) ((p4 &&& (3 : Int32)) + (3 : Int32)) (own_i2b (own_i2b p3))) (p4 &&& (3 : Int32)) ((p4 &&& (3 : Int32)) + ((1 : Int32) + (own_rem ((own_ushr p4 (2 : Int32)) &&& (7 : Int32)) (5 : Int32)))))), .val (.int (p0 &&& (255 : Int32))), .val (.int (p1 &&& (255 : Int32))), .unset, .unset, .unset, .unset, .unset]) X37 hx (hb hby at_132) rfl rfl ?_
  refine o_iloadN (pc' := 135) X37 hx (hb hby at_134) rfl rfl ?_
  refine o_sipush (pc' := 138) (x := (255 : Int32)) X37 hx (hb hby at_135) (by decide) rfl ?_
  refine o_iand (pc' := 139)  X37 hx (hb hby at_138) rfl rfl ?_
  refine o_istore (pc' := 141) (l' := #[.val (.int p0), .val (.int p1), .val (.int p2), .val (.int p3), .val (.int p4), .val (.int p5), .val (.int (p4 &&& (3 : Int32))), .val (.int ((1 : Int32) + (own_rem ((own_ushr p4 (2 : Int32)) &&& (7 : Int32)) (5 : Int32)))), .val (.int (own_i2b p5)), .val (.ref b24), .val (.int (f1_0 (own_set (own_set (own_set (own_set [(own_i2b (own_i2b p5)), (own_i2b (own_i2b p5)), (own_i2b (own_i2b p5)), (own_i2b (own_i2b p5)), (own_i2b (own_i2b p5)), (own_i2b (own_i2b p5)), (own_i2b (own_i2b p5)), (own_i2b (own_i2b p5))] (p4 &&& (3 : Int32)) (own_i2b (own_i2b p0))) ((p4 &&& (3 : Int32)) + (1 : Int32)) (own_i2b (own_i2b p1))) ((p4 &&& (3 : Int32)) + (2 : Int32)) (own_i2b (own_i2b p2))) ((p4 &&& (3 : Int32)) + (3 : Int32)) (own_i2b (own_i2b p3))) (p4 &&& (3 : Int32)) ((p4 &&& (3 : Int32)) + ((1 : Int32) + (own_rem ((own_ushr p4 (2 : Int32)) &&& (7 : Int32)) (5 : Int32)))))), .val (.int (p0 &&& (255 : Int32))), .val (.int (p1 &&& (255 : Int32))), .val (.int (p2 &&& (255 : Int32))), .unset, .unset, .unset, .unset]) X37 hx (hb hby at_139) rfl rfl ?_
  refine o_iloadN (pc' := 142) X37 hx (hb hby at_141) rfl rfl ?_
  refine o_sipush (pc' := 145) (x := (255 : Int32)) X37 hx (hb hby at_142) (by decide) rfl ?_
  refine o_iand (pc' := 146)  X37 hx (hb hby at_145) rfl rfl ?_
  refine o_istore (pc' := 148) (l' := #[.val (.int p0), .val (.int p1), .val (.int p2), .val (.int p3), .val (.int p4), .val (.int p5), .val (.int (p4 &&& (3 : Int32))), .val (.int ((1 : Int32) + (own_rem ((own_ushr p4 (2 : Int32)) &&& (7 : Int32)) (5 : Int32)))), .val (.int (own_i2b p5)), .val (.ref b24), .val (.int (f1_0 (own_set (own_set (own_set (own_set [(own_i2b (own_i2b p5)), (own_i2b (own_i2b p5)), (own_i2b (own_i2b p5)), (own_i2b (own_i2b p5)), (own_i2b (own_i2b p5)), (own_i2b (own_i2b p5)), (own_i2b (own_i2b p5)), (own_i2b (own_i2b p5))] (p4 &&& (3 : Int32)) (own_i2b (own_i2b p0))) ((p4 &&& (3 : Int32)) + (1 : Int32)) (own_i2b (own_i2b p1))) ((p4 &&& (3 : Int32)) + (2 : Int32)) (own_i2b (own_i2b p2))) ((p4 &&& (3 : Int32)) + (3 : Int32)) (own_i2b (own_i2b p3))) (p4 &&& (3 : Int32)) ((p4 &&& (3 : Int32)) + ((1 : Int32) + (own_rem ((own_ushr p4 (2 : Int32)) &&& (7 : Int32)) (5 : Int32)))))), .val (.int (p0 &&& (255 : Int32))), .val (.int (p1 &&& (255 : Int32))), .val (.int (p2 &&& (255 : Int32))), .val (.int (p3 &&& (255 : Int32))), .unset, .unset, .unset]) X37 hx (hb hby at_146) rfl rfl ?_
  refine o_iload (pc' := 150) X37 hx (hb hby at_148) rfl rfl ?_
  refine o_bipush (pc' := 152) (x := (127 : Int32)) X37 hx (hb hby at_150) (by decide) rfl ?_
  refine o_icP (P := (127 : Int32) < (p0 &&& (255 : Int32))) (pc1 := 164) (pc2 := 155) X37 hx XT.ii_gt_t XT.ii_gt_f (hb hby at_152) (by decide) (by decide) rfl (fun c38 => ?_) (fun c38 => ?_)
  · rw [if_pos c38] at hK
    refine o_iload (pc' := 166) X37 hx (hb hby at_164) rfl rfl ?_
    refine o_sipush (pc' := 169) (x := (194 : Int32)) X37 hx (hb hby at_166) (by decide) rfl ?_
    refine o_sipush (pc' := 172) (x := (223 : Int32)) X37 hx (hb hby at_169) (by decide) rfl ?_
    refine o_callP (W := 0) (pc' := 175) (argsL := [(.int (p0 &&& (255 : Int32))), (.int (194 : Int32)), (.int (223 : Int32))]) (rest := []) (st' := [(.int (f2_0 (p0 &&& (255 : Int32)) (194 : Int32) (223 : Int32)))]) X37 hx hZ e37 hown (hw _ (List.mem_of_getElem? (i := 5) rfl)) (hw _ (List.mem_of_getElem? (i := 6) rfl)) (hw _ (List.mem_of_getElem? (i := 7) rfl)) (hw _ (List.mem_of_getElem? (i := 8) rfl)) (by decide) (rm2 l Z ag hw [] (p0 &&& (255 : Int32)) (194 : Int32) (223 : Int32) h36) (by decide) (by decide) (by rw [hml]; rfl) pd_1 rfl rfl rfl rfl (hb hby at_172) rfl rfl rfl (by decide) (by decide) rfl fun T39 X39 e39 => ?_
    refine o_ifP (P := (f2_0 (p0 &&& (255 : Int32)) (194 : Int32) (223 : Int32)) = (0 : Int32)) (pc1 := 197) (pc2 := 178) X39 hx XT.i0_eq_t XT.i0_eq_f (hb hby at_175) (by decide) (by decide) rfl (fun c40 => ?_) (fun c40 => ?_)
    · rw [if_pos c40] at hK
      refine o_iload (pc' := 199) X39 hx (hb hby at_197) rfl rfl ?_
      refine o_sipush (pc' := 202) (x := (224 : Int32)) X39 hx (hb hby at_199) (by decide) rfl ?_
      refine o_icN (P := (p0 &&& (255 : Int32)) = (224 : Int32)) (pc1 := 246) (pc2 := 205) X39 hx XT.ii_ne_f XT.ii_ne_t (hb hby at_202) (by decide) (by decide) rfl (fun c41 => ?_) (fun c41 => ?_)
      · rw [if_neg c41] at hK
        refine o_iload (pc' := 248) X39 hx (hb hby at_246) rfl rfl ?_
        refine o_sipush (pc' := 251) (x := (225 : Int32)) X39 hx (hb hby at_248) (by decide) rfl ?_
        refine o_sipush (pc' := 254) (x := (236 : Int32)) X39 hx (hb hby at_251) (by decide) rfl ?_
        refine o_callP (W := 0) (pc' := 257) (argsL := [(.int (p0 &&& (255 : Int32))), (.int (225 : Int32)), (.int (236 : Int32))]) (rest := []) (st' := [(.int (f2_0 (p0 &&& (255 : Int32)) (225 : Int32) (236 : Int32)))]) X39 hx hZ e39 hown (hw _ (List.mem_of_getElem? (i := 5) rfl)) (hw _ (List.mem_of_getElem? (i := 6) rfl)) (hw _ (List.mem_of_getElem? (i := 7) rfl)) (hw _ (List.mem_of_getElem? (i := 8) rfl)) (by decide) (rm2 l Z ag hw [] (p0 &&& (255 : Int32)) (225 : Int32) (236 : Int32) h36) (by decide) (by decide) (by rw [hml]; rfl) pd_1 rfl rfl rfl rfl (hb hby at_254) rfl rfl rfl (by decide) (by decide) rfl fun T42 X42 e42 => ?_
        refine o_ifN (P := (f2_0 (p0 &&& (255 : Int32)) (225 : Int32) (236 : Int32)) = (0 : Int32)) (pc1 := 276) (pc2 := 260) X42 hx XT.i0_ne_f XT.i0_ne_t (hb hby at_257) (by decide) (by decide) rfl (fun c43 => ?_) (fun c43 => ?_)
        · rw [if_neg c43] at hK
          exact b0_276 C ((1 : Int32) + (own_rem ((own_ushr p4 (2 : Int32)) &&& (7 : Int32)) (5 : Int32))) (f1_0 (own_set (own_set (own_set (own_set [(own_i2b (own_i2b p5)), (own_i2b (own_i2b p5)), (own_i2b (own_i2b p5)), (own_i2b (own_i2b p5)), (own_i2b (own_i2b p5)), (own_i2b (own_i2b p5)), (own_i2b (own_i2b p5)), (own_i2b (own_i2b p5))] (p4 &&& (3 : Int32)) (own_i2b (own_i2b p0))) ((p4 &&& (3 : Int32)) + (1 : Int32)) (own_i2b (own_i2b p1))) ((p4 &&& (3 : Int32)) + (2 : Int32)) (own_i2b (own_i2b p2))) ((p4 &&& (3 : Int32)) + (3 : Int32)) (own_i2b (own_i2b p3))) (p4 &&& (3 : Int32)) ((p4 &&& (3 : Int32)) + ((1 : Int32) + (own_rem ((own_ushr p4 (2 : Int32)) &&& (7 : Int32)) (5 : Int32))))) (p1 &&& (255 : Int32)) (p2 &&& (255 : Int32)) X42 e42 (One.val rfl) (One.val rfl) (One.val rfl) (One.val rfl) (One.val rfl) (One.val rfl) (One.val rfl) (One.val rfl) (One.val rfl) (One.val rfl) (One.val rfl) One.u One.u One.u hK
        · rw [if_pos c43] at hK
          refine o_iload (pc' := 262) X42 hx (hb hby at_260) rfl rfl ?_
          refine o_sipush (pc' := 265) (x := (238 : Int32)) X42 hx (hb hby at_262) (by decide) rfl ?_
          refine o_icP (P := (p0 &&& (255 : Int32)) = (238 : Int32)) (pc1 := 276) (pc2 := 268) X42 hx XT.ii_eq_t XT.ii_eq_f (hb hby at_265) (by decide) (by decide) rfl (fun c51 => ?_) (fun c51 => ?_)
          · rw [if_pos c51] at hK
            exact b0_276 C ((1 : Int32) + (own_rem ((own_ushr p4 (2 : Int32)) &&& (7 : Int32)) (5 : Int32))) (f1_0 (own_set (own_set (own_set (own_set [(own_i2b (own_i2b p5)), (own_i2b (own_i2b p5)), (own_i2b (own_i2b p5)), (own_i2b (own_i2b p5)), (own_i2b (own_i2b p5)), (own_i2b (own_i2b p5)), (own_i2b (own_i2b p5)), (own_i2b (own_i2b p5))] (p4 &&& (3 : Int32)) (own_i2b (own_i2b p0))) ((p4 &&& (3 : Int32)) + (1 : Int32)) (own_i2b (own_i2b p1))) ((p4 &&& (3 : Int32)) + (2 : Int32)) (own_i2b (own_i2b p2))) ((p4 &&& (3 : Int32)) + (3 : Int32)) (own_i2b (own_i2b p3))) (p4 &&& (3 : Int32)) ((p4 &&& (3 : Int32)) + ((1 : Int32) + (own_rem ((own_ushr p4 (2 : Int32)) &&& (7 : Int32)) (5 : Int32))))) (p1 &&& (255 : Int32)) (p2 &&& (255 : Int32)) X42 e42 (One.val rfl) (One.val rfl) (One.val rfl) (One.val rfl) (One.val rfl) (One.val rfl) (One.val rfl) (One.val rfl) (One.val rfl) (One.val rfl) (One.val rfl) One.u One.u One.u hK
          · rw [if_neg c51] at hK
            refine o_iload (pc' := 270) X42 hx (hb hby at_268) rfl rfl ?_
            refine o_sipush (pc' := 273) (x := (239 : Int32)) X42 hx (hb hby at_270) (by decide) rfl ?_
            refine o_icN (P := (p0 &&& (255 : Int32)) = (239 : Int32)) (pc1 := 317) (pc2 := 276) X42 hx XT.ii_ne_f XT.ii_ne_t (hb hby at_273) (by decide) (by decide) rfl (fun c52 => ?_) (fun c52 => ?_)
            · rw [if_neg c52] at hK
              refine o_iload (pc' := 319) X42 hx (hb hby at_317) rfl rfl ?_
              refine o_sipush (pc' := 322) (x := (237 : Int32)) X42 hx (hb hby at_319) (by decide) rfl ?_
              refine o_icN (P := (p0 &&& (255 : Int32)) = (237 : Int32)) (pc1 := 366) (pc2 := 325) X42 hx XT.ii_ne_f XT.ii_ne_t (hb hby at_322) (by decide) (by decide) rfl (fun c53 => ?_) (fun c53 => ?_)
              · rw [if_neg c53] at hK
                refine o_iload (pc' := 368) X42 hx (hb hby at_366) rfl rfl ?_
                refine o_sipush (pc' := 371) (x := (240 : Int32)) X42 hx (hb hby at_368) (by decide) rfl ?_
                refine o_icN (P := (p0 &&& (255 : Int32)) = (240 : Int32)) (pc1 := 429) (pc2 := 374) X42 hx XT.ii_ne_f XT.ii_ne_t (hb hby at_371) (by decide) (by decide) rfl (fun c54 => ?_) (fun c54 => ?_)
                · rw [if_neg c54] at hK
                  refine o_iload (pc' := 431) X42 hx (hb hby at_429) rfl rfl ?_
                  refine o_sipush (pc' := 434) (x := (241 : Int32)) X42 hx (hb hby at_431) (by decide) rfl ?_
                  refine o_sipush (pc' := 437) (x := (243 : Int32)) X42 hx (hb hby at_434) (by decide) rfl ?_
                  refine o_callP (W := 0) (pc' := 440) (argsL := [(.int (p0 &&& (255 : Int32))), (.int (241 : Int32)), (.int (243 : Int32))]) (rest := []) (st' := [(.int (f2_0 (p0 &&& (255 : Int32)) (241 : Int32) (243 : Int32)))]) X42 hx hZ e42 hown (hw _ (List.mem_of_getElem? (i := 5) rfl)) (hw _ (List.mem_of_getElem? (i := 6) rfl)) (hw _ (List.mem_of_getElem? (i := 7) rfl)) (hw _ (List.mem_of_getElem? (i := 8) rfl)) (by decide) (rm2 l Z ag hw [] (p0 &&& (255 : Int32)) (241 : Int32) (243 : Int32) h36) (by decide) (by decide) (by rw [hml]; rfl) pd_1 rfl rfl rfl rfl (hb hby at_437) rfl rfl rfl (by decide) (by decide) rfl fun T55 X55 e55 => ?_
                  refine o_ifP (P := (f2_0 (p0 &&& (255 : Int32)) (241 : Int32) (243 : Int32)) = (0 : Int32)) (pc1 := 498) (pc2 := 443) X55 hx XT.i0_eq_t XT.i0_eq_f (hb hby at_440) (by decide) (by decide) rfl (fun c56 => ?_) (fun c56 => ?_)
                  · rw [if_pos c56] at hK
                    refine o_iload (pc' := 500) X55 hx (hb hby at_498) rfl rfl ?_
                    refine o_sipush (pc' := 503) (x := (244 : Int32)) X55 hx (hb hby at_500) (by decide) rfl ?_
                    refine o_icN (P := (p0 &&& (255 : Int32)) = (244 : Int32)) (pc1 := 561) (pc2 := 506) X55 hx XT.ii_ne_f XT.ii_ne_t (hb hby at_503) (by decide) (by decide) rfl (fun c57 => ?_) (fun c57 => ?_)
                    · rw [if_neg c57] at hK
                      refine o_iconst (pc' := 562) (x := (0 : Int32)) X55 hx (hb hby at_561) (by decide) rfl ?_
                      refine o_istore (pc' := 564) (l' := #[.val (.int p0), .val (.int p1), .val (.int p2), .val (.int p3), .val (.int p4), .val (.int p5), .val (.int (p4 &&& (3 : Int32))), .val (.int ((1 : Int32) + (own_rem ((own_ushr p4 (2 : Int32)) &&& (7 : Int32)) (5 : Int32)))), .val (.int (own_i2b p5)), .val (.ref b24), .val (.int (f1_0 (own_set (own_set (own_set (own_set [(own_i2b (own_i2b p5)), (own_i2b (own_i2b p5)), (own_i2b (own_i2b p5)), (own_i2b (own_i2b p5)), (own_i2b (own_i2b p5)), (own_i2b (own_i2b p5)), (own_i2b (own_i2b p5)), (own_i2b (own_i2b p5))] (p4 &&& (3 : Int32)) (own_i2b (own_i2b p0))) ((p4 &&& (3 : Int32)) + (1 : Int32)) (own_i2b (own_i2b p1))) ((p4 &&& (3 : Int32)) + (2 : Int32)) (own_i2b (own_i2b p2))) ((p4 &&& (3 : Int32)) + (3 : Int32)) (own_i2b (own_i2b p3))) (p4 &&& (3 : Int32)) ((p4 &&& (3 : Int32)) + ((1 : Int32) + (own_rem ((own_ushr p4 (2 : Int32)) &&& (7 : Int32)) (5 : Int32)))))), .val (.int (p0 &&& (255 : Int32))), .val (.int (p1 &&& (255 : Int32))), .val (.int (p2 &&& (255 : Int32))), .val (.int (p3 &&& (255 : Int32))), .val (.int (0 : Int32)), .unset, .unset]) X55 hx (hb hby at_562) rfl rfl ?_
                      refine o_iconst (pc' := 565) (x := (0 : Int32)) X55 hx (hb hby at_564) (by decide) rfl ?_
                      refine o_istore (pc' := 567) (l' := #[.val (.int p0), .val (.int p1), .val (.int p2), .val (.int p3), .val (.int p4), .val (.int p5), .val (.int (p4 &&& (3 : Int32))), .val (.int ((1 : Int32) + (own_rem ((own_ushr p4 (2 : Int32)) &&& (7 : Int32)) (5 : Int32)))), .val (.int (own_i2b p5)), .val (.ref b24), .val (.int (f1_0 (own_set (own_set (own_set (own_set [(own_i2b (own_i2b p5)), (own_i2b (own_i2b p5)), (own_i2b (own_i2b p5)), (own_i2b (own_i2b p5)), (own_i2b (own_i2b p5)), (own_i2b (own_i2b p5)), (own_i2b (own_i2b p5)), (own_i2b (own_i2b p5))] (p4 &&& (3 : Int32)) (own_i2b (own_i2b p0))) ((p4 &&& (3 : Int32)) + (1 : Int32)) (own_i2b (own_i2b p1))) ((p4 &&& (3 : Int32)) + (2 : Int32)) (own_i2b (own_i2b p2))) ((p4 &&& (3 : Int32)) + (3 : Int32)) (own_i2b (own_i2b p3))) (p4 &&& (3 : Int32)) ((p4 &&& (3 : Int32)) + ((1 : Int32) + (own_rem ((own_ushr p4 (2 : Int32)) &&& (7 : Int32)) (5 : Int32)))))), .val (.int (p0 &&& (255 : Int32))), .val (.int (p1 &&& (255 : Int32))), .val (.int (p2 &&& (255 : Int32))), .val (.int (p3 &&& (255 : Int32))), .val (.int (0 : Int32)), .val (.int (0 : Int32)), .unset]) X55 hx (hb hby at_565) rfl rfl ?_
                      exact b0_567 C ((1 : Int32) + (own_rem ((own_ushr p4 (2 : Int32)) &&& (7 : Int32)) (5 : Int32))) (f1_0 (own_set (own_set (own_set (own_set [(own_i2b (own_i2b p5)), (own_i2b (own_i2b p5)), (own_i2b (own_i2b p5)), (own_i2b (own_i2b p5)), (own_i2b (own_i2b p5)), (own_i2b (own_i2b p5)), (own_i2b (own_i2b p5)), (own_i2b (own_i2b p5))] (p4 &&& (3 : Int32)) (own_i2b (own_i2b p0))) ((p4 &&& (3 : Int32)) + (1 : Int32)) (own_i2b (own_i2b p1))) ((p4 &&& (3 : Int32)) + (2 : Int32)) (own_i2b (own_i2b p2))) ((p4 &&& (3 : Int32)) + (3 : Int32)) (own_i2b (own_i2b p3))) (p4 &&& (3 : Int32)) ((p4 &&& (3 : Int32)) + ((1 : Int32) + (own_rem ((own_ushr p4 (2 : Int32)) &&& (7 : Int32)) (5 : Int32))))) (0 : Int32) (0 : Int32) X55 e55 (One.val rfl) (One.val rfl) (One.val rfl) (One.val rfl) (One.val rfl) (One.val rfl) (One.val rfl) (One.val rfl) (One.val rfl) (One.val rfl) (One.val rfl) (One.val rfl) (One.val rfl) One.u hK
                    · rw [if_pos c57] at hK
                      refine o_iconst (pc' := 507) (x := (4 : Int32)) X55 hx (hb hby at_506) (by decide) rfl ?_
                      refine o_istore (pc' := 509) (l' := #[.val (.int p0), .val (.int p1), .val (.int p2), .val (.int p3), .val (.int p4), .val (.int p5), .val (.int (p4 &&& (3 : Int32))), .val (.int ((1 : Int32) + (own_rem ((own_ushr p4 (2 : Int32)) &&& (7 : Int32)) (5 : Int32)))), .val (.int (own_i2b p5)), .val (.ref b24), .val (.int (f1_0 (own_set (own_set (own_set (own_set [(own_i2b (own_i2b p5)), (own_i2b (own_i2b p5)), (own_i2b (own_i2b p5)), (own_i2b (own_i2b p5)), (own_i2b (own_i2b p5)), (own_i2b (own_i2b p5)), (own_i2b (own_i2b p5)), (own_i2b (own_i2b p5))] (p4 &&& (3 : Int32)) (own_i2b (own_i2b p0))) ((p4 &&& (3 : Int32)) + (1 : Int32)) (own_i2b (own_i2b p1))) ((p4 &&& (3 : Int32)) + (2 : Int32)) (own_i2b (own_i2b p2))) ((p4 &&& (3 : Int32)) + (3 : Int32)) (own_i2b (own_i2b p3))) (p4 &&& (3 : Int32)) ((p4 &&& (3 : Int32)) + ((1 : Int32) + (own_rem ((own_ushr p4 (2 : Int32)) &&& (7 : Int32)) (5 : Int32)))))), .val (.int (p0 &&& (255 : Int32))), .val (.int (p1 &&& (255 : Int32))), .val (.int (p2 &&& (255 : Int32))), .val (.int (p3 &&& (255 : Int32))), .val (.int (4 : Int32)), .unset, .unset]) X55 hx (hb hby at_507) rfl rfl ?_
                      refine o_iload (pc' := 511) X55 hx (hb hby at_509) rfl rfl ?_
                      refine o_sipush (pc' := 514) (x := (128 : Int32)) X55 hx (hb hby at_511) (by decide) rfl ?_
                      refine o_sipush (pc' := 517) (x := (143 : Int32)) X55 hx (hb hby at_514) (by decide) rfl ?_
                      refine o_callP (W := 0) (pc' := 520) (argsL := [(.int (p1 &&& (255 : Int32))), (.int (128 : Int32)), (.int (143 : Int32))]) (rest := []) (st' := [(.int (f2_0 (p1 &&& (255 : Int32)) (128 : Int32) (143 : Int32)))]) X55 hx hZ e55 hown (hw _ (List.mem_of_getElem? (i := 5) rfl)) (hw _ (List.mem_of_getElem? (i := 6) rfl)) (hw _ (List.mem_of_getElem? (i := 7) rfl)) (hw _ (List.mem_of_getElem? (i := 8) rfl)) (by decide) (rm2 l Z ag hw [] (p1 &&& (255 : Int32)) (128 : Int32) (143 : Int32) h36) (by decide) (by decide) (by rw [hml]; rfl) pd_1 rfl rfl rfl rfl (hb hby at_517) rfl rfl rfl (by decide) (by decide) rfl fun T58 X58 e58 => ?_
                      refine o_ifP (P := (f2_0 (p1 &&& (255 : Int32)) (128 : Int32) (143 : Int32)) = (0 : Int32)) (pc1 := 555) (pc2 := 523) X58 hx XT.i0_eq_t XT.i0_eq_f (hb hby at_520) (by decide) (by decide) rfl (fun c59 => ?_) (fun c59 => ?_)
                      · rw [if_pos c59] at hK
                        exact b0_555 C ((1 : Int32) + (own_rem ((own_ushr p4 (2 : Int32)) &&& (7 : Int32)) (5 : Int32))) (f1_0 (own_set (own_set (own_set (own_set [(own_i2b (own_i2b p5)), (own_i2b (own_i2b p5)), (own_i2b (own_i2b p5)), (own_i2b (own_i2b p5)), (own_i2b (own_i2b p5)), (own_i2b (own_i2b p5)), (own_i2b (own_i2b p5)), (own_i2b (own_i2b p5))] (p4 &&& (3 : Int32)) (own_i2b (own_i2b p0))) ((p4 &&& (3 : Int32)) + (1 : Int32)) (own_i2b (own_i2b p1))) ((p4 &&& (3 : Int32)) + (2 : Int32)) (own_i2b (own_i2b p2))) ((p4 &&& (3 : Int32)) + (3 : Int32)) (own_i2b (own_i2b p3))) (p4 &&& (3 : Int32)) ((p4 &&& (3 : Int32)) + ((1 : Int32) + (own_rem ((own_ushr p4 (2 : Int32)) &&& (7 : Int32)) (5 : Int32))))) (4 : Int32) X58 e58 (One.val rfl) (One.val rfl) (One.val rfl) (One.val rfl) (One.val rfl) (One.val rfl) (One.val rfl) (One.val rfl) (One.val rfl) (One.val rfl) (One.val rfl) (One.val rfl) (One.val rfl) One.u One.u hK
                      · rw [if_neg c59] at hK
                        refine o_iload (pc' := 525) X58 hx (hb hby at_523) rfl rfl ?_
                        refine o_sipush (pc' := 528) (x := (128 : Int32)) X58 hx (hb hby at_525) (by decide) rfl ?_
                        refine o_sipush (pc' := 531) (x := (191 : Int32)) X58 hx (hb hby at_528) (by decide) rfl ?_
                        refine o_callP (W := 0) (pc' := 534) (argsL := [(.int (p2 &&& (255 : Int32))), (.int (128 : Int32)), (.int (191 : Int32))]) (rest := []) (st' := [(.int (f2_0 (p2 &&& (255 : Int32)) (128 : Int32) (191 : Int32)))]) X58 hx hZ e58 hown (hw _ (List.mem_of_getElem? (i := 5) rfl)) (hw _ (List.mem_of_getElem? (i := 6) rfl)) (hw _ (List.mem_of_getElem? (i := 7) rfl)) (hw _ (List.mem_of_getElem? (i := 8) rfl)) (by decide) (rm2 l Z ag hw [] (p2 &&& (255 : Int32)) (128 : Int32) (191 : Int32) h36) (by decide) (by decide) (by rw [hml]; rfl) pd_1 rfl rfl rfl rfl (hb hby at_531) rfl rfl rfl (by decide) (by decide) rfl fun T60 X60 e60 => ?_
                        refine o_ifP (P := (f2_0 (p2 &&& (255 : Int32)) (128 : Int32) (191 : Int32)) = (0 : Int32)) (pc1 := 555) (pc2 := 537) X60 hx XT.i0_eq_t XT.i0_eq_f (hb hby at_534) (by decide) (by decide) rfl (fun c61 => ?_) (fun c61 => ?_)
                        · rw [if_pos c61] at hK
                          exact b0_555 C ((1 : Int32) + (own_rem ((own_ushr p4 (2 : Int32)) &&& (7 : Int32)) (5 : Int32))) (f1_0 (own_set (own_set (own_set (own_set [(own_i2b (own_i2b p5)), (own_i2b (own_i2b p5)), (own_i2b (own_i2b p5)), (own_i2b (own_i2b p5)), (own_i2b (own_i2b p5)), (own_i2b (own_i2b p5)), (own_i2b (own_i2b p5)), (own_i2b (own_i2b p5))] (p4 &&& (3 : Int32)) (own_i2b (own_i2b p0))) ((p4 &&& (3 : Int32)) + (1 : Int32)) (own_i2b (own_i2b p1))) ((p4 &&& (3 : Int32)) + (2 : Int32)) (own_i2b (own_i2b p2))) ((p4 &&& (3 : Int32)) + (3 : Int32)) (own_i2b (own_i2b p3))) (p4 &&& (3 : Int32)) ((p4 &&& (3 : Int32)) + ((1 : Int32) + (own_rem ((own_ushr p4 (2 : Int32)) &&& (7 : Int32)) (5 : Int32))))) (4 : Int32) X60 e60 (One.val rfl) (One.val rfl) (One.val rfl) (One.val rfl) (One.val rfl) (One.val rfl) (One.val rfl) (One.val rfl) (One.val rfl) (One.val rfl) (One.val rfl) (One.val rfl) (One.val rfl) One.u One.u hK
                        · rw [if_neg c61] at hK
                          refine o_iload (pc' := 539) X60 hx (hb hby at_537) rfl rfl ?_
                          refine o_sipush (pc' := 542) (x := (128 : Int32)) X60 hx (hb hby at_539) (by decide) rfl ?_
                          refine o_sipush (pc' := 545) (x := (191 : Int32)) X60 hx (hb hby at_542) (by decide) rfl ?_
                          refine o_callP (W := 0) (pc' := 548) (argsL := [(.int (p3 &&& (255 : Int32))), (.int (128 : Int32)), (.int (191 : Int32))]) (rest := []) (st' := [(.int (f2_0 (p3 &&& (255 : Int32)) (128 : Int32) (191 : Int32)))]) X60 hx hZ e60 hown (hw _ (List.mem_of_getElem? (i := 5) rfl)) (hw _ (List.mem_of_getElem? (i := 6) rfl)) (hw _ (List.mem_of_getElem? (i := 7) rfl)) (hw _ (List.mem_of_getElem? (i := 8) rfl)) (by decide) (rm2 l Z ag hw [] (p3 &&& (255 : Int32)) (128 : Int32) (191 : Int32) h36) (by decide) (by decide) (by rw [hml]; rfl) pd_1 rfl rfl rfl rfl (hb hby at_545) rfl rfl rfl (by decide) (by decide) rfl fun T62 X62 e62 => ?_
                          refine o_ifP (P := (f2_0 (p3 &&& (255 : Int32)) (128 : Int32) (191 : Int32)) = (0 : Int32)) (pc1 := 555) (pc2 := 551) X62 hx XT.i0_eq_t XT.i0_eq_f (hb hby at_548) (by decide) (by decide) rfl (fun c63 => ?_) (fun c63 => ?_)
                          · rw [if_pos c63] at hK
                            exact b0_555 C ((1 : Int32) + (own_rem ((own_ushr p4 (2 : Int32)) &&& (7 : Int32)) (5 : Int32))) (f1_0 (own_set (own_set (own_set (own_set [(own_i2b (own_i2b p5)), (own_i2b (own_i2b p5)), (own_i2b (own_i2b p5)), (own_i2b (own_i2b p5)), (own_i2b (own_i2b p5)), (own_i2b (own_i2b p5)), (own_i2b (own_i2b p5)), (own_i2b (own_i2b p5))] (p4 &&& (3 : Int32)) (own_i2b (own_i2b p0))) ((p4 &&& (3 : Int32)) + (1 : Int32)) (own_i2b (own_i2b p1))) ((p4 &&& (3 : Int32)) + (2 : Int32)) (own_i2b (own_i2b p2))) ((p4 &&& (3 : Int32)) + (3 : Int32)) (own_i2b (own_i2b p3))) (p4 &&& (3 : Int32)) ((p4 &&& (3 : Int32)) + ((1 : Int32) + (own_rem ((own_ushr p4 (2 : Int32)) &&& (7 : Int32)) (5 : Int32))))) (4 : Int32) X62 e62 (One.val rfl) (One.val rfl) (One.val rfl) (One.val rfl) (One.val rfl) (One.val rfl) (One.val rfl) (One.val rfl) (One.val rfl) (One.val rfl) (One.val rfl) (One.val rfl) (One.val rfl) One.u One.u hK
                          · rw [if_neg c63] at hK
                            refine o_iconst (pc' := 552) (x := (1 : Int32)) X62 hx (hb hby at_551) (by decide) rfl ?_
                            refine o_goto (pc' := 556) X62 hx (hb hby at_552) (by decide) (by decide) ?_
                            exact b0_556 C ((1 : Int32) + (own_rem ((own_ushr p4 (2 : Int32)) &&& (7 : Int32)) (5 : Int32))) (f1_0 (own_set (own_set (own_set (own_set [(own_i2b (own_i2b p5)), (own_i2b (own_i2b p5)), (own_i2b (own_i2b p5)), (own_i2b (own_i2b p5)), (own_i2b (own_i2b p5)), (own_i2b (own_i2b p5)), (own_i2b (own_i2b p5)), (own_i2b (own_i2b p5))] (p4 &&& (3 : Int32)) (own_i2b (own_i2b p0))) ((p4 &&& (3 : Int32)) + (1 : Int32)) (own_i2b (own_i2b p1))) ((p4 &&& (3 : Int32)) + (2 : Int32)) (own_i2b (own_i2b p2))) ((p4 &&& (3 : Int32)) + (3 : Int32)) (own_i2b (own_i2b p3))) (p4 &&& (3 : Int32)) ((p4 &&& (3 : Int32)) + ((1 : Int32) + (own_rem ((own_ushr p4 (2 : Int32)) &&& (7 : Int32)) (5 : Int32))))) (4 : Int32) (1 : Int32) X62 e62 (One.val rfl) (One.val rfl) (One.val rfl) (One.val rfl) (One.val rfl) (One.val rfl) (One.val rfl) (One.val rfl) (One.val rfl) (One.val rfl) (One.val rfl) (One.val rfl) (One.val rfl) One.u One.u hK
                  · rw [if_neg c56] at hK
                    refine o_iconst (pc' := 444) (x := (4 : Int32)) X55 hx (hb hby at_443) (by decide) rfl ?_
                    refine o_istore (pc' := 446) (l' := #[.val (.int p0), .val (.int p1), .val (.int p2), .val (.int p3), .val (.int p4), .val (.int p5), .val (.int (p4 &&& (3 : Int32))), .val (.int ((1 : Int32) + (own_rem ((own_ushr p4 (2 : Int32)) &&& (7 : Int32)) (5 : Int32)))), .val (.int (own_i2b p5)), .val (.ref b24), .val (.int (f1_0 (own_set (own_set (own_set (own_set [(own_i2b (own_i2b p5)), (own_i2b (own_i2b p5)), (own_i2b (own_i2b p5)), (own_i2b (own_i2b p5)), (own_i2b (own_i2b p5)), (own_i2b (own_i2b p5)), (own_i2b (own_i2b p5)), (own_i2b (own_i2b p5))] (p4 &&& (3 : Int32)) (own_i2b (own_i2b p0))) ((p4 &&& (3 : Int32)) + (1 : Int32)) (own_i2b (own_i2b p1))) ((p4 &&& (3 : Int32)) + (2 : Int32)) (own_i2b (own_i2b p2))) ((p4 &&& (3 : Int32)) + (3 : Int32)) (own_i2b (own_i2b p3))) (p4 &&& (3 : Int32)) ((p4 &&& (3 : Int32)) + ((1 : Int32) + (own_rem ((own_ushr p4 (2 : Int32)) &&& (7 : Int32)) (5 : Int32)))))), .val (.int (p0 &&& (255 : Int32))), .val (.int (p1 &&& (255 : Int32))), .val (.int (p2 &&& (255 : Int32))), .val (.int (p3 &&& (255 : Int32))), .val (.int (4 : Int32)), .unset, .unset]) X55 hx (hb hby at_444) rfl rfl ?_
                    refine o_iload (pc' := 448) X55 hx (hb hby at_446) rfl rfl ?_
                    refine o_sipush (pc' := 451) (x := (128 : Int32)) X55 hx (hb hby at_448) (by decide) rfl ?_
                    refine o_sipush (pc' := 454) (x := (191 : Int32)) X55 hx (hb hby at_451) (by decide) rfl ?_
                    refine o_callP (W := 0) (pc' := 457) (argsL := [(.int (p1 &&& (255 : Int32))), (.int (128 : Int32)), (.int (191 : Int32))]) (rest := []) (st' := [(.int (f2_0 (p1 &&& (255 : Int32)) (128 : Int32) (191 : Int32)))]) X55 hx hZ e55 hown (hw _ (List.mem_of_getElem? (i := 5) rfl)) (hw _ (List.mem_of_getElem? (i := 6) rfl)) (hw _ (List.mem_of_getElem? (i := 7) rfl)) (hw _ (List.mem_of_getElem? (i := 8) rfl)) (by decide) (rm2 l Z ag hw [] (p1 &&& (255 : Int32)) (128 : Int32) (191 : Int32) h36) (by decide) (by decide) (by rw [hml]; rfl) pd_1 rfl rfl rfl rfl (hb hby at_454) rfl rfl rfl (by decide) (by decide) rfl fun T64 X64 e64 => ?_
                    refine o_ifP (P := (f2_0 (p1 &&& (255 : Int32)) (128 : Int32) (191 : Int32)) = (0 : Int32)) (pc1 := 492) (pc2 := 460) X64 hx XT.i0_eq_t XT.i0_eq_f (hb hby at_457) (by decide) (by decide) rfl (fun c65 => ?_) (fun c65 => ?_)
                    · rw [if_pos c65] at hK
                      exact b0_492 C ((1 : Int32) + (own_rem ((own_ushr p4 (2 : Int32)) &&& (7 : Int32)) (5 : Int32))) (f1_0 (own_set (own_set (own_set (own_set [(own_i2b (own_i2b p5)), (own_i2b (own_i2b p5)), (own_i2b (own_i2b p5)), (own_i2b (own_i2b p5)), (own_i2b (own_i2b p5)), (own_i2b (own_i2b p5)), (own_i2b (own_i2b p5)), (own_i2b (own_i2b p5))] (p4 &&& (3 : Int32)) (own_i2b (own_i2b p0))) ((p4 &&& (3 : Int32)) + (1 : Int32)) (own_i2b (own_i2b p1))) ((p4 &&& (3 : Int32)) + (2 : Int32)) (own_i2b (own_i2b p2))) ((p4 &&& (3 : Int32)) + (3 : Int32)) (own_i2b (own_i2b p3))) (p4 &&& (3 : Int32)) ((p4 &&& (3 : Int32)) + ((1 : Int32) + (own_rem ((own_ushr p4 (2 : Int32)) &&& (7 : Int32)) (5 : Int32))))) (4 : Int32) X64 e64 (One.val rfl) (One.val rfl) (One.val rfl) (One.val rfl) (One.val rfl) (One.val rfl) (One.val rfl) (One.val rfl) (One.val rfl) (One.val rfl) (One.val rfl) (One.val rfl) (One.val rfl) One.u One.u hK
                    · rw [if_neg c65] at hK
                      refine o_iload (pc' := 462) X64 hx (hb hby at_460) rfl rfl ?_
                      refine o_sipush (pc' := 465) (x := (128 : Int32)) X64 hx (hb hby at_462) (by decide) rfl ?_
                      refine o_sipush (pc' := 468) (x := (191 : Int32)) X64 hx (hb hby at_465) (by decide) rfl ?_
                      refine o_callP (W := 0) (pc' := 471) (argsL := [(.int (p2 &&& (255 : Int32))), (.int (128 : Int32)), (.int (191 : Int32))]) (rest := []) (st' := [(.int (f2_0 (p2 &&& (255 : Int32)) (128 : Int32) (191 : Int32)))]) X64 hx hZ e64 hown (hw _ (List.mem_of_getElem? (i := 5) rfl)) (hw _ (List.mem_of_getElem? (i := 6) rfl)) (hw _ (List.mem_of_getElem? (i := 7) rfl)) (hw _ (List.mem_of_getElem? (i := 8) rfl)) (by decide) (rm2 l Z ag hw [] (p2 &&& (255 : Int32)) (128 : Int32) (191 : Int32) h36) (by decide) (by decide) (by rw [hml]; rfl) pd_1 rfl rfl rfl rfl (hb hby at_468) rfl rfl rfl (by decide) (by decide) rfl fun T66 X66 e66 => ?_
                      refine o_ifP (P := (f2_0 (p2 &&& (255 : Int32)) (128 : Int32) (191 : Int32)) = (0 : Int32)) (pc1 := 492) (pc2 := 474) X66 hx XT.i0_eq_t XT.i0_eq_f (hb hby at_471) (by decide) (by decide) rfl (fun c67 => ?_) (fun c67 => ?_)
                      · rw [if_pos c67] at hK
                        exact b0_492 C ((1 : Int32) + (own_rem ((own_ushr p4 (2 : Int32)) &&& (7 : Int32)) (5 : Int32))) (f1_0 (own_set (own_set (own_set (own_set [(own_i2b (own_i2b p5)), (own_i2b (own_i2b p5)), (own_i2b (own_i2b p5)), (own_i2b (own_i2b p5)), (own_i2b (own_i2b p5)), (own_i2b (own_i2b p5)), (own_i2b (own_i2b p5)), (own_i2b (own_i2b p5))] (p4 &&& (3 : Int32)) (own_i2b (own_i2b p0))) ((p4 &&& (3 : Int32)) + (1 : Int32)) (own_i2b (own_i2b p1))) ((p4 &&& (3 : Int32)) + (2 : Int32)) (own_i2b (own_i2b p2))) ((p4 &&& (3 : Int32)) + (3 : Int32)) (own_i2b (own_i2b p3))) (p4 &&& (3 : Int32)) ((p4 &&& (3 : Int32)) + ((1 : Int32) + (own_rem ((own_ushr p4 (2 : Int32)) &&& (7 : Int32)) (5 : Int32))))) (4 : Int32) X66 e66 (One.val rfl) (One.val rfl) (One.val rfl) (One.val rfl) (One.val rfl) (One.val rfl) (One.val rfl) (One.val rfl) (One.val rfl) (One.val rfl) (One.val rfl) (One.val rfl) (One.val rfl) One.u One.u hK
                      · rw [if_neg c67] at hK
                        refine o_iload (pc' := 476) X66 hx (hb hby at_474) rfl rfl ?_
                        refine o_sipush (pc' := 479) (x := (128 : Int32)) X66 hx (hb hby at_476) (by decide) rfl ?_
                        refine o_sipush (pc' := 482) (x := (191 : Int32)) X66 hx (hb hby at_479) (by decide) rfl ?_
                        refine o_callP (W := 0) (pc' := 485) (argsL := [(.int (p3 &&& (255 : Int32))), (.int (128 : Int32)), (.int (191 : Int32))]) (rest := []) (st' := [(.int (f2_0 (p3 &&& (255 : Int32)) (128 : Int32) (191 : Int32)))]) X66 hx hZ e66 hown (hw _ (List.mem_of_getElem? (i := 5) rfl)) (hw _ (List.mem_of_getElem? (i := 6) rfl)) (hw _ (List.mem_of_getElem? (i := 7) rfl)) (hw _ (List.mem_of_getElem? (i := 8) rfl)) (by decide) (rm2 l Z ag hw [] (p3 &&& (255 : Int32)) (128 : Int32) (191 : Int32) h36) (by decide) (by decide) (by rw [hml]; rfl) pd_1 rfl rfl rfl rfl (hb hby at_482) rfl rfl rfl (by decide) (by decide) rfl fun T68 X68 e68 => ?_
                        refine o_ifP (P := (f2_0 (p3 &&& (255 : Int32)) (128 : Int32) (191 : Int32)) = (0 : Int32)) (pc1 := 492) (pc2 := 488) X68 hx XT.i0_eq_t XT.i0_eq_f (hb hby at_485) (by decide) (by decide) rfl (fun c69 => ?_) (fun c69 => ?_)
                        · rw [if_pos c69] at hK
                          exact b0_492 C ((1 : Int32) + (own_rem ((own_ushr p4 (2 : Int32)) &&& (7 : Int32)) (5 : Int32))) (f1_0 (own_set (own_set (own_set (own_set [(own_i2b (own_i2b p5)), (own_i2b (own_i2b p5)), (own_i2b (own_i2b p5)), (own_i2b (own_i2b p5)), (own_i2b (own_i2b p5)), (own_i2b (own_i2b p5)), (own_i2b (own_i2b p5)), (own_i2b (own_i2b p5))] (p4 &&& (3 : Int32)) (own_i2b (own_i2b p0))) ((p4 &&& (3 : Int32)) + (1 : Int32)) (own_i2b (own_i2b p1))) ((p4 &&& (3 : Int32)) + (2 : Int32)) (own_i2b (own_i2b p2))) ((p4 &&& (3 : Int32)) + (3 : Int32)) (own_i2b (own_i2b p3))) (p4 &&& (3 : Int32)) ((p4 &&& (3 : Int32)) + ((1 : Int32) + (own_rem ((own_ushr p4 (2 : Int32)) &&& (7 : Int32)) (5 : Int32))))) (4 : Int32) X68 e68 (One.val rfl) (One.val rfl) (One.val rfl) (One.val rfl) (One.val rfl) (One.val rfl) (One.val rfl) (One.val rfl) (One.val rfl) (One.val rfl) (One.val rfl) (One.val rfl) (One.val rfl) One.u One.u hK
                        · rw [if_neg c69] at hK
                          refine o_iconst (pc' := 489) (x := (1 : Int32)) X68 hx (hb hby at_488) (by decide) rfl ?_
                          refine o_goto (pc' := 493) X68 hx (hb hby at_489) (by decide) (by decide) ?_
                          exact b0_493 C ((1 : Int32) + (own_rem ((own_ushr p4 (2 : Int32)) &&& (7 : Int32)) (5 : Int32))) (f1_0 (own_set (own_set (own_set (own_set [(own_i2b (own_i2b p5)), (own_i2b (own_i2b p5)), (own_i2b (own_i2b p5)), (own_i2b (own_i2b p5)), (own_i2b (own_i2b p5)), (own_i2b (own_i2b p5)), (own_i2b (own_i2b p5)), (own_i2b (own_i2b p5))] (p4 &&& (3 : Int32)) (own_i2b (own_i2b p0))) ((p4 &&& (3 : Int32)) + (1 : Int32)) (own_i2b (own_i2b p1))) ((p4 &&& (3 : Int32)) + (2 : Int32)) (own_i2b (own_i2b p2))) ((p4 &&& (3 : Int32)) + (3 : Int32)) (own_i2b (own_i2b p3))) (p4 &&& (3 : Int32)) ((p4 &&& (3 : Int32)) + ((1 : Int32) + (own_rem ((own_ushr p4 (2 : Int32)) &&& (7 : Int32)) (5 : Int32))))) (4 : Int32) (1 : Int32) X68 e68 (One.val rfl) (One.val rfl) (One.val rfl) (One.val rfl) (One.val rfl) (One.val rfl) (One.val rfl) (One.val rfl) (One.val rfl) (One.val rfl) (One.val rfl) (One.val rfl) (One.val rfl) One.u One.u hK
                · rw [if_pos c54] at hK
                  refine o_iconst (pc' := 375) (x := (4 : Int32)) X42 hx (hb hby at_374) (by decide) rfl ?_
                  refine o_istore (pc' := 377) (l' := #[.val (.int p0), .val (.int p1), .val (.int p2), .val (.int p3), .val (.int p4), .val (.int p5), .val (.int (p4 &&& (3 : Int32))), .val (.int ((1 : Int32) + (own_rem ((own_ushr p4 (2 : Int32)) &&& (7 : Int32)) (5 : Int32)))), .val (.int (own_i2b p5)), .val (.ref b24), .val (.int (f1_0 (own_set (own_set (own_set (own_set [(own_i2b (own_i2b p5)), (own_i2b (own_i2b p5)), (own_i2b (own_i2b p5)), (own_i2b (own_i2b p5)), (own_i2b (own_i2b p5)), (own_i2b (own_i2b p5)), (own_i2b (own_i2b p5)), (own_i2b (own_i2b p5))] (p4 &&& (3 : Int32)) (own_i2b (own_i2b p0))) ((p4 &&& (3 : Int32)) + (1 : Int32)) (own_i2b (own_i2b p1))) ((p4 &&& (3 : Int32)) + (2 : Int32)) (own_i2b (own_i2b p2))) ((p4 &&& (3 : Int32)) + (3 : Int32)) (own_i2b (own_i2b p3))) (p4 &&& (3 : Int32)) ((p4 &&& (3 : Int32)) + ((1 : Int32) + (own_rem ((own_ushr p4 (2 : Int32)) &&& (7 : Int32)) (5 : Int32)))))), .val (.int (p0 &&& (255 : Int32))), .val (.int (p1 &&& (255 : Int32))), .val (.int (p2 &&& (255 : Int32))), .val (.int (p3 &&& (255 : Int32))), .val (.int (4 : Int32)), .unset, .unset]) X42 hx (hb hby at_375) rfl rfl ?_
                  refine o_iload (pc' := 379) X42 hx (hb hby at_377) rfl rfl ?_
                  refine o_sipush (pc' := 382) (x := (144 : Int32)) X42 hx (hb hby at_379) (by decide) rfl ?_
                  refine o_sipush (pc' := 385) (x := (191 : Int32)) X42 hx (hb hby at_382) (by decide) rfl ?_
                  refine o_callP (W := 0) (pc' := 388) (argsL := [(.int (p1 &&& (255 : Int32))), (.int (144 : Int32)), (.int (191 : Int32))]) (rest := []) (st' := [(.int (f2_0 (p1 &&& (255 : Int32)) (144 : Int32) (191 : Int32)))]) X42 hx hZ e42 hown (hw _ (List.mem_of_getElem? (i := 5) rfl)) (hw _ (List.mem_of_getElem? (i := 6) rfl)) (hw _ (List.mem_of_getElem? (i := 7) rfl)) (hw _ (List.mem_of_getElem? (i := 8) rfl)) (by decide) (rm2 l Z ag hw [] (p1 &&& (255 : Int32)) (144 : Int32) (191 : Int32) h36) (by decide) (by decide) (by rw [hml]; rfl) pd_1 rfl rfl rfl rfl (hb hby at_385) rfl rfl rfl (by decide) (by decide) rfl fun T70 X70 e70 => ?_
                  refine o_ifP (P := (f2_0 (p1 &&& (255 : Int32)) (144 : Int32) (191 : Int32)) = (0 : Int32)) (pc1 := 423) (pc2 := 391) X70 hx XT.i0_eq_t XT.i0_eq_f (hb hby at_388) (by decide) (by decide) rfl (fun c71 => ?_) (fun c71 => ?_)
                  · rw [if_pos c71] at hK
                    exact b0_423 C ((1 : Int32) + (own_rem ((own_ushr p4 (2 : Int32)) &&& (7 : Int32)) (5 : Int32))) (f1_0 (own_set (own_set (own_set (own_set [(own_i2b (own_i2b p5)), (own_i2b (own_i2b p5)), (own_i2b (own_i2b p5)), (own_i2b (own_i2b p5)), (own_i2b (own_i2b p5)), (own_i2b (own_i2b p5)), (own_i2b (own_i2b p5)), (own_i2b (own_i2b p5))] (p4 &&& (3 : Int32)) (own_i2b (own_i2b p0))) ((p4 &&& (3 : Int32)) + (1 : Int32)) (own_i2b (own_i2b p1))) ((p4 &&& (3 : Int32)) + (2 : Int32)) (own_i2b (own_i2b p2))) ((p4 &&& (3 : Int32)) + (3 : Int32)) (own_i2b (own_i2b p3))) (p4 &&& (3 : Int32)) ((p4 &&& (3 : Int32)) + ((1 : Int32) + (own_rem ((own_ushr p4 (2 : Int32)) &&& (7 : Int32)) (5 : Int32))))) (4 : Int32) X70 e70 (One.val rfl) (One.val rfl) (One.val rfl) (One.val rfl) (One.val rfl) (One.val rfl) (One.val rfl) (One.val rfl) (One.val rfl) (One.val rfl) (One.val rfl) (One.val rfl) (One.val rfl) One.u One.u hK
                  · rw [if_neg c71] at hK
                    refine o_iload (pc' := 393) X70 hx (hb hby at_391) rfl rfl ?_
                    refine o_sipush (pc' := 396) (x := (128 : Int32)) X70 hx (hb hby at_393) (by decide) rfl ?_
                    refine o_sipush (pc' := 399) (x := (191 : Int32)) X70 hx (hb hby at_396) (by decide) rfl ?_
                    refine o_callP (W := 0) (pc' := 402) (argsL := [(.int (p2 &&& (255 : Int32))), (.int (128 : Int32)), (.int (191 : Int32))]) (rest := []) (st' := [(.int (f2_0 (p2 &&& (255 : Int32)) (128 : Int32) (191 : Int32)))]) X70 hx hZ e70 hown (hw _ (List.mem_of_getElem? (i := 5) rfl)) (hw _ (List.mem_of_getElem? (i := 6) rfl)) (hw _ (List.mem_of_getElem? (i := 7) rfl)) (hw _ (List.mem_of_getElem? (i := 8) rfl)) (by decide) (rm2 l Z ag hw [] (p2 &&& (255 : Int32)) (128 : Int32) (191 : Int32) h36) (by decide) (by decide) (by rw [hml]; rfl) pd_1 rfl rfl rfl rfl (hb hby at_399) rfl rfl rfl (by decide) (by decide) rfl fun T72 X72 e72 => ?_
                    refine o_ifP (P := (f2_0 (p2 &&& (255 : Int32)) (128 : Int32) (191 : Int32)) = (0 : Int32)) (pc1 := 423) (pc2 := 405) X72 hx XT.i0_eq_t XT.i0_eq_f (hb hby at_402) (by decide) (by decide) rfl (fun c73 => ?_) (fun c73 => ?_)
                    · rw [if_pos c73] at hK
                      exact b0_423 C ((1 : Int32) + (own_rem ((own_ushr p4 (2 : Int32)) &&& (7 : Int32)) (5 : Int32))) (f1_0 (own_set (own_set (own_set (own_set [(own_i2b (own_i2b p5)), (own_i2b (own_i2b p5)), (own_i2b (own_i2b p5)), (own_i2b (own_i2b p5)), (own_i2b (own_i2b p5)), (own_i2b (own_i2b p5)), (own_i2b (own_i2b p5)), (own_i2b (own_i2b p5))] (p4 &&& (3 : Int32)) (own_i2b (own_i2b p0))) ((p4 &&& (3 : Int32)) + (1 : Int32)) (own_i2b (own_i2b p1))) ((p4 &&& (3 : Int32)) + (2 : Int32)) (own_i2b (own_i2b p2))) ((p4 &&& (3 : Int32)) + (3 : Int32)) (own_i2b (own_i2b p3))) (p4 &&& (3 : Int32)) ((p4 &&& (3 : Int32)) + ((1 : Int32) + (own_rem ((own_ushr p4 (2 : Int32)) &&& (7 : Int32)) (5 : Int32))))) (4 : Int32) X72 e72 (One.val rfl) (One.val rfl) (One.val rfl) (One.val rfl) (One.val rfl) (One.val rfl) (One.val rfl) (One.val rfl) (One.val rfl) (One.val rfl) (One.val rfl) (One.val rfl) (One.val rfl) One.u One.u hK
                    · rw [if_neg c73] at hK
                      refine o_iload (pc' := 407) X72 hx (hb hby at_405) rfl rfl ?_
                      refine o_sipush (pc' := 410) (x := (128 : Int32)) X72 hx (hb hby at_407) (by decide) rfl ?_
                      refine o_sipush (pc' := 413) (x := (191 : Int32)) X72 hx (hb hby at_410) (by decide) rfl ?_
                      refine o_callP (W := 0) (pc' := 416) (argsL := [(.int (p3 &&& (255 : Int32))), (.int (128 : Int32)), (.int (191 : Int32))]) (rest := []) (st' := [(.int (f2_0 (p3 &&& (255 : Int32)) (128 : Int32) (191 : Int32)))]) X72 hx hZ e72 hown (hw _ (List.mem_of_getElem? (i := 5) rfl)) (hw _ (List.mem_of_getElem? (i := 6) rfl)) (hw _ (List.mem_of_getElem? (i := 7) rfl)) (hw _ (List.mem_of_getElem? (i := 8) rfl)) (by decide) (rm2 l Z ag hw [] (p3 &&& (255 : Int32)) (128 : Int32) (191 : Int32) h36) (by decide) (by decide) (by rw [hml]; rfl) pd_1 rfl rfl rfl rfl (hb hby at_413) rfl rfl rfl (by decide) (by decide) rfl fun T74 X74 e74 => ?_
                      refine o_ifP (P := (f2_0 (p3 &&& (255 : Int32)) (128 : Int32) (191 : Int32)) = (0 : Int32)) (pc1 := 423) (pc2 := 419) X74 hx XT.i0_eq_t XT.i0_eq_f (hb hby at_416) (by decide) (by decide) rfl (fun c75 => ?_) (fun c75 => ?_)
                      · rw [if_pos c75] at hK
                        exact b0_423 C ((1 : Int32) + (own_rem ((own_ushr p4 (2 : Int32)) &&& (7 : Int32)) (5 : Int32))) (f1_0 (own_set (own_set (own_set (own_set [(own_i2b (own_i2b p5)), (own_i2b (own_i2b p5)), (own_i2b (own_i2b p5)), (own_i2b (own_i2b p5)), (own_i2b (own_i2b p5)), (own_i2b (own_i2b p5)), (own_i2b (own_i2b p5)), (own_i2b (own_i2b p5))] (p4 &&& (3 : Int32)) (own_i2b (own_i2b p0))) ((p4 &&& (3 : Int32)) + (1 : Int32)) (own_i2b (own_i2b p1))) ((p4 &&& (3 : Int32)) + (2 : Int32)) (own_i2b (own_i2b p2))) ((p4 &&& (3 : Int32)) + (3 : Int32)) (own_i2b (own_i2b p3))) (p4 &&& (3 : Int32)) ((p4 &&& (3 : Int32)) + ((1 : Int32) + (own_rem ((own_ushr p4 (2 : Int32)) &&& (7 : Int32)) (5 : Int32))))) (4 : Int32) X74 e74 (One.val rfl) (One.val rfl) (One.val rfl) (One.val rfl) (One.val rfl) (One.val rfl) (One.val rfl) (One.val rfl) (One.val rfl) (One.val rfl) (One.val rfl) (One.val rfl) (One.val rfl) One.u One.u hK
                      · rw [if_neg c75] at hK
                        refine o_iconst (pc' := 420) (x := (1 : Int32)) X74 hx (hb hby at_419) (by decide) rfl ?_
                        refine o_goto (pc' := 424) X74 hx (hb hby at_420) (by decide) (by decide) ?_
                        exact b0_424 C ((1 : Int32) + (own_rem ((own_ushr p4 (2 : Int32)) &&& (7 : Int32)) (5 : Int32))) (f1_0 (own_set (own_set (own_set (own_set [(own_i2b (own_i2b p5)), (own_i2b (own_i2b p5)), (own_i2b (own_i2b p5)), (own_i2b (own_i2b p5)), (own_i2b (own_i2b p5)), (own_i2b (own_i2b p5)), (own_i2b (own_i2b p5)), (own_i2b (own_i2b p5))] (p4 &&& (3 : Int32)) (own_i2b (own_i2b p0))) ((p4 &&& (3 : Int32)) + (1 : Int32)) (own_i2b (own_i2b p1))) ((p4 &&& (3 : Int32)) + (2 : Int32)) (own_i2b (own_i2b p2))) ((p4 &&& (3 : Int32)) + (3 : Int32)) (own_i2b (own_i2b p3))) (p4 &&& (3 : Int32)) ((p4 &&& (3 : Int32)) + ((1 : Int32) + (own_rem ((own_ushr p4 (2 : Int32)) &&& (7 : Int32)) (5 : Int32))))) (4 : Int32) (1 : Int32) X74 e74 (One.val rfl) (One.val rfl) (One.val rfl) (One.val rfl) (One.val rfl) (One.val rfl) (One.val rfl) (One.val rfl) (One.val rfl) (One.val rfl) (One.val rfl) (One.val rfl) (One.val rfl) One.u One.u hK
              · rw [if_pos c53] at hK
                refine o_iconst (pc' := 326) (x := (3 : Int32)) X42 hx (hb hby at_325) (by decide) rfl ?_
                refine o_istore (pc' := 328) (l' := #[.val (.int p0), .val (.int p1), .val (.int p2), .val (.int p3), .val (.int p4), .val (.int p5), .val (.int (p4 &&& (3 : Int32))), .val (.int ((1 : Int32) + (own_rem ((own_ushr p4 (2 : Int32)) &&& (7 : Int32)) (5 : Int32)))), .val (.int (own_i2b p5)), .val (.ref b24), .val (.int (f1_0 (own_set (own_set (own_set (own_set [(own_i2b (own_i2b p5)), (own_i2b (own_i2b p5)), (own_i2b (own_i2b p5)), (own_i2b (own_i2b p5)), (own_i2b (own_i2b p5)), (own_i2b (own_i2b p5)), (own_i2b (own_i2b p5)), (own_i2b (own_i2b p5))] (p4 &&& (3 : Int32)) (own_i2b (own_i2b p0))) ((p4 &&& (3 : Int32)) + (1 : Int32)) (own_i2b (own_i2b p1))) ((p4 &&& (3 : Int32)) + (2 : Int32)) (own_i2b (own_i2b p2))) ((p4 &&& (3 : Int32)) + (3 : Int32)) (own_i2b (own_i2b p3))) (p4 &&& (3 : Int32)) ((p4 &&& (3 : Int32)) + ((1 : Int32) + (own_rem ((own_ushr p4 (2 : Int32)) &&& (7 : Int32)) (5 : Int32)))))), .val (.int (p0 &&& (255 : Int32))), .val (.int (p1 &&& (255 : Int32))), .val (.int (p2 &&& (255 : Int32))), .val (.int (p3 &&& (255 : Int32))), .val (.int (3 : Int32)), .unset, .unset]) X42 hx (hb hby at_326) rfl rfl ?_
                refine o_iload (pc' := 330) X42 hx (hb hby at_328) rfl rfl ?_
                refine o_sipush (pc' := 333) (x := (128 : Int32)) X42 hx (hb hby at_330) (by decide) rfl ?_
                refine o_sipush (pc' := 336) (x := (159 : Int32)) X42 hx (hb hby at_333) (by decide) rfl ?_
                refine o_callP (W := 0) (pc' := 339) (argsL := [(.int (p1 &&& (255 : Int32))), (.int (128 : Int32)), (.int (159 : Int32))]) (rest := []) (st' := [(.int (f2_0 (p1 &&& (255 : Int32)) (128 : Int32) (159 : Int32)))]) X42 hx hZ e42 hown (hw _ (List.mem_of_getElem? (i := 5) rfl)) (hw _ (List.mem_of_getElem? (i := 6) rfl)) (hw _ (List.mem_of_getElem? (i := 7) rfl)) (hw _ (List.mem_of_getElem? (i := 8) rfl)) (by decide) (rm2 l Z ag hw [] (p1 &&& (255 : Int32)) (128 : Int32) (159 : Int32) h36) (by decide) (by decide) (by rw [hml]; rfl) pd_1 rfl rfl rfl rfl (hb hby at_336) rfl rfl rfl (by decide) (by decide) rfl fun T76 X76 e76 => ?_
                refine o_ifP (P := (f2_0 (p1 &&& (255 : Int32)) (128 : Int32) (159 : Int32)) = (0 : Int32)) (pc1 := 360) (pc2 := 342) X76 hx XT.i0_eq_t XT.i0_eq_f (hb hby at_339) (by decide) (by decide) rfl (fun c77 => ?_) (fun c77 => ?_)
                · rw [if_pos c77] at hK
                  exact b0_360 C ((1 : Int32) + (own_rem ((own_ushr p4 (2 : Int32)) &&& (7 : Int32)) (5 : Int32))) (f1_0 (own_set (own_set (own_set (own_set [(own_i2b (own_i2b p5)), (own_i2b (own_i2b p5)), (own_i2b (own_i2b p5)), (own_i2b (own_i2b p5)), (own_i2b (own_i2b p5)), (own_i2b (own_i2b p5)), (own_i2b (own_i2b p5)), (own_i2b (own_i2b p5))] (p4 &&& (3 : Int32)) (own_i2b (own_i2b p0))) ((p4 &&& (3 : Int32)) + (1 : Int32)) (own_i2b (own_i2b p1))) ((p4 &&& (3 : Int32)) + (2 : Int32)) (own_i2b (own_i2b p2))) ((p4 &&& (3 : Int32)) + (3 : Int32)) (own_i2b (own_i2b p3))) (p4 &&& (3 : Int32)) ((p4 &&& (3 : Int32)) + ((1 : Int32) + (own_rem ((own_ushr p4 (2 : Int32)) &&& (7 : Int32)) (5 : Int32))))) (3 : Int32) X76 e76 (One.val rfl) (One.val rfl) (One.val rfl) (One.val rfl) (One.val rfl) (One.val rfl) (One.val rfl) (One.val rfl) (One.val rfl) (One.val rfl) (One.val rfl) (One.val rfl) (One.val rfl) One.u One.u hK
                · rw [if_neg c77] at hK
                  refine o_iload (pc' := 344) X76 hx (hb hby at_342) rfl rfl ?_
                  refine o_sipush (pc' := 347) (x := (128 : Int32)) X76 hx (hb hby at_344) (by decide) rfl ?_
                  refine o_sipush (pc' := 350) (x := (191 : Int32)) X76 hx (hb hby at_347) (by decide) rfl ?_
                  refine o_callP (W := 0) (pc' := 353) (argsL := [(.int (p2 &&& (255 : Int32))), (.int (128 : Int32)), (.int (191 : Int32))]) (rest := []) (st' := [(.int (f2_0 (p2 &&& (255 : Int32)) (128 : Int32) (191 : Int32)))]) X76 hx hZ e76 hown (hw _ (List.mem_of_getElem? (i := 5) rfl)) (hw _ (List.mem_of_getElem? (i := 6) rfl)) (hw _ (List.mem_of_getElem? (i := 7) rfl)) (hw _ (List.mem_of_getElem? (i := 8) rfl)) (by decide) (rm2 l Z ag hw [] (p2 &&& (255 : Int32)) (128 : Int32) (191 : Int32) h36) (by decide) (by decide) (by rw [hml]; rfl) pd_1 rfl rfl rfl rfl (hb hby at_350) rfl rfl rfl (by decide) (by decide) rfl fun T78 X78 e78 => ?_
                  refine o_ifP (P := (f2_0 (p2 &&& (255 : Int32)) (128 : Int32) (191 : Int32)) = (0 : Int32)) (pc1 := 360) (pc2 := 356) X78 hx XT.i0_eq_t XT.i0_eq_f (hb hby at_353) (by decide) (by decide) rfl (fun c79 => ?_) (fun c79 => ?_)
                  · rw [if_pos c79] at hK
                    exact b0_360 C ((1 : Int32) + (own_rem ((own_ushr p4 (2 : Int32)) &&& (7 : Int32)) (5 : Int32))) (f1_0 (own_set (own_set (own_set (own_set [(own_i2b (own_i2b p5)), (own_i2b (own_i2b p5)), (own_i2b (own_i2b p5)), (own_i2b (own_i2b p5)), (own_i2b (own_i2b p5)), (own_i2b (own_i2b p5)), (own_i2b (own_i2b p5)), (own_i2b (own_i2b p5))] (p4 &&& (3 : Int32)) (own_i2b (own_i2b p0))) ((p4 &&& (3 : Int32)) + (1 : Int32)) (own_i2b (own_i2b p1))) ((p4 &&& (3 : Int32)) + (2 : Int32)) (own_i2b (own_i2b p2))) ((p4 &&& (3 : Int32)) + (3 : Int32)) (own_i2b (own_i2b p3))) (p4 &&& (3 : Int32)) ((p4 &&& (3 : Int32)) + ((1 : Int32) + (own_rem ((own_ushr p4 (2 : Int32)) &&& (7 : Int32)) (5 : Int32))))) (3 : Int32) X78 e78 (One.val rfl) (One.val rfl) (One.val rfl) (One.val rfl) (One.val rfl) (One.val rfl) (One.val rfl) (One.val rfl) (One.val rfl) (One.val rfl) (One.val rfl) (One.val rfl) (One.val rfl) One.u One.u hK
                  · rw [if_neg c79] at hK
                    refine o_iconst (pc' := 357) (x := (1 : Int32)) X78 hx (hb hby at_356) (by decide) rfl ?_
                    refine o_goto (pc' := 361) X78 hx (hb hby at_357) (by decide) (by decide) ?_
                    exact b0_361 C ((1 : Int32) + (own_rem ((own_ushr p4 (2 : Int32)) &&& (7 : Int32)) (5 : Int32))) (f1_0 (own_set (own_set (own_set (own_set [(own_i2b (own_i2b p5)), (own_i2b (own_i2b p5)), (own_i2b (own_i2b p5)), (own_i2b (own_i2b p5)), (own_i2b (own_i2b p5)), (own_i2b (own_i2b p5)), (own_i2b (own_i2b p5)), (own_i2b (own_i2b p5))] (p4 &&& (3 : Int32)) (own_i2b (own_i2b p0))) ((p4 &&& (3 : Int32)) + (1 : Int32)) (own_i2b (own_i2b p1))) ((p4 &&& (3 : Int32)) + (2 : Int32)) (own_i2b (own_i2b p2))) ((p4 &&& (3 : Int32)) + (3 : Int32)) (own_i2b (own_i2b p3))) (p4 &&& (3 : Int32)) ((p4 &&& (3 : Int32)) + ((1 : Int32) + (own_rem ((own_ushr p4 (2 : Int32)) &&& (7 : Int32)) (5 : Int32))))) (3 : Int32) (1 : Int32) X78 e78 (One.val rfl) (One.val rfl) (One.val rfl) (One.val rfl) (One.val rfl) (One.val rfl) (One.val rfl) (One.val rfl) (One.val rfl) (One.val rfl) (One.val rfl) (One.val rfl) (One.val rfl) One.u One.u hK
            · rw [if_pos c52] at hK
              exact b0_276 C ((1 : Int32) + (own_rem ((own_ushr p4 (2 : Int32)) &&& (7 : Int32)) (5 : Int32))) (f1_0 (own_set (own_set (own_set (own_set [(own_i2b (own_i2b p5)), (own_i2b (own_i2b p5)), (own_i2b (own_i2b p5)), (own_i2b (own_i2b p5)), (own_i2b (own_i2b p5)), (own_i2b (own_i2b p5)), (own_i2b (own_i2b p5)), (own_i2b (own_i2b p5))] (p4 &&& (3 : Int32)) (own_i2b (own_i2b p0))) ((p4 &&& (3 : Int32)) + (1 : Int32)) (own_i2b (own_i2b p1))) ((p4 &&& (3 : Int32)) + (2 : Int32)) (own_i2b (own_i2b p2))) ((p4 &&& (3 : Int32)) + (3 : Int32)) (own_i2b (own_i2b p3))) (p4 &&& (3 : Int32)) ((p4 &&& (3 : Int32)) + ((1 : Int32) + (own_rem ((own_ushr p4 (2 : Int32)) &&& (7 : Int32)) (5 : Int32))))) (p1 &&& (255 : Int32)) (p2 &&& (255 : Int32)) X42 e42 (One.val rfl) (One.val rfl) (One.val rfl) (One.val rfl) (One.val rfl) (One.val rfl) (One.val rfl) (One.val rfl) (One.val rfl) (One.val rfl) (One.val rfl) One.u One.u One.u hK
      · rw [if_pos c41] at hK
        refine o_iconst (pc' := 206) (x := (3 : Int32)) X39 hx (hb hby at_205) (by decide) rfl ?_
        refine o_istore (pc' := 208) (l' := #[.val (.int p0), .val (.int p1), .val (.int p2), .val (.int p3), .val (.int p4), .val (.int p5), .val (.int (p4 &&& (3 : Int32))), .val (.int ((1 : Int32) + (own_rem ((own_ushr p4 (2 : Int32)) &&& (7 : Int32)) (5 : Int32)))), .val (.int (own_i2b p5)), .val (.ref b24), .val (.int (f1_0 (own_set (own_set (own_set (own_set [(own_i2b (own_i2b p5)), (own_i2b (own_i2b p5)), (own_i2b (own_i2b p5)), (own_i2b (own_i2b p5)), (own_i2b (own_i2b p5)), (own_i2b (own_i2b p5)), (own_i2b (own_i2b p5)), (own_i2b (own_i2b p5))] (p4 &&& (3 : Int32)) (own_i2b (own_i2b p0))) ((p4 &&& (3 : Int32)) + (1 : Int32)) (own_i2b (own_i2b p1))) ((p4 &&& (3 : Int32)) + (2 : Int32)) (own_i2b (own_i2b p2))) ((p4 &&& (3 : Int32)) + (3 : Int32)) (own_i2b (own_i2b p3))) (p4 &&& (3 : Int32)) ((p4 &&& (3 : Int32)) + ((1 : Int32) + (own_rem ((own_ushr p4 (2 : Int32)) &&& (7 : Int32)) (5 : Int32)))))), .val (.int (p0 &&& (255 : Int32))), .val (.int (p1 &&& (255 : Int32))), .val (.int (p2 &&& (255 : Int32))), .val (.int (p3 &&& (255 : Int32))), .val (.int (3 : Int32)), .unset, .unset]) X39 hx (hb hby at_206) rfl rfl ?_
        refine o_iload (pc' := 210) X39 hx (hb hby at_208) rfl rfl ?_
        refine o_sipush (pc' := 213) (x := (160 : Int32)) X39 hx (hb hby at_210) (by decide) rfl ?_
        refine o_sipush (pc' := 216) (x := (191 : Int32)) X39 hx (hb hby at_213) (by decide) rfl ?_
        refine o_callP (W := 0) (pc' := 219) (argsL := [(.int (p1 &&& (255 : Int32))), (.int (160 : Int32)), (.int (191 : Int32))]) (rest := []) (st' := [(.int (f2_0 (p1 &&& (255 : Int32)) (160 : Int32) (191 : Int32)))]) X39 hx hZ e39 hown (hw _ (List.mem_of_getElem? (i := 5) rfl)) (hw _ (List.mem_of_getElem? (i := 6) rfl)) (hw _ (List.mem_of_getElem? (i := 7) rfl)) (hw _ (List.mem_of_getElem? (i := 8) rfl)) (by decide) (rm2 l Z ag hw [] (p1 &&& (255 : Int32)) (160 : Int32) (191 : Int32) h36) (by decide) (by decide) (by rw [hml]; rfl) pd_1 rfl rfl rfl rfl (hb hby at_216) rfl rfl rfl (by decide) (by decide) rfl fun T80 X80 e80 => ?_
        refine o_ifP (P := (f2_0 (p1 &&& (255 : Int32)) (160 : Int32) (191 : Int32)) = (0 : Int32)) (pc1 := 240) (pc2 := 222) X80 hx XT.i0_eq_t XT.i0_eq_f (hb hby at_219) (by decide) (by decide) rfl (fun c81 => ?_) (fun c81 => ?_)
        · rw [if_pos c81] at hK
          exact b0_240 C ((1 : Int32) + (own_rem ((own_ushr p4 (2 : Int32)) &&& (7 : Int32)) (5 : Int32))) (f1_0 (own_set (own_set (own_set (own_set [(own_i2b (own_i2b p5)), (own_i2b (own_i2b p5)), (own_i2b (own_i2b p5)), (own_i2b (own_i2b p5)), (own_i2b (own_i2b p5)), (own_i2b (own_i2b p5)), (own_i2b (own_i2b p5)), (own_i2b (own_i2b p5))] (p4 &&& (3 : Int32)) (own_i2b (own_i2b p0))) ((p4 &&& (3 : Int32)) + (1 : Int32)) (own_i2b (own_i2b p1))) ((p4 &&& (3 : Int32)) + (2 : Int32)) (own_i2b (own_i2b p2))) ((p4 &&& (3 : Int32)) + (3 : Int32)) (own_i2b (own_i2b p3))) (p4 &&& (3 : Int32)) ((p4 &&& (3 : Int32)) + ((1 : Int32) + (own_rem ((own_ushr p4 (2 : Int32)) &&& (7 : Int32)) (5 : Int32))))) (3 : Int32) X80 e80 (One.val rfl) (One.val rfl) (One.val rfl) (One.val rfl) (One.val rfl) (One.val rfl) (One.val rfl) (One.val rfl) (One.val rfl) (One.val rfl) (One.val rfl) (One.val rfl) (One.val rfl) One.u One.u hK
        · rw [if_neg c81] at hK
          refine o_iload (pc' := 224) X80 hx (hb hby at_222) rfl rfl ?_
          refine o_sipush (pc' := 227) (x := (128 : Int32)) X80 hx (hb hby at_224) (by decide) rfl ?_
          refine o_sipush (pc' := 230) (x := (191 : Int32)) X80 hx (hb hby at_227) (by decide) rfl ?_
          refine o_callP (W := 0) (pc' := 233) (argsL := [(.int (p2 &&& (255 : Int32))), (.int (128 : Int32)), (.int (191 : Int32))]) (rest := []) (st' := [(.int (f2_0 (p2 &&& (255 : Int32)) (128 : Int32) (191 : Int32)))]) X80 hx hZ e80 hown (hw _ (List.mem_of_getElem? (i := 5) rfl)) (hw _ (List.mem_of_getElem? (i := 6) rfl)) (hw _ (List.mem_of_getElem? (i := 7) rfl)) (hw _ (List.mem_of_getElem? (i := 8) rfl)) (by decide) (rm2 l Z ag hw [] (p2 &&& (255 : Int32)) (128 : Int32) (191 : Int32) h36) (by decide) (by decide) (by rw [hml]; rfl) pd_1 rfl rfl rfl rfl (hb hby at_230) rfl rfl rfl (by decide) (by decide) rfl fun T82 X82 e82 => ?_
          refine o_ifP (P := (f2_0 (p2 &&& (255 : Int32)) (128 : Int32) (191 : Int32)) = (0 : Int32)) (pc1 := 240) (pc2 := 236) X82 hx XT.i0_eq_t XT.i0_eq_f (hb hby at_233) (by decide) (by decide) rfl (fun c83 => ?_) (fun c83 => ?_)
          · rw [if_pos c83] at hK
            exact b0_240 C ((1 : Int32) + (own_rem ((own_ushr p4 (2 : Int32)) &&& (7 : Int32)) (5 : Int32))) (f1_0 (own_set (own_set (own_set (own_set [(own_i2b (own_i2b p5)), (own_i2b (own_i2b p5)), (own_i2b (own_i2b p5)), (own_i2b (own_i2b p5)), (own_i2b (own_i2b p5)), (own_i2b (own_i2b p5)), (own_i2b (own_i2b p5)), (own_i2b (own_i2b p5))] (p4 &&& (3 : Int32)) (own_i2b (own_i2b p0))) ((p4 &&& (3 : Int32)) + (1 : Int32)) (own_i2b (own_i2b p1))) ((p4 &&& (3 : Int32)) + (2 : Int32)) (own_i2b (own_i2b p2))) ((p4 &&& (3 : Int32)) + (3 : Int32)) (own_i2b (own_i2b p3))) (p4 &&& (3 : Int32)) ((p4 &&& (3 : Int32)) + ((1 : Int32) + (own_rem ((own_ushr p4 (2 : Int32)) &&& (7 : Int32)) (5 : Int32))))) (3 : Int32) X82 e82 (One.val rfl) (One.val rfl) (One.val rfl) (One.val rfl) (One.val rfl) (One.val rfl) (One.val rfl) (One.val rfl) (One.val rfl) (One.val rfl) (One.val rfl) (One.val rfl) (One.val rfl) One.u One.u hK
          · rw [if_neg c83] at hK
            refine o_iconst (pc' := 237) (x := (1 : Int32)) X82 hx (hb hby at_236) (by decide) rfl ?_
            refine o_goto (pc' := 241) X82 hx (hb hby at_237) (by decide) (by decide) ?_
            exact b0_241 C ((1 : Int32) + (own_rem ((own_ushr p4 (2 : Int32)) &&& (7 : Int32)) (5 : Int32))) (f1_0 (own_set (own_set (own_set (own_set [(own_i2b (own_i2b p5)), (own_i2b (own_i2b p5)), (own_i2b (own_i2b p5)), (own_i2b (own_i2b p5)), (own_i2b (own_i2b p5)), (own_i2b (own_i2b p5)), (own_i2b (own_i2b p5)), (own_i2b (own_i2b p5))] (p4 &&& (3 : Int32)) (own_i2b (own_i2b p0))) ((p4 &&& (3 : Int32)) + (1 : Int32)) (own_i2b (own_i2b p1))) ((p4 &&& (3 : Int32)) + (2 : Int32)) (own_i2b (own_i2b p2))) ((p4 &&& (3 : Int32)) + (3 : Int32)) (own_i2b (own_i2b p3))) (p4 &&& (3 : Int32)) ((p4 &&& (3 : Int32)) + ((1 : Int32) + (own_rem ((own_ushr p4 (2 : Int32)) &&& (7 : Int32)) (5 : Int32))))) (3 : Int32) (1 : Int32) X82 e82 (One.val rfl) (One.val rfl) (One.val rfl) (One.val rfl) (One.val rfl) (One.val rfl) (One.val rfl) (One.val rfl) (One.val rfl) (One.val rfl) (One.val rfl) (One.val rfl) (One.val rfl) One.u One.u hK
    · rw [if_neg c40] at hK
      refine o_iconst (pc' := 179) (x := (2 : Int32)) X39 hx (hb hby at_178) (by decide) rfl ?_
      refine o_istore (pc' := 181) (l' := #[.val (.int p0), .val (.int p1), .val (.int p2), .val (.int p3), .val (.int p4), .val (.int p5), .val (.int (p4 &&& (3 : Int32))), .val (.int ((1 : Int32) + (own_rem ((own_ushr p4 (2 : Int32)) &&& (7 : Int32)) (5 : Int32)))), .val (.int (own_i2b p5)), .val (.ref b24), .val (.int (f1_0 (own_set (own_set (own_set (own_set [(own_i2b (own_i2b p5)), (own_i2b (own_i2b p5)), (own_i2b (own_i2b p5)), (own_i2b (own_i2b p5)), (own_i2b (own_i2b p5)), (own_i2b (own_i2b p5)), (own_i2b (own_i2b p5)), (own_i2b (own_i2b p5))] (p4 &&& (3 : Int32)) (own_i2b (own_i2b p0))) ((p4 &&& (3 : Int32)) + (1 : Int32)) (own_i2b (own_i2b p1))) ((p4 &&& (3 : Int32)) + (2 : Int32)) (own_i2b (own_i2b p2))) ((p4 &&& (3 : Int32)) + (3 : Int32)) (own_i2b (own_i2b p3))) (p4 &&& (3 : Int32)) ((p4 &&& (3 : Int32)) + ((1 : Int32) + (own_rem ((own_ushr p4 (2 : Int32)) &&& (7 : Int32)) (5 : Int32)))))), .val (.int (p0 &&& (255 : Int32))), .val (.int (p1 &&& (255 : Int32))), .val (.int (p2 &&& (255 : Int32))), .val (.int (p3 &&& (255 : Int32))), .val (.int (2 : Int32)), .unset, .unset]) X39 hx (hb hby at_179) rfl rfl ?_
      refine o_iload (pc' := 183) X39 hx (hb hby at_181) rfl rfl ?_
      refine o_sipush (pc' := 186) (x := (128 : Int32)) X39 hx (hb hby at_183) (by decide) rfl ?_
      refine o_sipush (pc' := 189) (x := (191 : Int32)) X39 hx (hb hby at_186) (by decide) rfl ?_
      refine o_callP (W := 0) (pc' := 192) (argsL := [(.int (p1 &&& (255 : Int32))), (.int (128 : Int32)), (.int (191 : Int32))]) (rest := []) (st' := [(.int (f2_0 (p1 &&& (255 : Int32)) (128 : Int32) (191 : Int32)))]) X39 hx hZ e39 hown (hw _ (List.mem_of_getElem? (i := 5) rfl)) (hw _ (List.mem_of_getElem? (i := 6) rfl)) (hw _ (List.mem_of_getElem? (i := 7) rfl)) (hw _ (List.mem_of_getElem? (i := 8) rfl)) (by decide) (rm2 l Z ag hw [] (p1 &&& (255 : Int32)) (128 : Int32) (191 : Int32) h36) (by decide) (by decide) (by rw [hml]; rfl) pd_1 rfl rfl rfl rfl (hb hby at_189) rfl rfl rfl (by decide) (by decide) rfl fun T84 X84 e84 => ?_
      refine o_istore (pc' := 194) (l' := #[.val (.int p0), .val (.int p1), .val (.int p2), .val (.int p3), .val (.int p4), .val (.int p5), .val (.int (p4 &&& (3 : Int32))), .val (.int ((1 : Int32) + (own_rem ((own_ushr p4 (2 : Int32)) &&& (7 : Int32)) (5 : Int32)))), .val (.int (own_i2b p5)), .val (.ref b24), .val (.int (f1_0 (own_set (own_set (own_set (own_set [(own_i2b (own_i2b p5)), (own_i2b (own_i2b p5)), (own_i2b (own_i2b p5)), (own_i2b (own_i2b p5)), (own_i2b (own_i2b p5)), (own_i2b (own_i2b p5)), (own_i2b (own_i2b p5)), (own_i2b (own_i2b p5))] (p4 &&& (3 : Int32)) (own_i2b (own_i2b p0))) ((p4 &&& (3 : Int32)) + (1 : Int32)) (own_i2b (own_i2b p1))) ((p4 &&& (3 : Int32)) + (2 : Int32)) (own_i2b (own_i2b p2))) ((p4 &&& (3 : Int32)) + (3 : Int32)) (own_i2b (own_i2b p3))) (p4 &&& (3 : Int32)) ((p4 &&& (3 : Int32)) + ((1 : Int32) + (own_rem ((own_ushr p4 (2 : Int32)) &&& (7 : Int32)) (5 : Int32)))))), .val (.int (p0 &&& (255 : Int32))), .val (.int (p1 &&& (255 : Int32))), .val (.int (p2 &&& (255 : Int32))), .val (.int (p3 &&& (255 : Int32))), .val (.int (2 : Int32)), .val (.int (f2_0 (p1 &&& (255 : Int32)) (128 : Int32) (191 : Int32))), .unset]) X84 hx (hb hby at_192) rfl rfl ?_
      refine o_goto (pc' := 567) X84 hx (hb hby at_194) (by decide) (by decide) ?_
      exact b0_567 C ((1 : Int32) + (own_rem ((own_ushr p4 (2 : Int32)) &&& (7 : Int32)) (5 : Int32))) (f1_0 (own_set (own_set (own_set (own_set [(own_i2b (own_i2b p5)), (own_i2b (own_i2b p5)), (own_i2b (own_i2b p5)), (own_i2b (own_i2b p5)), (own_i2b (own_i2b p5)), (own_i2b (own_i2b p5)), (own_i2b (own_i2b p5)), (own_i2b (own_i2b p5))] (p4 &&& (3 : Int32)) (own_i2b (own_i2b p0))) ((p4 &&& (3 : Int32)) + (1 : Int32)) (own_i2b (own_i2b p1))) ((p4 &&& (3 : Int32)) + (2 : Int32)) (own_i2b (own_i2b p2))) ((p4 &&& (3 : Int32)) + (3 : Int32)) (own_i2b (own_i2b p3))) (p4 &&& (3 : Int32)) ((p4 &&& (3 : Int32)) + ((1 : Int32) + (own_rem ((own_ushr p4 (2 : Int32)) &&& (7 : Int32)) (5 : Int32))))) (2 : Int32) (f2_0 (p1 &&& (255 : Int32)) (128 : Int32) (191 : Int32)) X84 e84 (One.val rfl) (One.val rfl) (One.val rfl) (One.val rfl) (One.val rfl) (One.val rfl) (One.val rfl) (One.val rfl) (One.val rfl) (One.val rfl) (One.val rfl) (One.val rfl) (One.val rfl) One.u hK
  · rw [if_neg c38] at hK
    refine o_iconst (pc' := 156) (x := (1 : Int32)) X37 hx (hb hby at_155) (by decide) rfl ?_
    refine o_istore (pc' := 158) (l' := #[.val (.int p0), .val (.int p1), .val (.int p2), .val (.int p3), .val (.int p4), .val (.int p5), .val (.int (p4 &&& (3 : Int32))), .val (.int ((1 : Int32) + (own_rem ((own_ushr p4 (2 : Int32)) &&& (7 : Int32)) (5 : Int32)))), .val (.int (own_i2b p5)), .val (.ref b24), .val (.int (f1_0 (own_set (own_set (own_set (own_set [(own_i2b (own_i2b p5)), (own_i2b (own_i2b p5)), (own_i2b (own_i2b p5)), (own_i2b (own_i2b p5)), (own_i2b (own_i2b p5)), (own_i2b (own_i2b p5)), (own_i2b (own_i2b p5)), (own_i2b (own_i2b p5))] (p4 &&& (3 : Int32)) (own_i2b (own_i2b p0))) ((p4 &&& (3 : Int32)) + (1 : Int32)) (own_i2b (own_i2b p1))) ((p4 &&& (3 : Int32)) + (2 : Int32)) (own_i2b (own_i2b p2))) ((p4 &&& (3 : Int32)) + (3 : Int32)) (own_i2b (own_i2b p3))) (p4 &&& (3 : Int32)) ((p4 &&& (3 : Int32)) + ((1 : Int32) + (own_rem ((own_ushr p4 (2 : Int32)) &&& (7 : Int32)) (5 : Int32)))))), .val (.int (p0 &&& (255 : Int32))), .val (.int (p1 &&& (255 : Int32))), .val (.int (p2 &&& (255 : Int32))), .val (.int (p3 &&& (255 : Int32))), .val (.int (1 : Int32)), .unset, .unset]) X37 hx (hb hby at_156) rfl rfl ?_
    refine o_iconst (pc' := 159) (x := (1 : Int32)) X37 hx (hb hby at_158) (by decide) rfl ?_
    refine o_istore (pc' := 161) (l' := #[.val (.int p0), .val (.int p1), .val (.int p2), .val (.int p3), .val (.int p4), .val (.int p5), .val (.int (p4 &&& (3 : Int32))), .val (.int ((1 : Int32) + (own_rem ((own_ushr p4 (2 : Int32)) &&& (7 : Int32)) (5 : Int32)))), .val (.int (own_i2b p5)), .val (.ref b24), .val (.int (f1_0 (own_set (own_set (own_set (own_set [(own_i2b (own_i2b p5)), (own_i2b (own_i2b p5)), (own_i2b (own_i2b p5)), (own_i2b (own_i2b p5)), (own_i2b (own_i2b p5)), (own_i2b (own_i2b p5)), (own_i2b (own_i2b p5)), (own_i2b (own_i2b p5))] (p4 &&& (3 : Int32)) (own_i2b (own_i2b p0))) ((p4 &&& (3 : Int32)) + (1 : Int32)) (own_i2b (own_i2b p1))) ((p4 &&& (3 : Int32)) + (2 : Int32)) (own_i2b (own_i2b p2))) ((p4 &&& (3 : Int32)) + (3 : Int32)) (own_i2b (own_i2b p3))) (p4 &&& (3 : Int32)) ((p4 &&& (3 : Int32)) + ((1 : Int32) + (own_rem ((own_ushr p4 (2 : Int32)) &&& (7 : Int32)) (5 : Int32)))))), .val (.int (p0 &&& (255 : Int32))), .val (.int (p1 &&& (255 : Int32))), .val (.int (p2 &&& (255 : Int32))), .val (.int (p3 &&& (255 : Int32))), .val (.int (1 : Int32)), .val (.int (1 : Int32)), .unset]) X37 hx (hb hby at_159) rfl rfl ?_
    refine o_goto (pc' := 567) X37 hx (hb hby at_161) (by decide) (by decide) ?_
    exact b0_567 C ((1 : Int32) + (own_rem ((own_ushr p4 (2 : Int32)) &&& (7 : Int32)) (5 : Int32))) (f1_0 (own_set (own_set (own_set (own_set [(own_i2b (own_i2b p5)), (own_i2b (own_i2b p5)), (own_i2b (own_i2b p5)), (own_i2b (own_i2b p5)), (own_i2b (own_i2b p5)), (own_i2b (own_i2b p5)), (own_i2b (own_i2b p5)), (own_i2b (own_i2b p5))] (p4 &&& (3 : Int32)) (own_i2b (own_i2b p0))) ((p4 &&& (3 : Int32)) + (1 : Int32)) (own_i2b (own_i2b p1))) ((p4 &&& (3 : Int32)) + (2 : Int32)) (own_i2b (own_i2b p2))) ((p4 &&& (3 : Int32)) + (3 : Int32)) (own_i2b (own_i2b p3))) (p4 &&& (3 : Int32)) ((p4 &&& (3 : Int32)) + ((1 : Int32) + (own_rem ((own_ushr p4 (2 : Int32)) &&& (7 : Int32)) (5 : Int32))))) (1 : Int32) (1 : Int32) X37 e37 (One.val rfl) (One.val rfl) (One.val rfl) (One.val rfl) (One.val rfl) (One.val rfl) (One.val rfl) (One.val rfl) (One.val rfl) (One.val rfl) (One.val rfl) (One.val rfl) (One.val rfl) One.u hK

end Body0
theorem ef_0 (m : MethodId) (p0 : Int32) (p1 : Int32) (p2 : Int32) (p3 : Int32) (p4 : Int32) (p5 : Int32) : entryFrame m #[(.int p0), (.int p1), (.int p2), (.int p3), (.int p4), (.int p5)] maxLocals = mkF m 0 #[.val (.int p0), .val (.int p1), .val (.int p2), .val (.int p3), .val (.int p4), .val (.int p5), .unset, .unset, .unset, .unset, .unset, .unset, .unset, .unset, .unset, .unset, .unset, .unset] [] := by first | (simp [entryFrame, mkF, argsToLocals, Value.category, maxLocals]; done) | rfl
set_option maxRecDepth 65536 in
set_option maxHeartbeats 40000000 in
theorem rm0 (l : Launch) (Z : State) (ag : Array Value) (hw : ∀ d ∈ tables_1, d.before ag Z = true) (ws : List Jvm.Cond) (p0 : Int32) (p1 : Int32) (p2 : Int32) (p3 : Int32) (p4 : Int32) (p5 : Int32) (h0 : Heap) (hs : s0_0 p0 p1 p2 p3 p4 p5) :
    MetFree l x (head1 (Jvm.Cond.code x code maxLocals ret :: ws) R0) (fun a U => a = #[(.int p0), (.int p1), (.int p2), (.int p3), (.int p4), (.int p5)] ∧ Z.Warmed39 U.vm ∧ U.heap = h0) (fun _ _ _ _ _ => True) (fun _ U o U' => ∃ v L, o = .returned v ∧ own_KL (some (.int (f0_0 p0 p1 p2 p3 p4 p5))) v U'.heap L ∧ FrameEnd U o U' L cc0 ss0) := by
  refine MetFree.of_bodySF (plainFor_of_name pn_MessageLineUtf8LengthPinLaw) hisR ?_
  intro p e s m args below meth c s₁ Bd hml0 hP hK
  obtain ⟨rfl, hZ, hh⟩ := hP
  have C : own_Cx p s m meth c Z ag code maxLocals "com/example/ledgerline/ledgerline/cli/MessageLineUtf8LengthPinLaw" ret "law" := ⟨Bd.exec, hZ, hw, Bd.bytes, hml0, findClass_of_methodNamed Bd.named, Bd.returns, Bd.notSynchronized, (name_of_methodNamed Bd.named Bd.method).1⟩
  have X0 : Stand p l e R0 s m #[(.int p0), (.int p1), (.int p2), (.int p3), (.int p4), (.int p5)] below meth c s₁ [] 0 0 := Stand.of_body Bd
  have e0 : s₁.heap = h0 := by rw [← hh, Bd.state]; rfl
  rw [ef_0]
  exact b0_0 (K := own_KL (some (.int (f0_0 p0 p1 p2 p3 p4 p5)))) C p0 p1 p2 p3 p4 p5 X0 e0 hs (fun _ => ⟨rfl, rfl⟩)

def own_W (a b c e x r : Int32) : Int32 := (if (127 : Int32) < a then (if (f2_0 a (194 : Int32) (223 : Int32)) = (0 : Int32) then (if a = (224 : Int32) then (if (f2_0 b (160 : Int32) (191 : Int32)) = (0 : Int32) then (f0_240 x r (3 : Int32)) else (if (f2_0 c (128 : Int32) (191 : Int32)) = (0 : Int32) then (f0_240 x r (3 : Int32)) else (f0_241 x r (3 : Int32) (1 : Int32)))) else (if (f2_0 a (225 : Int32) (236 : Int32)) = (0 : Int32) then (if a = (238 : Int32) then (f0_276 x r b c) else (if a = (239 : Int32) then (f0_276 x r b c) else (if a = (237 : Int32) then (if (f2_0 b (128 : Int32) (159 : Int32)) = (0 : Int32) then (f0_360 x r (3 : Int32)) else (if (f2_0 c (128 : Int32) (191 : Int32)) = (0 : Int32) then (f0_360 x r (3 : Int32)) else (f0_361 x r (3 : Int32) (1 : Int32)))) else (if a = (240 : Int32) then (if (f2_0 b (144 : Int32) (191 : Int32)) = (0 : Int32) then (f0_423 x r (4 : Int32)) else (if (f2_0 c (128 : Int32) (191 : Int32)) = (0 : Int32) then (f0_423 x r (4 : Int32)) else (if (f2_0 e (128 : Int32) (191 : Int32)) = (0 : Int32) then (f0_423 x r (4 : Int32)) else (f0_424 x r (4 : Int32) (1 : Int32))))) else (if (f2_0 a (241 : Int32) (243 : Int32)) = (0 : Int32) then (if a = (244 : Int32) then (if (f2_0 b (128 : Int32) (143 : Int32)) = (0 : Int32) then (f0_555 x r (4 : Int32)) else (if (f2_0 c (128 : Int32) (191 : Int32)) = (0 : Int32) then (f0_555 x r (4 : Int32)) else (if (f2_0 e (128 : Int32) (191 : Int32)) = (0 : Int32) then (f0_555 x r (4 : Int32)) else (f0_556 x r (4 : Int32) (1 : Int32))))) else (f0_567 x r (0 : Int32) (0 : Int32))) else (if (f2_0 b (128 : Int32) (191 : Int32)) = (0 : Int32) then (f0_492 x r (4 : Int32)) else (if (f2_0 c (128 : Int32) (191 : Int32)) = (0 : Int32) then (f0_492 x r (4 : Int32)) else (if (f2_0 e (128 : Int32) (191 : Int32)) = (0 : Int32) then (f0_492 x r (4 : Int32)) else (f0_493 x r (4 : Int32) (1 : Int32)))))))))) else (f0_276 x r b c))) else (f0_567 x r (2 : Int32) (f2_0 b (128 : Int32) (191 : Int32)))) else (f0_567 x r (1 : Int32) (1 : Int32)))
theorem own_l0 : (0 : Int32).toInt = 0 := rfl
theorem own_l1 : (1 : Int32).toInt = 1 := rfl
theorem own_l2 : (2 : Int32).toInt = 2 := rfl
theorem own_l3 : (3 : Int32).toInt = 3 := rfl
theorem own_l4 : (4 : Int32).toInt = 4 := rfl
theorem own_l127 : (127 : Int32).toInt = 127 := rfl
theorem own_l128 : (128 : Int32).toInt = 128 := rfl
theorem own_l143 : (143 : Int32).toInt = 143 := rfl
theorem own_l144 : (144 : Int32).toInt = 144 := rfl
theorem own_l159 : (159 : Int32).toInt = 159 := rfl
theorem own_l160 : (160 : Int32).toInt = 160 := rfl
theorem own_l191 : (191 : Int32).toInt = 191 := rfl
theorem own_l194 : (194 : Int32).toInt = 194 := rfl
theorem own_l223 : (223 : Int32).toInt = 223 := rfl
theorem own_l224 : (224 : Int32).toInt = 224 := rfl
theorem own_l225 : (225 : Int32).toInt = 225 := rfl
theorem own_l236 : (236 : Int32).toInt = 236 := rfl
theorem own_l237 : (237 : Int32).toInt = 237 := rfl
theorem own_l238 : (238 : Int32).toInt = 238 := rfl
theorem own_l239 : (239 : Int32).toInt = 239 := rfl
theorem own_l240 : (240 : Int32).toInt = 240 := rfl
theorem own_l241 : (241 : Int32).toInt = 241 := rfl
theorem own_l243 : (243 : Int32).toInt = 243 := rfl
theorem own_l244 : (244 : Int32).toInt = 244 := rfl
theorem own_u8 (v0 : List Int32) (x1 x4 x5 x6 x7 x8 : Int32) : f1_189 8 v0 x1 x4 x5 x6 x7 x8 = (if x7 = (0 : Int32) then (f1_270 x4 x7) else (if x8 < x4 then (if x8 = (1 : Int32) then (if ((own_get v0 (x1 + x8)) &&& (255 : Int32)) < x5 then (f1_189 7 v0 x1 x4 x5 x6 (0 : Int32) (x8 + (1 : Int32))) else (if x6 < ((own_get v0 (x1 + x8)) &&& (255 : Int32)) then (f1_189 7 v0 x1 x4 x5 x6 (0 : Int32) (x8 + (1 : Int32))) else (f1_189 7 v0 x1 x4 x5 x6 (1 : Int32) (x8 + (1 : Int32))))) else (if ((own_get v0 (x1 + x8)) &&& (255 : Int32)) < (128 : Int32) then (f1_189 7 v0 x1 x4 x5 x6 (0 : Int32) (x8 + (1 : Int32))) else (if (191 : Int32) < ((own_get v0 (x1 + x8)) &&& (255 : Int32)) then (f1_189 7 v0 x1 x4 x5 x6 (0 : Int32) (x8 + (1 : Int32))) else (f1_189 7 v0 x1 x4 x5 x6 (1 : Int32) (x8 + (1 : Int32)))))) else (f1_270 x4 x7))) := rfl
theorem own_u7 (v0 : List Int32) (x1 x4 x5 x6 x7 x8 : Int32) : f1_189 7 v0 x1 x4 x5 x6 x7 x8 = (if x7 = (0 : Int32) then (f1_270 x4 x7) else (if x8 < x4 then (if x8 = (1 : Int32) then (if ((own_get v0 (x1 + x8)) &&& (255 : Int32)) < x5 then (f1_189 6 v0 x1 x4 x5 x6 (0 : Int32) (x8 + (1 : Int32))) else (if x6 < ((own_get v0 (x1 + x8)) &&& (255 : Int32)) then (f1_189 6 v0 x1 x4 x5 x6 (0 : Int32) (x8 + (1 : Int32))) else (f1_189 6 v0 x1 x4 x5 x6 (1 : Int32) (x8 + (1 : Int32))))) else (if ((own_get v0 (x1 + x8)) &&& (255 : Int32)) < (128 : Int32) then (f1_189 6 v0 x1 x4 x5 x6 (0 : Int32) (x8 + (1 : Int32))) else (if (191 : Int32) < ((own_get v0 (x1 + x8)) &&& (255 : Int32)) then (f1_189 6 v0 x1 x4 x5 x6 (0 : Int32) (x8 + (1 : Int32))) else (f1_189 6 v0 x1 x4 x5 x6 (1 : Int32) (x8 + (1 : Int32)))))) else (f1_270 x4 x7))) := rfl
theorem own_u6 (v0 : List Int32) (x1 x4 x5 x6 x7 x8 : Int32) : f1_189 6 v0 x1 x4 x5 x6 x7 x8 = (if x7 = (0 : Int32) then (f1_270 x4 x7) else (if x8 < x4 then (if x8 = (1 : Int32) then (if ((own_get v0 (x1 + x8)) &&& (255 : Int32)) < x5 then (f1_189 5 v0 x1 x4 x5 x6 (0 : Int32) (x8 + (1 : Int32))) else (if x6 < ((own_get v0 (x1 + x8)) &&& (255 : Int32)) then (f1_189 5 v0 x1 x4 x5 x6 (0 : Int32) (x8 + (1 : Int32))) else (f1_189 5 v0 x1 x4 x5 x6 (1 : Int32) (x8 + (1 : Int32))))) else (if ((own_get v0 (x1 + x8)) &&& (255 : Int32)) < (128 : Int32) then (f1_189 5 v0 x1 x4 x5 x6 (0 : Int32) (x8 + (1 : Int32))) else (if (191 : Int32) < ((own_get v0 (x1 + x8)) &&& (255 : Int32)) then (f1_189 5 v0 x1 x4 x5 x6 (0 : Int32) (x8 + (1 : Int32))) else (f1_189 5 v0 x1 x4 x5 x6 (1 : Int32) (x8 + (1 : Int32)))))) else (f1_270 x4 x7))) := rfl
theorem own_u5 (v0 : List Int32) (x1 x4 x5 x6 x7 x8 : Int32) : f1_189 5 v0 x1 x4 x5 x6 x7 x8 = (if x7 = (0 : Int32) then (f1_270 x4 x7) else (if x8 < x4 then (if x8 = (1 : Int32) then (if ((own_get v0 (x1 + x8)) &&& (255 : Int32)) < x5 then (f1_189 4 v0 x1 x4 x5 x6 (0 : Int32) (x8 + (1 : Int32))) else (if x6 < ((own_get v0 (x1 + x8)) &&& (255 : Int32)) then (f1_189 4 v0 x1 x4 x5 x6 (0 : Int32) (x8 + (1 : Int32))) else (f1_189 4 v0 x1 x4 x5 x6 (1 : Int32) (x8 + (1 : Int32))))) else (if ((own_get v0 (x1 + x8)) &&& (255 : Int32)) < (128 : Int32) then (f1_189 4 v0 x1 x4 x5 x6 (0 : Int32) (x8 + (1 : Int32))) else (if (191 : Int32) < ((own_get v0 (x1 + x8)) &&& (255 : Int32)) then (f1_189 4 v0 x1 x4 x5 x6 (0 : Int32) (x8 + (1 : Int32))) else (f1_189 4 v0 x1 x4 x5 x6 (1 : Int32) (x8 + (1 : Int32)))))) else (f1_270 x4 x7))) := rfl
theorem own_11 : (1 : Int32) + 1 = 2 := rfl
theorem own_12 : (2 : Int32) + 1 = 3 := rfl
theorem own_13 : (3 : Int32) + 1 = 4 := rfl
theorem own_a1 : (1 : Int32) &&& 1 = 1 := rfl
theorem own_a0 : (0 : Int32) &&& 1 = 0 := rfl
theorem own_k00 : ((0 : Int32) < 0) = False := by decide
theorem own_k01 : ((0 : Int32) < 1) = True := by decide
theorem own_e01 : ((0 : Int32) = 1) = False := by decide
theorem own_k02 : ((0 : Int32) < 2) = True := by decide
theorem own_e02 : ((0 : Int32) = 2) = False := by decide
theorem own_k03 : ((0 : Int32) < 3) = True := by decide
theorem own_e03 : ((0 : Int32) = 3) = False := by decide
theorem own_k04 : ((0 : Int32) < 4) = True := by decide
theorem own_e04 : ((0 : Int32) = 4) = False := by decide
theorem own_k10 : ((1 : Int32) < 0) = False := by decide
theorem own_e10 : ((1 : Int32) = 0) = False := by decide
theorem own_k11 : ((1 : Int32) < 1) = False := by decide
theorem own_k12 : ((1 : Int32) < 2) = True := by decide
theorem own_e12 : ((1 : Int32) = 2) = False := by decide
theorem own_k13 : ((1 : Int32) < 3) = True := by decide
theorem own_e13 : ((1 : Int32) = 3) = False := by decide
theorem own_k14 : ((1 : Int32) < 4) = True := by decide
theorem own_e14 : ((1 : Int32) = 4) = False := by decide
theorem own_k20 : ((2 : Int32) < 0) = False := by decide
theorem own_e20 : ((2 : Int32) = 0) = False := by decide
theorem own_k21 : ((2 : Int32) < 1) = False := by decide
theorem own_e21 : ((2 : Int32) = 1) = False := by decide
theorem own_k22 : ((2 : Int32) < 2) = False := by decide
theorem own_k23 : ((2 : Int32) < 3) = True := by decide
theorem own_e23 : ((2 : Int32) = 3) = False := by decide
theorem own_k24 : ((2 : Int32) < 4) = True := by decide
theorem own_e24 : ((2 : Int32) = 4) = False := by decide
theorem own_k30 : ((3 : Int32) < 0) = False := by decide
theorem own_e30 : ((3 : Int32) = 0) = False := by decide
theorem own_k31 : ((3 : Int32) < 1) = False := by decide
theorem own_e31 : ((3 : Int32) = 1) = False := by decide
theorem own_k32 : ((3 : Int32) < 2) = False := by decide
theorem own_e32 : ((3 : Int32) = 2) = False := by decide
theorem own_k33 : ((3 : Int32) < 3) = False := by decide
theorem own_k34 : ((3 : Int32) < 4) = True := by decide
theorem own_e34 : ((3 : Int32) = 4) = False := by decide
theorem own_k40 : ((4 : Int32) < 0) = False := by decide
theorem own_e40 : ((4 : Int32) = 0) = False := by decide
theorem own_k41 : ((4 : Int32) < 1) = False := by decide
theorem own_e41 : ((4 : Int32) = 1) = False := by decide
theorem own_k42 : ((4 : Int32) < 2) = False := by decide
theorem own_e42 : ((4 : Int32) = 2) = False := by decide
theorem own_k43 : ((4 : Int32) < 3) = False := by decide
theorem own_e43 : ((4 : Int32) = 3) = False := by decide
theorem own_k44 : ((4 : Int32) < 4) = False := by decide
theorem own_c1 (v : List Int32) (p q a b c e x : Int32) (g0 : own_get v p &&& 255 = a) (g1 : own_get v (p + 1) &&& 255 = b) (g2 : own_get v (p + 2) &&& 255 = c) (g3 : own_get v (p + 3) &&& 255 = e) (gx : q - p = x) (x1 : 1 ≤ x.toInt) (a0 : 0 ≤ a.toInt) (a1 : a.toInt ≤ 255) (y0 : 0 ≤ a.toInt) (y1 : a.toInt ≤ 127) : own_W a b c e x (f1_0 v p q) = 1 := by
  have hl128 : (a < 128) = True := eq_true (by rw [own_lt, own_l128]; omega)
  have hl194 : (a < 194) = True := eq_true (by rw [own_lt, own_l194]; omega)
  have hl224 : (a < 224) = True := eq_true (by rw [own_lt, own_l224]; omega)
  have hl240 : (a < 240) = True := eq_true (by rw [own_lt, own_l240]; omega)
  have hl225 : (a < 225) = True := eq_true (by rw [own_lt, own_l225]; omega)
  have hl241 : (a < 241) = True := eq_true (by rw [own_lt, own_l241]; omega)
  have hg223 : (223 < a) = False := eq_false (by rw [own_lt, own_l223]; omega)
  have hg239 : (239 < a) = False := eq_false (by rw [own_lt, own_l239]; omega)
  have hg244 : (244 < a) = False := eq_false (by rw [own_lt, own_l244]; omega)
  have hg127 : (127 < a) = False := eq_false (by rw [own_lt, own_l127]; omega)
  have hg236 : (236 < a) = False := eq_false (by rw [own_lt, own_l236]; omega)
  have hg243 : (243 < a) = False := eq_false (by rw [own_lt, own_l243]; omega)
  have he224 : (a = 224) = False := eq_false (by rw [own_eq, own_l224]; omega)
  have he237 : (a = 237) = False := eq_false (by rw [own_eq, own_l237]; omega)
  have he240 : (a = 240) = False := eq_false (by rw [own_eq, own_l240]; omega)
  have he244 : (a = 244) = False := eq_false (by rw [own_eq, own_l244]; omega)
  have he238 : (a = 238) = False := eq_false (by rw [own_eq, own_l238]; omega)
  have he239 : (a = 239) = False := eq_false (by rw [own_eq, own_l239]; omega)
  have hx : (x < 1) = False := eq_false (by rw [own_lt, own_l1]; omega)
  simp only [own_W, f2_15, f2_14, f2_15_3, f2_0, f0_599, f0_585, f0_584, f0_567, f0_312, f0_311, f0_276, f0_556, f0_555, f0_493, f0_492, f0_424, f0_423, f0_361, f0_360, f0_241, f0_240, f1_281, f1_270, f1_184, f1_183, f1_166, f1_163, f1_158, f1_140, f1_107, f1_102, f1_84, f1_51, f1_0, own_u8, own_u7, own_u6, own_u5, g0, g1, g2, g3, gx, own_11, own_12, own_13, own_a1, own_a0, hx, hl128, hl194, hl224, hl240, hl225, hl241, hg223, hg239, hg244, hg127, hg236, hg243, he224, he237, he240, he244, he238, he239, own_k00, own_k01, own_k02, own_k03, own_k04, own_k10, own_k11, own_k12, own_k13, own_k14, own_k20, own_k21, own_k22, own_k23, own_k24, own_k30, own_k31, own_k32, own_k33, own_k34, own_k40, own_k41, own_k42, own_k43, own_k44, own_e01, own_e02, own_e03, own_e04, own_e10, own_e12, own_e13, own_e14, own_e20, own_e21, own_e23, own_e24, own_e30, own_e31, own_e32, own_e34, own_e40, own_e41, own_e42, own_e43, ↓reduceIte]
theorem own_c2 (v : List Int32) (p q a b c e x : Int32) (g0 : own_get v p &&& 255 = a) (g1 : own_get v (p + 1) &&& 255 = b) (g2 : own_get v (p + 2) &&& 255 = c) (g3 : own_get v (p + 3) &&& 255 = e) (gx : q - p = x) (x1 : 1 ≤ x.toInt) (a0 : 0 ≤ a.toInt) (a1 : a.toInt ≤ 255) (y0 : 128 ≤ a.toInt) (y1 : a.toInt ≤ 193) : own_W a b c e x (f1_0 v p q) = 1 := by
  have hl128 : (a < 128) = False := eq_false (by rw [own_lt, own_l128]; omega)
  have hl194 : (a < 194) = True := eq_true (by rw [own_lt, own_l194]; omega)
  have hl224 : (a < 224) = True := eq_true (by rw [own_lt, own_l224]; omega)
  have hl240 : (a < 240) = True := eq_true (by rw [own_lt, own_l240]; omega)
  have hl225 : (a < 225) = True := eq_true (by rw [own_lt, own_l225]; omega)
  have hl241 : (a < 241) = True := eq_true (by rw [own_lt, own_l241]; omega)
  have hg223 : (223 < a) = False := eq_false (by rw [own_lt, own_l223]; omega)
  have hg239 : (239 < a) = False := eq_false (by rw [own_lt, own_l239]; omega)
  have hg244 : (244 < a) = False := eq_false (by rw [own_lt, own_l244]; omega)
  have hg127 : (127 < a) = True := eq_true (by rw [own_lt, own_l127]; omega)
  have hg236 : (236 < a) = False := eq_false (by rw [own_lt, own_l236]; omega)
  have hg243 : (243 < a) = False := eq_false (by rw [own_lt, own_l243]; omega)
  have he224 : (a = 224) = False := eq_false (by rw [own_eq, own_l224]; omega)
  have he237 : (a = 237) = False := eq_false (by rw [own_eq, own_l237]; omega)
  have he240 : (a = 240) = False := eq_false (by rw [own_eq, own_l240]; omega)
  have he244 : (a = 244) = False := eq_false (by rw [own_eq, own_l244]; omega)
  have he238 : (a = 238) = False := eq_false (by rw [own_eq, own_l238]; omega)
  have he239 : (a = 239) = False := eq_false (by rw [own_eq, own_l239]; omega)
  have hx : (x < 1) = False := eq_false (by rw [own_lt, own_l1]; omega)
  simp only [own_W, f2_15, f2_14, f2_15_3, f2_0, f0_599, f0_585, f0_584, f0_567, f0_312, f0_311, f0_276, f0_556, f0_555, f0_493, f0_492, f0_424, f0_423, f0_361, f0_360, f0_241, f0_240, f1_281, f1_270, f1_184, f1_183, f1_166, f1_163, f1_158, f1_140, f1_107, f1_102, f1_84, f1_51, f1_0, own_u8, own_u7, own_u6, own_u5, g0, g1, g2, g3, gx, own_11, own_12, own_13, own_a1, own_a0, hx, hl128, hl194, hl224, hl240, hl225, hl241, hg223, hg239, hg244, hg127, hg236, hg243, he224, he237, he240, he244, he238, he239, own_k00, own_k01, own_k02, own_k03, own_k04, own_k10, own_k11, own_k12, own_k13, own_k14, own_k20, own_k21, own_k22, own_k23, own_k24, own_k30, own_k31, own_k32, own_k33, own_k34, own_k40, own_k41, own_k42, own_k43, own_k44, own_e01, own_e02, own_e03, own_e04, own_e10, own_e12, own_e13, own_e14, own_e20, own_e21, own_e23, own_e24, own_e30, own_e31, own_e32, own_e34, own_e40, own_e41, own_e42, own_e43, ↓reduceIte]
theorem own_c3 (v : List Int32) (p q a b c e x : Int32) (g0 : own_get v p &&& 255 = a) (g1 : own_get v (p + 1) &&& 255 = b) (g2 : own_get v (p + 2) &&& 255 = c) (g3 : own_get v (p + 3) &&& 255 = e) (gx : q - p = x) (x1 : 1 ≤ x.toInt) (a0 : 0 ≤ a.toInt) (a1 : a.toInt ≤ 255) (y0 : 194 ≤ a.toInt) (y1 : a.toInt ≤ 223) : own_W a b c e x (f1_0 v p q) = 1 := by
  have hl128 : (a < 128) = False := eq_false (by rw [own_lt, own_l128]; omega)
  have hl194 : (a < 194) = False := eq_false (by rw [own_lt, own_l194]; omega)
  have hl224 : (a < 224) = True := eq_true (by rw [own_lt, own_l224]; omega)
  have hl240 : (a < 240) = True := eq_true (by rw [own_lt, own_l240]; omega)
  have hl225 : (a < 225) = True := eq_true (by rw [own_lt, own_l225]; omega)
  have hl241 : (a < 241) = True := eq_true (by rw [own_lt, own_l241]; omega)
  have hg223 : (223 < a) = False := eq_false (by rw [own_lt, own_l223]; omega)
  have hg239 : (239 < a) = False := eq_false (by rw [own_lt, own_l239]; omega)
  have hg244 : (244 < a) = False := eq_false (by rw [own_lt, own_l244]; omega)
  have hg127 : (127 < a) = True := eq_true (by rw [own_lt, own_l127]; omega)
  have hg236 : (236 < a) = False := eq_false (by rw [own_lt, own_l236]; omega)
  have hg243 : (243 < a) = False := eq_false (by rw [own_lt, own_l243]; omega)
  have he224 : (a = 224) = False := eq_false (by rw [own_eq, own_l224]; omega)
  have he237 : (a = 237) = False := eq_false (by rw [own_eq, own_l237]; omega)
  have he240 : (a = 240) = False := eq_false (by rw [own_eq, own_l240]; omega)
  have he244 : (a = 244) = False := eq_false (by rw [own_eq, own_l244]; omega)
  have he238 : (a = 238) = False := eq_false (by rw [own_eq, own_l238]; omega)
  have he239 : (a = 239) = False := eq_false (by rw [own_eq, own_l239]; omega)
  have hx : (x < 1) = False := eq_false (by rw [own_lt, own_l1]; omega)
  by_cases z : x < 2
  · skip
    by_cases zb0 : b < 128
    · simp only [own_W, f2_15, f2_14, f2_15_3, f2_0, f0_599, f0_585, f0_584, f0_567, f0_312, f0_311, f0_276, f0_556, f0_555, f0_493, f0_492, f0_424, f0_423, f0_361, f0_360, f0_241, f0_240, f1_281, f1_270, f1_184, f1_183, f1_166, f1_163, f1_158, f1_140, f1_107, f1_102, f1_84, f1_51, f1_0, own_u8, own_u7, own_u6, own_u5, g0, g1, g2, g3, gx, own_11, own_12, own_13, own_a1, own_a0, hx, hl128, hl194, hl224, hl240, hl225, hl241, hg223, hg239, hg244, hg127, hg236, hg243, he224, he237, he240, he244, he238, he239, z, zb0, own_k00, own_k01, own_k02, own_k03, own_k04, own_k10, own_k11, own_k12, own_k13, own_k14, own_k20, own_k21, own_k22, own_k23, own_k24, own_k30, own_k31, own_k32, own_k33, own_k34, own_k40, own_k41, own_k42, own_k43, own_k44, own_e01, own_e02, own_e03, own_e04, own_e10, own_e12, own_e13, own_e14, own_e20, own_e21, own_e23, own_e24, own_e30, own_e31, own_e32, own_e34, own_e40, own_e41, own_e42, own_e43, ↓reduceIte]
    by_cases zb1 : 191 < b
    · simp only [own_W, f2_15, f2_14, f2_15_3, f2_0, f0_599, f0_585, f0_584, f0_567, f0_312, f0_311, f0_276, f0_556, f0_555, f0_493, f0_492, f0_424, f0_423, f0_361, f0_360, f0_241, f0_240, f1_281, f1_270, f1_184, f1_183, f1_166, f1_163, f1_158, f1_140, f1_107, f1_102, f1_84, f1_51, f1_0, own_u8, own_u7, own_u6, own_u5, g0, g1, g2, g3, gx, own_11, own_12, own_13, own_a1, own_a0, hx, hl128, hl194, hl224, hl240, hl225, hl241, hg223, hg239, hg244, hg127, hg236, hg243, he224, he237, he240, he244, he238, he239, z, zb0, zb1, own_k00, own_k01, own_k02, own_k03, own_k04, own_k10, own_k11, own_k12, own_k13, own_k14, own_k20, own_k21, own_k22, own_k23, own_k24, own_k30, own_k31, own_k32, own_k33, own_k34, own_k40, own_k41, own_k42, own_k43, own_k44, own_e01, own_e02, own_e03, own_e04, own_e10, own_e12, own_e13, own_e14, own_e20, own_e21, own_e23, own_e24, own_e30, own_e31, own_e32, own_e34, own_e40, own_e41, own_e42, own_e43, ↓reduceIte]
    simp only [own_W, f2_15, f2_14, f2_15_3, f2_0, f0_599, f0_585, f0_584, f0_567, f0_312, f0_311, f0_276, f0_556, f0_555, f0_493, f0_492, f0_424, f0_423, f0_361, f0_360, f0_241, f0_240, f1_281, f1_270, f1_184, f1_183, f1_166, f1_163, f1_158, f1_140, f1_107, f1_102, f1_84, f1_51, f1_0, own_u8, own_u7, own_u6, own_u5, g0, g1, g2, g3, gx, own_11, own_12, own_13, own_a1, own_a0, hx, hl128, hl194, hl224, hl240, hl225, hl241, hg223, hg239, hg244, hg127, hg236, hg243, he224, he237, he240, he244, he238, he239, z, zb0, zb1, own_k00, own_k01, own_k02, own_k03, own_k04, own_k10, own_k11, own_k12, own_k13, own_k14, own_k20, own_k21, own_k22, own_k23, own_k24, own_k30, own_k31, own_k32, own_k33, own_k34, own_k40, own_k41, own_k42, own_k43, own_k44, own_e01, own_e02, own_e03, own_e04, own_e10, own_e12, own_e13, own_e14, own_e20, own_e21, own_e23, own_e24, own_e30, own_e31, own_e32, own_e34, own_e40, own_e41, own_e42, own_e43, ↓reduceIte]
  · skip
    by_cases zb0 : b < 128
    · simp only [own_W, f2_15, f2_14, f2_15_3, f2_0, f0_599, f0_585, f0_584, f0_567, f0_312, f0_311, f0_276, f0_556, f0_555, f0_493, f0_492, f0_424, f0_423, f0_361, f0_360, f0_241, f0_240, f1_281, f1_270, f1_184, f1_183, f1_166, f1_163, f1_158, f1_140, f1_107, f1_102, f1_84, f1_51, f1_0, own_u8, own_u7, own_u6, own_u5, g0, g1, g2, g3, gx, own_11, own_12, own_13, own_a1, own_a0, hx, hl128, hl194, hl224, hl240, hl225, hl241, hg223, hg239, hg244, hg127, hg236, hg243, he224, he237, he240, he244, he238, he239, z, zb0, own_k00, own_k01, own_k02, own_k03, own_k04, own_k10, own_k11, own_k12, own_k13, own_k14, own_k20, own_k21, own_k22, own_k23, own_k24, own_k30, own_k31, own_k32, own_k33, own_k34, own_k40, own_k41, own_k42, own_k43, own_k44, own_e01, own_e02, own_e03, own_e04, own_e10, own_e12, own_e13, own_e14, own_e20, own_e21, own_e23, own_e24, own_e30, own_e31, own_e32, own_e34, own_e40, own_e41, own_e42, own_e43, ↓reduceIte]
    by_cases zb1 : 191 < b
    · simp only [own_W, f2_15, f2_14, f2_15_3, f2_0, f0_599, f0_585, f0_584, f0_567, f0_312, f0_311, f0_276, f0_556, f0_555, f0_493, f0_492, f0_424, f0_423, f0_361, f0_360, f0_241, f0_240, f1_281, f1_270, f1_184, f1_183, f1_166, f1_163, f1_158, f1_140, f1_107, f1_102, f1_84, f1_51, f1_0, own_u8, own_u7, own_u6, own_u5, g0, g1, g2, g3, gx, own_11, own_12, own_13, own_a1, own_a0, hx, hl128, hl194, hl224, hl240, hl225, hl241, hg223, hg239, hg244, hg127, hg236, hg243, he224, he237, he240, he244, he238, he239, z, zb0, zb1, own_k00, own_k01, own_k02, own_k03, own_k04, own_k10, own_k11, own_k12, own_k13, own_k14, own_k20, own_k21, own_k22, own_k23, own_k24, own_k30, own_k31, own_k32, own_k33, own_k34, own_k40, own_k41, own_k42, own_k43, own_k44, own_e01, own_e02, own_e03, own_e04, own_e10, own_e12, own_e13, own_e14, own_e20, own_e21, own_e23, own_e24, own_e30, own_e31, own_e32, own_e34, own_e40, own_e41, own_e42, own_e43, ↓reduceIte]
    simp only [own_W, f2_15, f2_14, f2_15_3, f2_0, f0_599, f0_585, f0_584, f0_567, f0_312, f0_311, f0_276, f0_556, f0_555, f0_493, f0_492, f0_424, f0_423, f0_361, f0_360, f0_241, f0_240, f1_281, f1_270, f1_184, f1_183, f1_166, f1_163, f1_158, f1_140, f1_107, f1_102, f1_84, f1_51, f1_0, own_u8, own_u7, own_u6, own_u5, g0, g1, g2, g3, gx, own_11, own_12, own_13, own_a1, own_a0, hx, hl128, hl194, hl224, hl240, hl225, hl241, hg223, hg239, hg244, hg127, hg236, hg243, he224, he237, he240, he244, he238, he239, z, zb0, zb1, own_k00, own_k01, own_k02, own_k03, own_k04, own_k10, own_k11, own_k12, own_k13, own_k14, own_k20, own_k21, own_k22, own_k23, own_k24, own_k30, own_k31, own_k32, own_k33, own_k34, own_k40, own_k41, own_k42, own_k43, own_k44, own_e01, own_e02, own_e03, own_e04, own_e10, own_e12, own_e13, own_e14, own_e20, own_e21, own_e23, own_e24, own_e30, own_e31, own_e32, own_e34, own_e40, own_e41, own_e42, own_e43, ↓reduceIte]
theorem own_c4 (v : List Int32) (p q a b c e x : Int32) (g0 : own_get v p &&& 255 = a) (g1 : own_get v (p + 1) &&& 255 = b) (g2 : own_get v (p + 2) &&& 255 = c) (g3 : own_get v (p + 3) &&& 255 = e) (gx : q - p = x) (x1 : 1 ≤ x.toInt) (a0 : 0 ≤ a.toInt) (a1 : a.toInt ≤ 255) (y0 : 224 ≤ a.toInt) (y1 : a.toInt ≤ 224) : own_W a b c e x (f1_0 v p q) = 1 := by
  have hl128 : (a < 128) = False := eq_false (by rw [own_lt, own_l128]; omega)
  have hl194 : (a < 194) = False := eq_false (by rw [own_lt, own_l194]; omega)
  have hl224 : (a < 224) = False := eq_false (by rw [own_lt, own_l224]; omega)
  have hl240 : (a < 240) = True := eq_true (by rw [own_lt, own_l240]; omega)
  have hl225 : (a < 225) = True := eq_true (by rw [own_lt, own_l225]; omega)
  have hl241 : (a < 241) = True := eq_true (by rw [own_lt, own_l241]; omega)
  have hg223 : (223 < a) = True := eq_true (by rw [own_lt, own_l223]; omega)
  have hg239 : (239 < a) = False := eq_false (by rw [own_lt, own_l239]; omega)
  have hg244 : (244 < a) = False := eq_false (by rw [own_lt, own_l244]; omega)
  have hg127 : (127 < a) = True := eq_true (by rw [own_lt, own_l127]; omega)
  have hg236 : (236 < a) = False := eq_false (by rw [own_lt, own_l236]; omega)
  have hg243 : (243 < a) = False := eq_false (by rw [own_lt, own_l243]; omega)
  have he224 : (a = 224) = True := eq_true (by rw [own_eq, own_l224]; omega)
  have he237 : (a = 237) = False := eq_false (by rw [own_eq, own_l237]; omega)
  have he240 : (a = 240) = False := eq_false (by rw [own_eq, own_l240]; omega)
  have he244 : (a = 244) = False := eq_false (by rw [own_eq, own_l244]; omega)
  have he238 : (a = 238) = False := eq_false (by rw [own_eq, own_l238]; omega)
  have he239 : (a = 239) = False := eq_false (by rw [own_eq, own_l239]; omega)
  have hx : (x < 1) = False := eq_false (by rw [own_lt, own_l1]; omega)
  by_cases z : x < 3
  · skip
    by_cases zb0 : b < 160
    · simp only [own_W, f2_15, f2_14, f2_15_3, f2_0, f0_599, f0_585, f0_584, f0_567, f0_312, f0_311, f0_276, f0_556, f0_555, f0_493, f0_492, f0_424, f0_423, f0_361, f0_360, f0_241, f0_240, f1_281, f1_270, f1_184, f1_183, f1_166, f1_163, f1_158, f1_140, f1_107, f1_102, f1_84, f1_51, f1_0, own_u8, own_u7, own_u6, own_u5, g0, g1, g2, g3, gx, own_11, own_12, own_13, own_a1, own_a0, hx, hl128, hl194, hl224, hl240, hl225, hl241, hg223, hg239, hg244, hg127, hg236, hg243, he224, he237, he240, he244, he238, he239, z, zb0, own_k00, own_k01, own_k02, own_k03, own_k04, own_k10, own_k11, own_k12, own_k13, own_k14, own_k20, own_k21, own_k22, own_k23, own_k24, own_k30, own_k31, own_k32, own_k33, own_k34, own_k40, own_k41, own_k42, own_k43, own_k44, own_e01, own_e02, own_e03, own_e04, own_e10, own_e12, own_e13, own_e14, own_e20, own_e21, own_e23, own_e24, own_e30, own_e31, own_e32, own_e34, own_e40, own_e41, own_e42, own_e43, ↓reduceIte]
    by_cases zb1 : 191 < b
    · simp only [own_W, f2_15, f2_14, f2_15_3, f2_0, f0_599, f0_585, f0_584, f0_567, f0_312, f0_311, f0_276, f0_556, f0_555, f0_493, f0_492, f0_424, f0_423, f0_361, f0_360, f0_241, f0_240, f1_281, f1_270, f1_184, f1_183, f1_166, f1_163, f1_158, f1_140, f1_107, f1_102, f1_84, f1_51, f1_0, own_u8, own_u7, own_u6, own_u5, g0, g1, g2, g3, gx, own_11, own_12, own_13, own_a1, own_a0, hx, hl128, hl194, hl224, hl240, hl225, hl241, hg223, hg239, hg244, hg127, hg236, hg243, he224, he237, he240, he244, he238, he239, z, zb0, zb1, own_k00, own_k01, own_k02, own_k03, own_k04, own_k10, own_k11, own_k12, own_k13, own_k14, own_k20, own_k21, own_k22, own_k23, own_k24, own_k30, own_k31, own_k32, own_k33, own_k34, own_k40, own_k41, own_k42, own_k43, own_k44, own_e01, own_e02, own_e03, own_e04, own_e10, own_e12, own_e13, own_e14, own_e20, own_e21, own_e23, own_e24, own_e30, own_e31, own_e32, own_e34, own_e40, own_e41, own_e42, own_e43, ↓reduceIte]
    by_cases zc0 : c < 128
    · simp only [own_W, f2_15, f2_14, f2_15_3, f2_0, f0_599, f0_585, f0_584, f0_567, f0_312, f0_311, f0_276, f0_556, f0_555, f0_493, f0_492, f0_424, f0_423, f0_361, f0_360, f0_241, f0_240, f1_281, f1_270, f1_184, f1_183, f1_166, f1_163, f1_158, f1_140, f1_107, f1_102, f1_84, f1_51, f1_0, own_u8, own_u7, own_u6, own_u5, g0, g1, g2, g3, gx, own_11, own_12, own_13, own_a1, own_a0, hx, hl128, hl194, hl224, hl240, hl225, hl241, hg223, hg239, hg244, hg127, hg236, hg243, he224, he237, he240, he244, he238, he239, z, zb0, zb1, zc0, own_k00, own_k01, own_k02, own_k03, own_k04, own_k10, own_k11, own_k12, own_k13, own_k14, own_k20, own_k21, own_k22, own_k23, own_k24, own_k30, own_k31, own_k32, own_k33, own_k34, own_k40, own_k41, own_k42, own_k43, own_k44, own_e01, own_e02, own_e03, own_e04, own_e10, own_e12, own_e13, own_e14, own_e20, own_e21, own_e23, own_e24, own_e30, own_e31, own_e32, own_e34, own_e40, own_e41, own_e42, own_e43, ↓reduceIte]
    by_cases zc1 : 191 < c
    · simp only [own_W, f2_15, f2_14, f2_15_3, f2_0, f0_599, f0_585, f0_584, f0_567, f0_312, f0_311, f0_276, f0_556, f0_555, f0_493, f0_492, f0_424, f0_423, f0_361, f0_360, f0_241, f0_240, f1_281, f1_270, f1_184, f1_183, f1_166, f1_163, f1_158, f1_140, f1_107, f1_102, f1_84, f1_51, f1_0, own_u8, own_u7, own_u6, own_u5, g0, g1, g2, g3, gx, own_11, own_12, own_13, own_a1, own_a0, hx, hl128, hl194, hl224, hl240, hl225, hl241, hg223, hg239, hg244, hg127, hg236, hg243, he224, he237, he240, he244, he238, he239, z, zb0, zb1, zc0, zc1, own_k00, own_k01, own_k02, own_k03, own_k04, own_k10, own_k11, own_k12, own_k13, own_k14, own_k20, own_k21, own_k22, own_k23, own_k24, own_k30, own_k31, own_k32, own_k33, own_k34, own_k40, own_k41, own_k42, own_k43, own_k44, own_e01, own_e02, own_e03, own_e04, own_e10, own_e12, own_e13, own_e14, own_e20, own_e21, own_e23, own_e24, own_e30, own_e31, own_e32, own_e34, own_e40, own_e41, own_e42, own_e43, ↓reduceIte]
    simp only [own_W, f2_15, f2_14, f2_15_3, f2_0, f0_599, f0_585, f0_584, f0_567, f0_312, f0_311, f0_276, f0_556, f0_555, f0_493, f0_492, f0_424, f0_423, f0_361, f0_360, f0_241, f0_240, f1_281, f1_270, f1_184, f1_183, f1_166, f1_163, f1_158, f1_140, f1_107, f1_102, f1_84, f1_51, f1_0, own_u8, own_u7, own_u6, own_u5, g0, g1, g2, g3, gx, own_11, own_12, own_13, own_a1, own_a0, hx, hl128, hl194, hl224, hl240, hl225, hl241, hg223, hg239, hg244, hg127, hg236, hg243, he224, he237, he240, he244, he238, he239, z, zb0, zb1, zc0, zc1, own_k00, own_k01, own_k02, own_k03, own_k04, own_k10, own_k11, own_k12, own_k13, own_k14, own_k20, own_k21, own_k22, own_k23, own_k24, own_k30, own_k31, own_k32, own_k33, own_k34, own_k40, own_k41, own_k42, own_k43, own_k44, own_e01, own_e02, own_e03, own_e04, own_e10, own_e12, own_e13, own_e14, own_e20, own_e21, own_e23, own_e24, own_e30, own_e31, own_e32, own_e34, own_e40, own_e41, own_e42, own_e43, ↓reduceIte]
  · skip
    by_cases zb0 : b < 160
    · simp only [own_W, f2_15, f2_14, f2_15_3, f2_0, f0_599, f0_585, f0_584, f0_567, f0_312, f0_311, f0_276, f0_556, f0_555, f0_493, f0_492, f0_424, f0_423, f0_361, f0_360, f0_241, f0_240, f1_281, f1_270, f1_184, f1_183, f1_166, f1_163, f1_158, f1_140, f1_107, f1_102, f1_84, f1_51, f1_0, own_u8, own_u7, own_u6, own_u5, g0, g1, g2, g3, gx, own_11, own_12, own_13, own_a1, own_a0, hx, hl128, hl194, hl224, hl240, hl225, hl241, hg223, hg239, hg244, hg127, hg236, hg243, he224, he237, he240, he244, he238, he239, z, zb0, own_k00, own_k01, own_k02, own_k03, own_k04, own_k10, own_k11, own_k12, own_k13, own_k14, own_k20, own_k21, own_k22, own_k23, own_k24, own_k30, own_k31, own_k32, own_k33, own_k34, own_k40, own_k41, own_k42, own_k43, own_k44, own_e01, own_e02, own_e03, own_e04, own_e10, own_e12, own_e13, own_e14, own_e20, own_e21, own_e23, own_e24, own_e30, own_e31, own_e32, own_e34, own_e40, own_e41, own_e42, own_e43, ↓reduceIte]
    by_cases zb1 : 191 < b
    · simp only [own_W, f2_15, f2_14, f2_15_3, f2_0, f0_599, f0_585, f0_584, f0_567, f0_312, f0_311, f0_276, f0_556, f0_555, f0_493, f0_492, f0_424, f0_423, f0_361, f0_360, f0_241, f0_240, f1_281, f1_270, f1_184, f1_183, f1_166, f1_163, f1_158, f1_140, f1_107, f1_102, f1_84, f1_51, f1_0, own_u8, own_u7, own_u6, own_u5, g0, g1, g2, g3, gx, own_11, own_12, own_13, own_a1, own_a0, hx, hl128, hl194, hl224, hl240, hl225, hl241, hg223, hg239, hg244, hg127, hg236, hg243, he224, he237, he240, he244, he238, he239, z, zb0, zb1, own_k00, own_k01, own_k02, own_k03, own_k04, own_k10, own_k11, own_k12, own_k13, own_k14, own_k20, own_k21, own_k22, own_k23, own_k24, own_k30, own_k31, own_k32, own_k33, own_k34, own_k40, own_k41, own_k42, own_k43, own_k44, own_e01, own_e02, own_e03, own_e04, own_e10, own_e12, own_e13, own_e14, own_e20, own_e21, own_e23, own_e24, own_e30, own_e31, own_e32, own_e34, own_e40, own_e41, own_e42, own_e43, ↓reduceIte]
    by_cases zc0 : c < 128
    · simp only [own_W, f2_15, f2_14, f2_15_3, f2_0, f0_599, f0_585, f0_584, f0_567, f0_312, f0_311, f0_276, f0_556, f0_555, f0_493, f0_492, f0_424, f0_423, f0_361, f0_360, f0_241, f0_240, f1_281, f1_270, f1_184, f1_183, f1_166, f1_163, f1_158, f1_140, f1_107, f1_102, f1_84, f1_51, f1_0, own_u8, own_u7, own_u6, own_u5, g0, g1, g2, g3, gx, own_11, own_12, own_13, own_a1, own_a0, hx, hl128, hl194, hl224, hl240, hl225, hl241, hg223, hg239, hg244, hg127, hg236, hg243, he224, he237, he240, he244, he238, he239, z, zb0, zb1, zc0, own_k00, own_k01, own_k02, own_k03, own_k04, own_k10, own_k11, own_k12, own_k13, own_k14, own_k20, own_k21, own_k22, own_k23, own_k24, own_k30, own_k31, own_k32, own_k33, own_k34, own_k40, own_k41, own_k42, own_k43, own_k44, own_e01, own_e02, own_e03, own_e04, own_e10, own_e12, own_e13, own_e14, own_e20, own_e21, own_e23, own_e24, own_e30, own_e31, own_e32, own_e34, own_e40, own_e41, own_e42, own_e43, ↓reduceIte]
    by_cases zc1 : 191 < c
    · simp only [own_W, f2_15, f2_14, f2_15_3, f2_0, f0_599, f0_585, f0_584, f0_567, f0_312, f0_311, f0_276, f0_556, f0_555, f0_493, f0_492, f0_424, f0_423, f0_361, f0_360, f0_241, f0_240, f1_281, f1_270, f1_184, f1_183, f1_166, f1_163, f1_158, f1_140, f1_107, f1_102, f1_84, f1_51, f1_0, own_u8, own_u7, own_u6, own_u5, g0, g1, g2, g3, gx, own_11, own_12, own_13, own_a1, own_a0, hx, hl128, hl194, hl224, hl240, hl225, hl241, hg223, hg239, hg244, hg127, hg236, hg243, he224, he237, he240, he244, he238, he239, z, zb0, zb1, zc0, zc1, own_k00, own_k01, own_k02, own_k03, own_k04, own_k10, own_k11, own_k12, own_k13, own_k14, own_k20, own_k21, own_k22, own_k23, own_k24, own_k30, own_k31, own_k32, own_k33, own_k34, own_k40, own_k41, own_k42, own_k43, own_k44, own_e01, own_e02, own_e03, own_e04, own_e10, own_e12, own_e13, own_e14, own_e20, own_e21, own_e23, own_e24, own_e30, own_e31, own_e32, own_e34, own_e40, own_e41, own_e42, own_e43, ↓reduceIte]
    simp only [own_W, f2_15, f2_14, f2_15_3, f2_0, f0_599, f0_585, f0_584, f0_567, f0_312, f0_311, f0_276, f0_556, f0_555, f0_493, f0_492, f0_424, f0_423, f0_361, f0_360, f0_241, f0_240, f1_281, f1_270, f1_184, f1_183, f1_166, f1_163, f1_158, f1_140, f1_107, f1_102, f1_84, f1_51, f1_0, own_u8, own_u7, own_u6, own_u5, g0, g1, g2, g3, gx, own_11, own_12, own_13, own_a1, own_a0, hx, hl128, hl194, hl224, hl240, hl225, hl241, hg223, hg239, hg244, hg127, hg236, hg243, he224, he237, he240, he244, he238, he239, z, zb0, zb1, zc0, zc1, own_k00, own_k01, own_k02, own_k03, own_k04, own_k10, own_k11, own_k12, own_k13, own_k14, own_k20, own_k21, own_k22, own_k23, own_k24, own_k30, own_k31, own_k32, own_k33, own_k34, own_k40, own_k41, own_k42, own_k43, own_k44, own_e01, own_e02, own_e03, own_e04, own_e10, own_e12, own_e13, own_e14, own_e20, own_e21, own_e23, own_e24, own_e30, own_e31, own_e32, own_e34, own_e40, own_e41, own_e42, own_e43, ↓reduceIte]
theorem own_c5 (v : List Int32) (p q a b c e x : Int32) (g0 : own_get v p &&& 255 = a) (g1 : own_get v (p + 1) &&& 255 = b) (g2 : own_get v (p + 2) &&& 255 = c) (g3 : own_get v (p + 3) &&& 255 = e) (gx : q - p = x) (x1 : 1 ≤ x.toInt) (a0 : 0 ≤ a.toInt) (a1 : a.toInt ≤ 255) (y0 : 225 ≤ a.toInt) (y1 : a.toInt ≤ 236) : own_W a b c e x (f1_0 v p q) = 1 := by
  have hl128 : (a < 128) = False := eq_false (by rw [own_lt, own_l128]; omega)
  have hl194 : (a < 194) = False := eq_false (by rw [own_lt, own_l194]; omega)
  have hl224 : (a < 224) = False := eq_false (by rw [own_lt, own_l224]; omega)
  have hl240 : (a < 240) = True := eq_true (by rw [own_lt, own_l240]; omega)
  have hl225 : (a < 225) = False := eq_false (by rw [own_lt, own_l225]; omega)
  have hl241 : (a < 241) = True := eq_true (by rw [own_lt, own_l241]; omega)
  have hg223 : (223 < a) = True := eq_true (by rw [own_lt, own_l223]; omega)
  have hg239 : (239 < a) = False := eq_false (by rw [own_lt, own_l239]; omega)
  have hg244 : (244 < a) = False := eq_false (by rw [own_lt, own_l244]; omega)
  have hg127 : (127 < a) = True := eq_true (by rw [own_lt, own_l127]; omega)
  have hg236 : (236 < a) = False := eq_false (by rw [own_lt, own_l236]; omega)
  have hg243 : (243 < a) = False := eq_false (by rw [own_lt, own_l243]; omega)
  have he224 : (a = 224) = False := eq_false (by rw [own_eq, own_l224]; omega)
  have he237 : (a = 237) = False := eq_false (by rw [own_eq, own_l237]; omega)
  have he240 : (a = 240) = False := eq_false (by rw [own_eq, own_l240]; omega)
  have he244 : (a = 244) = False := eq_false (by rw [own_eq, own_l244]; omega)
  have he238 : (a = 238) = False := eq_false (by rw [own_eq, own_l238]; omega)
  have he239 : (a = 239) = False := eq_false (by rw [own_eq, own_l239]; omega)
  have hx : (x < 1) = False := eq_false (by rw [own_lt, own_l1]; omega)
  by_cases z : x < 3
  · skip
    by_cases zb0 : b < 128
    · simp only [own_W, f2_15, f2_14, f2_15_3, f2_0, f0_599, f0_585, f0_584, f0_567, f0_312, f0_311, f0_276, f0_556, f0_555, f0_493, f0_492, f0_424, f0_423, f0_361, f0_360, f0_241, f0_240, f1_281, f1_270, f1_184, f1_183, f1_166, f1_163, f1_158, f1_140, f1_107, f1_102, f1_84, f1_51, f1_0, own_u8, own_u7, own_u6, own_u5, g0, g1, g2, g3, gx, own_11, own_12, own_13, own_a1, own_a0, hx, hl128, hl194, hl224, hl240, hl225, hl241, hg223, hg239, hg244, hg127, hg236, hg243, he224, he237, he240, he244, he238, he239, z, zb0, own_k00, own_k01, own_k02, own_k03, own_k04, own_k10, own_k11, own_k12, own_k13, own_k14, own_k20, own_k21, own_k22, own_k23, own_k24, own_k30, own_k31, own_k32, own_k33, own_k34, own_k40, own_k41, own_k42, own_k43, own_k44, own_e01, own_e02, own_e03, own_e04, own_e10, own_e12, own_e13, own_e14, own_e20, own_e21, own_e23, own_e24, own_e30, own_e31, own_e32, own_e34, own_e40, own_e41, own_e42, own_e43, ↓reduceIte]
    by_cases zb1 : 191 < b
    · simp only [own_W, f2_15, f2_14, f2_15_3, f2_0, f0_599, f0_585, f0_584, f0_567, f0_312, f0_311, f0_276, f0_556, f0_555, f0_493, f0_492, f0_424, f0_423, f0_361, f0_360, f0_241, f0_240, f1_281, f1_270, f1_184, f1_183, f1_166, f1_163, f1_158, f1_140, f1_107, f1_102, f1_84, f1_51, f1_0, own_u8, own_u7, own_u6, own_u5, g0, g1, g2, g3, gx, own_11, own_12, own_13, own_a1, own_a0, hx, hl128, hl194, hl224, hl240, hl225, hl241, hg223, hg239, hg244, hg127, hg236, hg243, he224, he237, he240, he244, he238, he239, z, zb0, zb1, own_k00, own_k01, own_k02, own_k03, own_k04, own_k10, own_k11, own_k12, own_k13, own_k14, own_k20, own_k21, own_k22, own_k23, own_k24, own_k30, own_k31, own_k32, own_k33, own_k34, own_k40, own_k41, own_k42, own_k43, own_k44, own_e01, own_e02, own_e03, own_e04, own_e10, own_e12, own_e13, own_e14, own_e20, own_e21, own_e23, own_e24, own_e30, own_e31, own_e32, own_e34, own_e40, own_e41, own_e42, own_e43, ↓reduceIte]
    by_cases zc0 : c < 128
    · simp only [own_W, f2_15, f2_14, f2_15_3, f2_0, f0_599, f0_585, f0_584, f0_567, f0_312, f0_311, f0_276, f0_556, f0_555, f0_493, f0_492, f0_424, f0_423, f0_361, f0_360, f0_241, f0_240, f1_281, f1_270, f1_184, f1_183, f1_166, f1_163, f1_158, f1_140, f1_107, f1_102, f1_84, f1_51, f1_0, own_u8, own_u7, own_u6, own_u5, g0, g1, g2, g3, gx, own_11, own_12, own_13, own_a1, own_a0, hx, hl128, hl194, hl224, hl240, hl225, hl241, hg223, hg239, hg244, hg127, hg236, hg243, he224, he237, he240, he244, he238, he239, z, zb0, zb1, zc0, own_k00, own_k01, own_k02, own_k03, own_k04, own_k10, own_k11, own_k12, own_k13, own_k14, own_k20, own_k21, own_k22, own_k23, own_k24, own_k30, own_k31, own_k32, own_k33, own_k34, own_k40, own_k41, own_k42, own_k43, own_k44, own_e01, own_e02, own_e03, own_e04, own_e10, own_e12, own_e13, own_e14, own_e20, own_e21, own_e23, own_e24, own_e30, own_e31, own_e32, own_e34, own_e40, own_e41, own_e42, own_e43, ↓reduceIte]
    by_cases zc1 : 191 < c
    · simp only [own_W, f2_15, f2_14, f2_15_3, f2_0, f0_599, f0_585, f0_584, f0_567, f0_312, f0_311, f0_276, f0_556, f0_555, f0_493, f0_492, f0_424, f0_423, f0_361, f0_360, f0_241, f0_240, f1_281, f1_270, f1_184, f1_183, f1_166, f1_163, f1_158, f1_140, f1_107, f1_102, f1_84, f1_51, f1_0, own_u8, own_u7, own_u6, own_u5, g0, g1, g2, g3, gx, own_11, own_12, own_13, own_a1, own_a0, hx, hl128, hl194, hl224, hl240, hl225, hl241, hg223, hg239, hg244, hg127, hg236, hg243, he224, he237, he240, he244, he238, he239, z, zb0, zb1, zc0, zc1, own_k00, own_k01, own_k02, own_k03, own_k04, own_k10, own_k11, own_k12, own_k13, own_k14, own_k20, own_k21, own_k22, own_k23, own_k24, own_k30, own_k31, own_k32, own_k33, own_k34, own_k40, own_k41, own_k42, own_k43, own_k44, own_e01, own_e02, own_e03, own_e04, own_e10, own_e12, own_e13, own_e14, own_e20, own_e21, own_e23, own_e24, own_e30, own_e31, own_e32, own_e34, own_e40, own_e41, own_e42, own_e43, ↓reduceIte]
    simp only [own_W, f2_15, f2_14, f2_15_3, f2_0, f0_599, f0_585, f0_584, f0_567, f0_312, f0_311, f0_276, f0_556, f0_555, f0_493, f0_492, f0_424, f0_423, f0_361, f0_360, f0_241, f0_240, f1_281, f1_270, f1_184, f1_183, f1_166, f1_163, f1_158, f1_140, f1_107, f1_102, f1_84, f1_51, f1_0, own_u8, own_u7, own_u6, own_u5, g0, g1, g2, g3, gx, own_11, own_12, own_13, own_a1, own_a0, hx, hl128, hl194, hl224, hl240, hl225, hl241, hg223, hg239, hg244, hg127, hg236, hg243, he224, he237, he240, he244, he238, he239, z, zb0, zb1, zc0, zc1, own_k00, own_k01, own_k02, own_k03, own_k04, own_k10, own_k11, own_k12, own_k13, own_k14, own_k20, own_k21, own_k22, own_k23, own_k24, own_k30, own_k31, own_k32, own_k33, own_k34, own_k40, own_k41, own_k42, own_k43, own_k44, own_e01, own_e02, own_e03, own_e04, own_e10, own_e12, own_e13, own_e14, own_e20, own_e21, own_e23, own_e24, own_e30, own_e31, own_e32, own_e34, own_e40, own_e41, own_e42, own_e43, ↓reduceIte]
  · skip
    by_cases zb0 : b < 128
    · simp only [own_W, f2_15, f2_14, f2_15_3, f2_0, f0_599, f0_585, f0_584, f0_567, f0_312, f0_311, f0_276, f0_556, f0_555, f0_493, f0_492, f0_424, f0_423, f0_361, f0_360, f0_241, f0_240, f1_281, f1_270, f1_184, f1_183, f1_166, f1_163, f1_158, f1_140, f1_107, f1_102, f1_84, f1_51, f1_0, own_u8, own_u7, own_u6, own_u5, g0, g1, g2, g3, gx, own_11, own_12, own_13, own_a1, own_a0, hx, hl128, hl194, hl224, hl240, hl225, hl241, hg223, hg239, hg244, hg127, hg236, hg243, he224, he237, he240, he244, he238, he239, z, zb0, own_k00, own_k01, own_k02, own_k03, own_k04, own_k10, own_k11, own_k12, own_k13, own_k14, own_k20, own_k21, own_k22, own_k23, own_k24, own_k30, own_k31, own_k32, own_k33, own_k34, own_k40, own_k41, own_k42, own_k43, own_k44, own_e01, own_e02, own_e03, own_e04, own_e10, own_e12, own_e13, own_e14, own_e20, own_e21, own_e23, own_e24, own_e30, own_e31, own_e32, own_e34, own_e40, own_e41, own_e42, own_e43, ↓reduceIte]
    by_cases zb1 : 191 < b
    · simp only [own_W, f2_15, f2_14, f2_15_3, f2_0, f0_599, f0_585, f0_584, f0_567, f0_312, f0_311, f0_276, f0_556, f0_555, f0_493, f0_492, f0_424, f0_423, f0_361, f0_360, f0_241, f0_240, f1_281, f1_270, f1_184, f1_183, f1_166, f1_163, f1_158, f1_140, f1_107, f1_102, f1_84, f1_51, f1_0, own_u8, own_u7, own_u6, own_u5, g0, g1, g2, g3, gx, own_11, own_12, own_13, own_a1, own_a0, hx, hl128, hl194, hl224, hl240, hl225, hl241, hg223, hg239, hg244, hg127, hg236, hg243, he224, he237, he240, he244, he238, he239, z, zb0, zb1, own_k00, own_k01, own_k02, own_k03, own_k04, own_k10, own_k11, own_k12, own_k13, own_k14, own_k20, own_k21, own_k22, own_k23, own_k24, own_k30, own_k31, own_k32, own_k33, own_k34, own_k40, own_k41, own_k42, own_k43, own_k44, own_e01, own_e02, own_e03, own_e04, own_e10, own_e12, own_e13, own_e14, own_e20, own_e21, own_e23, own_e24, own_e30, own_e31, own_e32, own_e34, own_e40, own_e41, own_e42, own_e43, ↓reduceIte]
    by_cases zc0 : c < 128
    · simp only [own_W, f2_15, f2_14, f2_15_3, f2_0, f0_599, f0_585, f0_584, f0_567, f0_312, f0_311, f0_276, f0_556, f0_555, f0_493, f0_492, f0_424, f0_423, f0_361, f0_360, f0_241, f0_240, f1_281, f1_270, f1_184, f1_183, f1_166, f1_163, f1_158, f1_140, f1_107, f1_102, f1_84, f1_51, f1_0, own_u8, own_u7, own_u6, own_u5, g0, g1, g2, g3, gx, own_11, own_12, own_13, own_a1, own_a0, hx, hl128, hl194, hl224, hl240, hl225, hl241, hg223, hg239, hg244, hg127, hg236, hg243, he224, he237, he240, he244, he238, he239, z, zb0, zb1, zc0, own_k00, own_k01, own_k02, own_k03, own_k04, own_k10, own_k11, own_k12, own_k13, own_k14, own_k20, own_k21, own_k22, own_k23, own_k24, own_k30, own_k31, own_k32, own_k33, own_k34, own_k40, own_k41, own_k42, own_k43, own_k44, own_e01, own_e02, own_e03, own_e04, own_e10, own_e12, own_e13, own_e14, own_e20, own_e21, own_e23, own_e24, own_e30, own_e31, own_e32, own_e34, own_e40, own_e41, own_e42, own_e43, ↓reduceIte]
    by_cases zc1 : 191 < c
    · simp only [own_W, f2_15, f2_14, f2_15_3, f2_0, f0_599, f0_585, f0_584, f0_567, f0_312, f0_311, f0_276, f0_556, f0_555, f0_493, f0_492, f0_424, f0_423, f0_361, f0_360, f0_241, f0_240, f1_281, f1_270, f1_184, f1_183, f1_166, f1_163, f1_158, f1_140, f1_107, f1_102, f1_84, f1_51, f1_0, own_u8, own_u7, own_u6, own_u5, g0, g1, g2, g3, gx, own_11, own_12, own_13, own_a1, own_a0, hx, hl128, hl194, hl224, hl240, hl225, hl241, hg223, hg239, hg244, hg127, hg236, hg243, he224, he237, he240, he244, he238, he239, z, zb0, zb1, zc0, zc1, own_k00, own_k01, own_k02, own_k03, own_k04, own_k10, own_k11, own_k12, own_k13, own_k14, own_k20, own_k21, own_k22, own_k23, own_k24, own_k30, own_k31, own_k32, own_k33, own_k34, own_k40, own_k41, own_k42, own_k43, own_k44, own_e01, own_e02, own_e03, own_e04, own_e10, own_e12, own_e13, own_e14, own_e20, own_e21, own_e23, own_e24, own_e30, own_e31, own_e32, own_e34, own_e40, own_e41, own_e42, own_e43, ↓reduceIte]
    simp only [own_W, f2_15, f2_14, f2_15_3, f2_0, f0_599, f0_585, f0_584, f0_567, f0_312, f0_311, f0_276, f0_556, f0_555, f0_493, f0_492, f0_424, f0_423, f0_361, f0_360, f0_241, f0_240, f1_281, f1_270, f1_184, f1_183, f1_166, f1_163, f1_158, f1_140, f1_107, f1_102, f1_84, f1_51, f1_0, own_u8, own_u7, own_u6, own_u5, g0, g1, g2, g3, gx, own_11, own_12, own_13, own_a1, own_a0, hx, hl128, hl194, hl224, hl240, hl225, hl241, hg223, hg239, hg244, hg127, hg236, hg243, he224, he237, he240, he244, he238, he239, z, zb0, zb1, zc0, zc1, own_k00, own_k01, own_k02, own_k03, own_k04, own_k10, own_k11, own_k12, own_k13, own_k14, own_k20, own_k21, own_k22, own_k23, own_k24, own_k30, own_k31, own_k32, own_k33, own_k34, own_k40, own_k41, own_k42, own_k43, own_k44, own_e01, own_e02, own_e03, own_e04, own_e10, own_e12, own_e13, own_e14, own_e20, own_e21, own_e23, own_e24, own_e30, own_e31, own_e32, own_e34, own_e40, own_e41, own_e42, own_e43, ↓reduceIte]
theorem own_c6 (v : List Int32) (p q a b c e x : Int32) (g0 : own_get v p &&& 255 = a) (g1 : own_get v (p + 1) &&& 255 = b) (g2 : own_get v (p + 2) &&& 255 = c) (g3 : own_get v (p + 3) &&& 255 = e) (gx : q - p = x) (x1 : 1 ≤ x.toInt) (a0 : 0 ≤ a.toInt) (a1 : a.toInt ≤ 255) (y0 : 237 ≤ a.toInt) (y1 : a.toInt ≤ 237) : own_W a b c e x (f1_0 v p q) = 1 := by
  have hl128 : (a < 128) = False := eq_false (by rw [own_lt, own_l128]; omega)
  have hl194 : (a < 194) = False := eq_false (by rw [own_lt, own_l194]; omega)
  have hl224 : (a < 224) = False := eq_false (by rw [own_lt, own_l224]; omega)
  have hl240 : (a < 240) = True := eq_true (by rw [own_lt, own_l240]; omega)
  have hl225 : (a < 225) = False := eq_false (by rw [own_lt, own_l225]; omega)
  have hl241 : (a < 241) = True := eq_true (by rw [own_lt, own_l241]; omega)
  have hg223 : (223 < a) = True := eq_true (by rw [own_lt, own_l223]; omega)
  have hg239 : (239 < a) = False := eq_false (by rw [own_lt, own_l239]; omega)
  have hg244 : (244 < a) = False := eq_false (by rw [own_lt, own_l244]; omega)
  have hg127 : (127 < a) = True := eq_true (by rw [own_lt, own_l127]; omega)
  have hg236 : (236 < a) = True := eq_true (by rw [own_lt, own_l236]; omega)
  have hg243 : (243 < a) = False := eq_false (by rw [own_lt, own_l243]; omega)
  have he224 : (a = 224) = False := eq_false (by rw [own_eq, own_l224]; omega)
  have he237 : (a = 237) = True := eq_true (by rw [own_eq, own_l237]; omega)
  have he240 : (a = 240) = False := eq_false (by rw [own_eq, own_l240]; omega)
  have he244 : (a = 244) = False := eq_false (by rw [own_eq, own_l244]; omega)
  have he238 : (a = 238) = False := eq_false (by rw [own_eq, own_l238]; omega)
  have he239 : (a = 239) = False := eq_false (by rw [own_eq, own_l239]; omega)
  have hx : (x < 1) = False := eq_false (by rw [own_lt, own_l1]; omega)
  by_cases z : x < 3
  · skip
    by_cases zb0 : b < 128
    · simp only [own_W, f2_15, f2_14, f2_15_3, f2_0, f0_599, f0_585, f0_584, f0_567, f0_312, f0_311, f0_276, f0_556, f0_555, f0_493, f0_492, f0_424, f0_423, f0_361, f0_360, f0_241, f0_240, f1_281, f1_270, f1_184, f1_183, f1_166, f1_163, f1_158, f1_140, f1_107, f1_102, f1_84, f1_51, f1_0, own_u8, own_u7, own_u6, own_u5, g0, g1, g2, g3, gx, own_11, own_12, own_13, own_a1, own_a0, hx, hl128, hl194, hl224, hl240, hl225, hl241, hg223, hg239, hg244, hg127, hg236, hg243, he224, he237, he240, he244, he238, he239, z, zb0, own_k00, own_k01, own_k02, own_k03, own_k04, own_k10, own_k11, own_k12, own_k13, own_k14, own_k20, own_k21, own_k22, own_k23, own_k24, own_k30, own_k31, own_k32, own_k33, own_k34, own_k40, own_k41, own_k42, own_k43, own_k44, own_e01, own_e02, own_e03, own_e04, own_e10, own_e12, own_e13, own_e14, own_e20, own_e21, own_e23, own_e24, own_e30, own_e31, own_e32, own_e34, own_e40, own_e41, own_e42, own_e43, ↓reduceIte]
    by_cases zb1 : 159 < b
    · simp only [own_W, f2_15, f2_14, f2_15_3, f2_0, f0_599, f0_585, f0_584, f0_567, f0_312, f0_311, f0_276, f0_556, f0_555, f0_493, f0_492, f0_424, f0_423, f0_361, f0_360, f0_241, f0_240, f1_281, f1_270, f1_184, f1_183, f1_166, f1_163, f1_158, f1_140, f1_107, f1_102, f1_84, f1_51, f1_0, own_u8, own_u7, own_u6, own_u5, g0, g1, g2, g3, gx, own_11, own_12, own_13, own_a1, own_a0, hx, hl128, hl194, hl224, hl240, hl225, hl241, hg223, hg239, hg244, hg127, hg236, hg243, he224, he237, he240, he244, he238, he239, z, zb0, zb1, own_k00, own_k01, own_k02, own_k03, own_k04, own_k10, own_k11, own_k12, own_k13, own_k14, own_k20, own_k21, own_k22, own_k23, own_k24, own_k30, own_k31, own_k32, own_k33, own_k34, own_k40, own_k41, own_k42, own_k43, own_k44, own_e01, own_e02, own_e03, own_e04, own_e10, own_e12, own_e13, own_e14, own_e20, own_e21, own_e23, own_e24, own_e30, own_e31, own_e32, own_e34, own_e40, own_e41, own_e42, own_e43, ↓reduceIte]
    by_cases zc0 : c < 128
    · simp only [own_W, f2_15, f2_14, f2_15_3, f2_0, f0_599, f0_585, f0_584, f0_567, f0_312, f0_311, f0_276, f0_556, f0_555, f0_493, f0_492, f0_424, f0_423, f0_361, f0_360, f0_241, f0_240, f1_281, f1_270, f1_184, f1_183, f1_166, f1_163, f1_158, f1_140, f1_107, f1_102, f1_84, f1_51, f1_0, own_u8, own_u7, own_u6, own_u5, g0, g1, g2, g3, gx, own_11, own_12, own_13, own_a1, own_a0, hx, hl128, hl194, hl224, hl240, hl225, hl241, hg223, hg239, hg244, hg127, hg236, hg243, he224, he237, he240, he244, he238, he239, z, zb0, zb1, zc0, own_k00, own_k01, own_k02, own_k03, own_k04, own_k10, own_k11, own_k12, own_k13, own_k14, own_k20, own_k21, own_k22, own_k23, own_k24, own_k30, own_k31, own_k32, own_k33, own_k34, own_k40, own_k41, own_k42, own_k43, own_k44, own_e01, own_e02, own_e03, own_e04, own_e10, own_e12, own_e13, own_e14, own_e20, own_e21, own_e23, own_e24, own_e30, own_e31, own_e32, own_e34, own_e40, own_e41, own_e42, own_e43, ↓reduceIte]
    by_cases zc1 : 191 < c
    · simp only [own_W, f2_15, f2_14, f2_15_3, f2_0, f0_599, f0_585, f0_584, f0_567, f0_312, f0_311, f0_276, f0_556, f0_555, f0_493, f0_492, f0_424, f0_423, f0_361, f0_360, f0_241, f0_240, f1_281, f1_270, f1_184, f1_183, f1_166, f1_163, f1_158, f1_140, f1_107, f1_102, f1_84, f1_51, f1_0, own_u8, own_u7, own_u6, own_u5, g0, g1, g2, g3, gx, own_11, own_12, own_13, own_a1, own_a0, hx, hl128, hl194, hl224, hl240, hl225, hl241, hg223, hg239, hg244, hg127, hg236, hg243, he224, he237, he240, he244, he238, he239, z, zb0, zb1, zc0, zc1, own_k00, own_k01, own_k02, own_k03, own_k04, own_k10, own_k11, own_k12, own_k13, own_k14, own_k20, own_k21, own_k22, own_k23, own_k24, own_k30, own_k31, own_k32, own_k33, own_k34, own_k40, own_k41, own_k42, own_k43, own_k44, own_e01, own_e02, own_e03, own_e04, own_e10, own_e12, own_e13, own_e14, own_e20, own_e21, own_e23, own_e24, own_e30, own_e31, own_e32, own_e34, own_e40, own_e41, own_e42, own_e43, ↓reduceIte]
    simp only [own_W, f2_15, f2_14, f2_15_3, f2_0, f0_599, f0_585, f0_584, f0_567, f0_312, f0_311, f0_276, f0_556, f0_555, f0_493, f0_492, f0_424, f0_423, f0_361, f0_360, f0_241, f0_240, f1_281, f1_270, f1_184, f1_183, f1_166, f1_163, f1_158, f1_140, f1_107, f1_102, f1_84, f1_51, f1_0, own_u8, own_u7, own_u6, own_u5, g0, g1, g2, g3, gx, own_11, own_12, own_13, own_a1, own_a0, hx, hl128, hl194, hl224, hl240, hl225, hl241, hg223, hg239, hg244, hg127, hg236, hg243, he224, he237, he240, he244, he238, he239, z, zb0, zb1, zc0, zc1, own_k00, own_k01, own_k02, own_k03, own_k04, own_k10, own_k11, own_k12, own_k13, own_k14, own_k20, own_k21, own_k22, own_k23, own_k24, own_k30, own_k31, own_k32, own_k33, own_k34, own_k40, own_k41, own_k42, own_k43, own_k44, own_e01, own_e02, own_e03, own_e04, own_e10, own_e12, own_e13, own_e14, own_e20, own_e21, own_e23, own_e24, own_e30, own_e31, own_e32, own_e34, own_e40, own_e41, own_e42, own_e43, ↓reduceIte]
  · skip
    by_cases zb0 : b < 128
    · simp only [own_W, f2_15, f2_14, f2_15_3, f2_0, f0_599, f0_585, f0_584, f0_567, f0_312, f0_311, f0_276, f0_556, f0_555, f0_493, f0_492, f0_424, f0_423, f0_361, f0_360, f0_241, f0_240, f1_281, f1_270, f1_184, f1_183, f1_166, f1_163, f1_158, f1_140, f1_107, f1_102, f1_84, f1_51, f1_0, own_u8, own_u7, own_u6, own_u5, g0, g1, g2, g3, gx, own_11, own_12, own_13, own_a1, own_a0, hx, hl128, hl194, hl224, hl240, hl225, hl241, hg223, hg239, hg244, hg127, hg236, hg243, he224, he237, he240, he244, he238, he239, z, zb0, own_k00, own_k01, own_k02, own_k03, own_k04, own_k10, own_k11, own_k12, own_k13, own_k14, own_k20, own_k21, own_k22, own_k23, own_k24, own_k30, own_k31, own_k32, own_k33, own_k34, own_k40, own_k41, own_k42, own_k43, own_k44, own_e01, own_e02, own_e03, own_e04, own_e10, own_e12, own_e13, own_e14, own_e20, own_e21, own_e23, own_e24, own_e30, own_e31, own_e32, own_e34, own_e40, own_e41, own_e42, own_e43, ↓reduceIte]
    by_cases zb1 : 159 < b
    · simp only [own_W, f2_15, f2_14, f2_15_3, f2_0, f0_599, f0_585, f0_584, f0_567, f0_312, f0_311, f0_276, f0_556, f0_555, f0_493, f0_492, f0_424, f0_423, f0_361, f0_360, f0_241, f0_240, f1_281, f1_270, f1_184, f1_183, f1_166, f1_163, f1_158, f1_140, f1_107, f1_102, f1_84, f1_51, f1_0, own_u8, own_u7, own_u6, own_u5, g0, g1, g2, g3, gx, own_11, own_12, own_13, own_a1, own_a0, hx, hl128, hl194, hl224, hl240, hl225, hl241, hg223, hg239, hg244, hg127, hg236, hg243, he224, he237, he240, he244, he238, he239, z, zb0, zb1, own_k00, own_k01, own_k02, own_k03, own_k04, own_k10, own_k11, own_k12, own_k13, own_k14, own_k20, own_k21, own_k22, own_k23, own_k24, own_k30, own_k31, own_k32, own_k33, own_k34, own_k40, own_k41, own_k42, own_k43, own_k44, own_e01, own_e02, own_e03, own_e04, own_e10, own_e12, own_e13, own_e14, own_e20, own_e21, own_e23, own_e24, own_e30, own_e31, own_e32, own_e34, own_e40, own_e41, own_e42, own_e43, ↓reduceIte]
    by_cases zc0 : c < 128
    · simp only [own_W, f2_15, f2_14, f2_15_3, f2_0, f0_599, f0_585, f0_584, f0_567, f0_312, f0_311, f0_276, f0_556, f0_555, f0_493, f0_492, f0_424, f0_423, f0_361, f0_360, f0_241, f0_240, f1_281, f1_270, f1_184, f1_183, f1_166, f1_163, f1_158, f1_140, f1_107, f1_102, f1_84, f1_51, f1_0, own_u8, own_u7, own_u6, own_u5, g0, g1, g2, g3, gx, own_11, own_12, own_13, own_a1, own_a0, hx, hl128, hl194, hl224, hl240, hl225, hl241, hg223, hg239, hg244, hg127, hg236, hg243, he224, he237, he240, he244, he238, he239, z, zb0, zb1, zc0, own_k00, own_k01, own_k02, own_k03, own_k04, own_k10, own_k11, own_k12, own_k13, own_k14, own_k20, own_k21, own_k22, own_k23, own_k24, own_k30, own_k31, own_k32, own_k33, own_k34, own_k40, own_k41, own_k42, own_k43, own_k44, own_e01, own_e02, own_e03, own_e04, own_e10, own_e12, own_e13, own_e14, own_e20, own_e21, own_e23, own_e24, own_e30, own_e31, own_e32, own_e34, own_e40, own_e41, own_e42, own_e43, ↓reduceIte]
    by_cases zc1 : 191 < c
    · simp only [own_W, f2_15, f2_14, f2_15_3, f2_0, f0_599, f0_585, f0_584, f0_567, f0_312, f0_311, f0_276, f0_556, f0_555, f0_493, f0_492, f0_424, f0_423, f0_361, f0_360, f0_241, f0_240, f1_281, f1_270, f1_184, f1_183, f1_166, f1_163, f1_158, f1_140, f1_107, f1_102, f1_84, f1_51, f1_0, own_u8, own_u7, own_u6, own_u5, g0, g1, g2, g3, gx, own_11, own_12, own_13, own_a1, own_a0, hx, hl128, hl194, hl224, hl240, hl225, hl241, hg223, hg239, hg244, hg127, hg236, hg243, he224, he237, he240, he244, he238, he239, z, zb0, zb1, zc0, zc1, own_k00, own_k01, own_k02, own_k03, own_k04, own_k10, own_k11, own_k12, own_k13, own_k14, own_k20, own_k21, own_k22, own_k23, own_k24, own_k30, own_k31, own_k32, own_k33, own_k34, own_k40, own_k41, own_k42, own_k43, own_k44, own_e01, own_e02, own_e03, own_e04, own_e10, own_e12, own_e13, own_e14, own_e20, own_e21, own_e23, own_e24, own_e30, own_e31, own_e32, own_e34, own_e40, own_e41, own_e42, own_e43, ↓reduceIte]
    simp only [own_W, f2_15, f2_14, f2_15_3, f2_0, f0_599, f0_585, f0_584, f0_567, f0_312, f0_311, f0_276, f0_556, f0_555, f0_493, f0_492, f0_424, f0_423, f0_361, f0_360, f0_241, f0_240, f1_281, f1_270, f1_184, f1_183, f1_166, f1_163, f1_158, f1_140, f1_107, f1_102, f1_84, f1_51, f1_0, own_u8, own_u7, own_u6, own_u5, g0, g1, g2, g3, gx, own_11, own_12, own_13, own_a1, own_a0, hx, hl128, hl194, hl224, hl240, hl225, hl241, hg223, hg239, hg244, hg127, hg236, hg243, he224, he237, he240, he244, he238, he239, z, zb0, zb1, zc0, zc1, own_k00, own_k01, own_k02, own_k03, own_k04, own_k10, own_k11, own_k12, own_k13, own_k14, own_k20, own_k21, own_k22, own_k23, own_k24, own_k30, own_k31, own_k32, own_k33, own_k34, own_k40, own_k41, own_k42, own_k43, own_k44, own_e01, own_e02, own_e03, own_e04, own_e10, own_e12, own_e13, own_e14, own_e20, own_e21, own_e23, own_e24, own_e30, own_e31, own_e32, own_e34, own_e40, own_e41, own_e42, own_e43, ↓reduceIte]
theorem own_c7 (v : List Int32) (p q a b c e x : Int32) (g0 : own_get v p &&& 255 = a) (g1 : own_get v (p + 1) &&& 255 = b) (g2 : own_get v (p + 2) &&& 255 = c) (g3 : own_get v (p + 3) &&& 255 = e) (gx : q - p = x) (x1 : 1 ≤ x.toInt) (a0 : 0 ≤ a.toInt) (a1 : a.toInt ≤ 255) (y0 : 238 ≤ a.toInt) (y1 : a.toInt ≤ 238) : own_W a b c e x (f1_0 v p q) = 1 := by
  have hl128 : (a < 128) = False := eq_false (by rw [own_lt, own_l128]; omega)
  have hl194 : (a < 194) = False := eq_false (by rw [own_lt, own_l194]; omega)
  have hl224 : (a < 224) = False := eq_false (by rw [own_lt, own_l224]; omega)
  have hl240 : (a < 240) = True := eq_true (by rw [own_lt, own_l240]; omega)
  have hl225 : (a < 225) = False := eq_false (by rw [own_lt, own_l225]; omega)
  have hl241 : (a < 241) = True := eq_true (by rw [own_lt, own_l241]; omega)
  have hg223 : (223 < a) = True := eq_true (by rw [own_lt, own_l223]; omega)
  have hg239 : (239 < a) = False := eq_false (by rw [own_lt, own_l239]; omega)
  have hg244 : (244 < a) = False := eq_false (by rw [own_lt, own_l244]; omega)
  have hg127 : (127 < a) = True := eq_true (by rw [own_lt, own_l127]; omega)
  have hg236 : (236 < a) = True := eq_true (by rw [own_lt, own_l236]; omega)
  have hg243 : (243 < a) = False := eq_false (by rw [own_lt, own_l243]; omega)
  have he224 : (a = 224) = False := eq_false (by rw [own_eq, own_l224]; omega)
  have he237 : (a = 237) = False := eq_false (by rw [own_eq, own_l237]; omega)
  have he240 : (a = 240) = False := eq_false (by rw [own_eq, own_l240]; omega)
  have he244 : (a = 244) = False := eq_false (by rw [own_eq, own_l244]; omega)
  have he238 : (a = 238) = True := eq_true (by rw [own_eq, own_l238]; omega)
  have he239 : (a = 239) = False := eq_false (by rw [own_eq, own_l239]; omega)
  have hx : (x < 1) = False := eq_false (by rw [own_lt, own_l1]; omega)
  by_cases z : x < 3
  · skip
    by_cases zb0 : b < 128
    · simp only [own_W, f2_15, f2_14, f2_15_3, f2_0, f0_599, f0_585, f0_584, f0_567, f0_312, f0_311, f0_276, f0_556, f0_555, f0_493, f0_492, f0_424, f0_423, f0_361, f0_360, f0_241, f0_240, f1_281, f1_270, f1_184, f1_183, f1_166, f1_163, f1_158, f1_140, f1_107, f1_102, f1_84, f1_51, f1_0, own_u8, own_u7, own_u6, own_u5, g0, g1, g2, g3, gx, own_11, own_12, own_13, own_a1, own_a0, hx, hl128, hl194, hl224, hl240, hl225, hl241, hg223, hg239, hg244, hg127, hg236, hg243, he224, he237, he240, he244, he238, he239, z, zb0, own_k00, own_k01, own_k02, own_k03, own_k04, own_k10, own_k11, own_k12, own_k13, own_k14, own_k20, own_k21, own_k22, own_k23, own_k24, own_k30, own_k31, own_k32, own_k33, own_k34, own_k40, own_k41, own_k42, own_k43, own_k44, own_e01, own_e02, own_e03, own_e04, own_e10, own_e12, own_e13, own_e14, own_e20, own_e21, own_e23, own_e24, own_e30, own_e31, own_e32, own_e34, own_e40, own_e41, own_e42, own_e43, ↓reduceIte]
    by_cases zb1 : 191 < b
    · simp only [own_W, f2_15, f2_14, f2_15_3, f2_0, f0_599, f0_585, f0_584, f0_567, f0_312, f0_311, f0_276, f0_556, f0_555, f0_493, f0_492, f0_424, f0_423, f0_361, f0_360, f0_241, f0_240, f1_281, f1_270, f1_184, f1_183, f1_166, f1_163, f1_158, f1_140, f1_107, f1_102, f1_84, f1_51, f1_0, own_u8, own_u7, own_u6, own_u5, g0, g1, g2, g3, gx, own_11, own_12, own_13, own_a1, own_a0, hx, hl128, hl194, hl224, hl240, hl225, hl241, hg223, hg239, hg244, hg127, hg236, hg243, he224, he237, he240, he244, he238, he239, z, zb0, zb1, own_k00, own_k01, own_k02, own_k03, own_k04, own_k10, own_k11, own_k12, own_k13, own_k14, own_k20, own_k21, own_k22, own_k23, own_k24, own_k30, own_k31, own_k32, own_k33, own_k34, own_k40, own_k41, own_k42, own_k43, own_k44, own_e01, own_e02, own_e03, own_e04, own_e10, own_e12, own_e13, own_e14, own_e20, own_e21, own_e23, own_e24, own_e30, own_e31, own_e32, own_e34, own_e40, own_e41, own_e42, own_e43, ↓reduceIte]
    by_cases zc0 : c < 128
    · simp only [own_W, f2_15, f2_14, f2_15_3, f2_0, f0_599, f0_585, f0_584, f0_567, f0_312, f0_311, f0_276, f0_556, f0_555, f0_493, f0_492, f0_424, f0_423, f0_361, f0_360, f0_241, f0_240, f1_281, f1_270, f1_184, f1_183, f1_166, f1_163, f1_158, f1_140, f1_107, f1_102, f1_84, f1_51, f1_0, own_u8, own_u7, own_u6, own_u5, g0, g1, g2, g3, gx, own_11, own_12, own_13, own_a1, own_a0, hx, hl128, hl194, hl224, hl240, hl225, hl241, hg223, hg239, hg244, hg127, hg236, hg243, he224, he237, he240, he244, he238, he239, z, zb0, zb1, zc0, own_k00, own_k01, own_k02, own_k03, own_k04, own_k10, own_k11, own_k12, own_k13, own_k14, own_k20, own_k21, own_k22, own_k23, own_k24, own_k30, own_k31, own_k32, own_k33, own_k34, own_k40, own_k41, own_k42, own_k43, own_k44, own_e01, own_e02, own_e03, own_e04, own_e10, own_e12, own_e13, own_e14, own_e20, own_e21, own_e23, own_e24, own_e30, own_e31, own_e32, own_e34, own_e40, own_e41, own_e42, own_e43, ↓reduceIte]
    by_cases zc1 : 191 < c
    · simp only [own_W, f2_15, f2_14, f2_15_3, f2_0, f0_599, f0_585, f0_584, f0_567, f0_312, f0_311, f0_276, f0_556, f0_555, f0_493, f0_492, f0_424, f0_423, f0_361, f0_360, f0_241, f0_240, f1_281, f1_270, f1_184, f1_183, f1_166, f1_163, f1_158, f1_140, f1_107, f1_102, f1_84, f1_51, f1_0, own_u8, own_u7, own_u6, own_u5, g0, g1, g2, g3, gx, own_11, own_12, own_13, own_a1, own_a0, hx, hl128, hl194, hl224, hl240, hl225, hl241, hg223, hg239, hg244, hg127, hg236, hg243, he224, he237, he240, he244, he238, he239, z, zb0, zb1, zc0, zc1, own_k00, own_k01, own_k02, own_k03, own_k04, own_k10, own_k11, own_k12, own_k13, own_k14, own_k20, own_k21, own_k22, own_k23, own_k24, own_k30, own_k31, own_k32, own_k33, own_k34, own_k40, own_k41, own_k42, own_k43, own_k44, own_e01, own_e02, own_e03, own_e04, own_e10, own_e12, own_e13, own_e14, own_e20, own_e21, own_e23, own_e24, own_e30, own_e31, own_e32, own_e34, own_e40, own_e41, own_e42, own_e43, ↓reduceIte]
    simp only [own_W, f2_15, f2_14, f2_15_3, f2_0, f0_599, f0_585, f0_584, f0_567, f0_312, f0_311, f0_276, f0_556, f0_555, f0_493, f0_492, f0_424, f0_423, f0_361, f0_360, f0_241, f0_240, f1_281, f1_270, f1_184, f1_183, f1_166, f1_163, f1_158, f1_140, f1_107, f1_102, f1_84, f1_51, f1_0, own_u8, own_u7, own_u6, own_u5, g0, g1, g2, g3, gx, own_11, own_12, own_13, own_a1, own_a0, hx, hl128, hl194, hl224, hl240, hl225, hl241, hg223, hg239, hg244, hg127, hg236, hg243, he224, he237, he240, he244, he238, he239, z, zb0, zb1, zc0, zc1, own_k00, own_k01, own_k02, own_k03, own_k04, own_k10, own_k11, own_k12, own_k13, own_k14, own_k20, own_k21, own_k22, own_k23, own_k24, own_k30, own_k31, own_k32, own_k33, own_k34, own_k40, own_k41, own_k42, own_k43, own_k44, own_e01, own_e02, own_e03, own_e04, own_e10, own_e12, own_e13, own_e14, own_e20, own_e21, own_e23, own_e24, own_e30, own_e31, own_e32, own_e34, own_e40, own_e41, own_e42, own_e43, ↓reduceIte]
  · skip
    by_cases zb0 : b < 128
    · simp only [own_W, f2_15, f2_14, f2_15_3, f2_0, f0_599, f0_585, f0_584, f0_567, f0_312, f0_311, f0_276, f0_556, f0_555, f0_493, f0_492, f0_424, f0_423, f0_361, f0_360, f0_241, f0_240, f1_281, f1_270, f1_184, f1_183, f1_166, f1_163, f1_158, f1_140, f1_107, f1_102, f1_84, f1_51, f1_0, own_u8, own_u7, own_u6, own_u5, g0, g1, g2, g3, gx, own_11, own_12, own_13, own_a1, own_a0, hx, hl128, hl194, hl224, hl240, hl225, hl241, hg223, hg239, hg244, hg127, hg236, hg243, he224, he237, he240, he244, he238, he239, z, zb0, own_k00, own_k01, own_k02, own_k03, own_k04, own_k10, own_k11, own_k12, own_k13, own_k14, own_k20, own_k21, own_k22, own_k23, own_k24, own_k30, own_k31, own_k32, own_k33, own_k34, own_k40, own_k41, own_k42, own_k43, own_k44, own_e01, own_e02, own_e03, own_e04, own_e10, own_e12, own_e13, own_e14, own_e20, own_e21, own_e23, own_e24, own_e30, own_e31, own_e32, own_e34, own_e40, own_e41, own_e42, own_e43, ↓reduceIte]
    by_cases zb1 : 191 < b
    · simp only [own_W, f2_15, f2_14, f2_15_3, f2_0, f0_599, f0_585, f0_584, f0_567, f0_312, f0_311, f0_276, f0_556, f0_555, f0_493, f0_492, f0_424, f0_423, f0_361, f0_360, f0_241, f0_240, f1_281, f1_270, f1_184, f1_183, f1_166, f1_163, f1_158, f1_140, f1_107, f1_102, f1_84, f1_51, f1_0, own_u8, own_u7, own_u6, own_u5, g0, g1, g2, g3, gx, own_11, own_12, own_13, own_a1, own_a0, hx, hl128, hl194, hl224, hl240, hl225, hl241, hg223, hg239, hg244, hg127, hg236, hg243, he224, he237, he240, he244, he238, he239, z, zb0, zb1, own_k00, own_k01, own_k02, own_k03, own_k04, own_k10, own_k11, own_k12, own_k13, own_k14, own_k20, own_k21, own_k22, own_k23, own_k24, own_k30, own_k31, own_k32, own_k33, own_k34, own_k40, own_k41, own_k42, own_k43, own_k44, own_e01, own_e02, own_e03, own_e04, own_e10, own_e12, own_e13, own_e14, own_e20, own_e21, own_e23, own_e24, own_e30, own_e31, own_e32, own_e34, own_e40, own_e41, own_e42, own_e43, ↓reduceIte]
    by_cases zc0 : c < 128
    · simp only [own_W, f2_15, f2_14, f2_15_3, f2_0, f0_599, f0_585, f0_584, f0_567, f0_312, f0_311, f0_276, f0_556, f0_555, f0_493, f0_492, f0_424, f0_423, f0_361, f0_360, f0_241, f0_240, f1_281, f1_270, f1_184, f1_183, f1_166, f1_163, f1_158, f1_140, f1_107, f1_102, f1_84, f1_51, f1_0, own_u8, own_u7, own_u6, own_u5, g0, g1, g2, g3, gx, own_11, own_12, own_13, own_a1, own_a0, hx, hl128, hl194, hl224, hl240, hl225, hl241, hg223, hg239, hg244, hg127, hg236, hg243, he224, he237, he240, he244, he238, he239, z, zb0, zb1, zc0, own_k00, own_k01, own_k02, own_k03, own_k04, own_k10, own_k11, own_k12, own_k13, own_k14, own_k20, own_k21, own_k22, own_k23, own_k24, own_k30, own_k31, own_k32, own_k33, own_k34, own_k40, own_k41, own_k42, own_k43, own_k44, own_e01, own_e02, own_e03, own_e04, own_e10, own_e12, own_e13, own_e14, own_e20, own_e21, own_e23, own_e24, own_e30, own_e31, own_e32, own_e34, own_e40, own_e41, own_e42, own_e43, ↓reduceIte]
    by_cases zc1 : 191 < c
    · simp only [own_W, f2_15, f2_14, f2_15_3, f2_0, f0_599, f0_585, f0_584, f0_567, f0_312, f0_311, f0_276, f0_556, f0_555, f0_493, f0_492, f0_424, f0_423, f0_361, f0_360, f0_241, f0_240, f1_281, f1_270, f1_184, f1_183, f1_166, f1_163, f1_158, f1_140, f1_107, f1_102, f1_84, f1_51, f1_0, own_u8, own_u7, own_u6, own_u5, g0, g1, g2, g3, gx, own_11, own_12, own_13, own_a1, own_a0, hx, hl128, hl194, hl224, hl240, hl225, hl241, hg223, hg239, hg244, hg127, hg236, hg243, he224, he237, he240, he244, he238, he239, z, zb0, zb1, zc0, zc1, own_k00, own_k01, own_k02, own_k03, own_k04, own_k10, own_k11, own_k12, own_k13, own_k14, own_k20, own_k21, own_k22, own_k23, own_k24, own_k30, own_k31, own_k32, own_k33, own_k34, own_k40, own_k41, own_k42, own_k43, own_k44, own_e01, own_e02, own_e03, own_e04, own_e10, own_e12, own_e13, own_e14, own_e20, own_e21, own_e23, own_e24, own_e30, own_e31, own_e32, own_e34, own_e40, own_e41, own_e42, own_e43, ↓reduceIte]
    simp only [own_W, f2_15, f2_14, f2_15_3, f2_0, f0_599, f0_585, f0_584, f0_567, f0_312, f0_311, f0_276, f0_556, f0_555, f0_493, f0_492, f0_424, f0_423, f0_361, f0_360, f0_241, f0_240, f1_281, f1_270, f1_184, f1_183, f1_166, f1_163, f1_158, f1_140, f1_107, f1_102, f1_84, f1_51, f1_0, own_u8, own_u7, own_u6, own_u5, g0, g1, g2, g3, gx, own_11, own_12, own_13, own_a1, own_a0, hx, hl128, hl194, hl224, hl240, hl225, hl241, hg223, hg239, hg244, hg127, hg236, hg243, he224, he237, he240, he244, he238, he239, z, zb0, zb1, zc0, zc1, own_k00, own_k01, own_k02, own_k03, own_k04, own_k10, own_k11, own_k12, own_k13, own_k14, own_k20, own_k21, own_k22, own_k23, own_k24, own_k30, own_k31, own_k32, own_k33, own_k34, own_k40, own_k41, own_k42, own_k43, own_k44, own_e01, own_e02, own_e03, own_e04, own_e10, own_e12, own_e13, own_e14, own_e20, own_e21, own_e23, own_e24, own_e30, own_e31, own_e32, own_e34, own_e40, own_e41, own_e42, own_e43, ↓reduceIte]
theorem own_c8 (v : List Int32) (p q a b c e x : Int32) (g0 : own_get v p &&& 255 = a) (g1 : own_get v (p + 1) &&& 255 = b) (g2 : own_get v (p + 2) &&& 255 = c) (g3 : own_get v (p + 3) &&& 255 = e) (gx : q - p = x) (x1 : 1 ≤ x.toInt) (a0 : 0 ≤ a.toInt) (a1 : a.toInt ≤ 255) (y0 : 239 ≤ a.toInt) (y1 : a.toInt ≤ 239) : own_W a b c e x (f1_0 v p q) = 1 := by
  have hl128 : (a < 128) = False := eq_false (by rw [own_lt, own_l128]; omega)
  have hl194 : (a < 194) = False := eq_false (by rw [own_lt, own_l194]; omega)
  have hl224 : (a < 224) = False := eq_false (by rw [own_lt, own_l224]; omega)
  have hl240 : (a < 240) = True := eq_true (by rw [own_lt, own_l240]; omega)
  have hl225 : (a < 225) = False := eq_false (by rw [own_lt, own_l225]; omega)
  have hl241 : (a < 241) = True := eq_true (by rw [own_lt, own_l241]; omega)
  have hg223 : (223 < a) = True := eq_true (by rw [own_lt, own_l223]; omega)
  have hg239 : (239 < a) = False := eq_false (by rw [own_lt, own_l239]; omega)
  have hg244 : (244 < a) = False := eq_false (by rw [own_lt, own_l244]; omega)
  have hg127 : (127 < a) = True := eq_true (by rw [own_lt, own_l127]; omega)
  have hg236 : (236 < a) = True := eq_true (by rw [own_lt, own_l236]; omega)
  have hg243 : (243 < a) = False := eq_false (by rw [own_lt, own_l243]; omega)
  have he224 : (a = 224) = False := eq_false (by rw [own_eq, own_l224]; omega)
  have he237 : (a = 237) = False := eq_false (by rw [own_eq, own_l237]; omega)
  have he240 : (a = 240) = False := eq_false (by rw [own_eq, own_l240]; omega)
  have he244 : (a = 244) = False := eq_false (by rw [own_eq, own_l244]; omega)
  have he238 : (a = 238) = False := eq_false (by rw [own_eq, own_l238]; omega)
  have he239 : (a = 239) = True := eq_true (by rw [own_eq, own_l239]; omega)
  have hx : (x < 1) = False := eq_false (by rw [own_lt, own_l1]; omega)
  by_cases z : x < 3
  · skip
    by_cases zb0 : b < 128
    · simp only [own_W, f2_15, f2_14, f2_15_3, f2_0, f0_599, f0_585, f0_584, f0_567, f0_312, f0_311, f0_276, f0_556, f0_555, f0_493, f0_492, f0_424, f0_423, f0_361, f0_360, f0_241, f0_240, f1_281, f1_270, f1_184, f1_183, f1_166, f1_163, f1_158, f1_140, f1_107, f1_102, f1_84, f1_51, f1_0, own_u8, own_u7, own_u6, own_u5, g0, g1, g2, g3, gx, own_11, own_12, own_13, own_a1, own_a0, hx, hl128, hl194, hl224, hl240, hl225, hl241, hg223, hg239, hg244, hg127, hg236, hg243, he224, he237, he240, he244, he238, he239, z, zb0, own_k00, own_k01, own_k02, own_k03, own_k04, own_k10, own_k11, own_k12, own_k13, own_k14, own_k20, own_k21, own_k22, own_k23, own_k24, own_k30, own_k31, own_k32, own_k33, own_k34, own_k40, own_k41, own_k42, own_k43, own_k44, own_e01, own_e02, own_e03, own_e04, own_e10, own_e12, own_e13, own_e14, own_e20, own_e21, own_e23, own_e24, own_e30, own_e31, own_e32, own_e34, own_e40, own_e41, own_e42, own_e43, ↓reduceIte]
    by_cases zb1 : 191 < b
    · simp only [own_W, f2_15, f2_14, f2_15_3, f2_0, f0_599, f0_585, f0_584, f0_567, f0_312, f0_311, f0_276, f0_556, f0_555, f0_493, f0_492, f0_424, f0_423, f0_361, f0_360, f0_241, f0_240, f1_281, f1_270, f1_184, f1_183, f1_166, f1_163, f1_158, f1_140, f1_107, f1_102, f1_84, f1_51, f1_0, own_u8, own_u7, own_u6, own_u5, g0, g1, g2, g3, gx, own_11, own_12, own_13, own_a1, own_a0, hx, hl128, hl194, hl224, hl240, hl225, hl241, hg223, hg239, hg244, hg127, hg236, hg243, he224, he237, he240, he244, he238, he239, z, zb0, zb1, own_k00, own_k01, own_k02, own_k03, own_k04, own_k10, own_k11, own_k12, own_k13, own_k14, own_k20, own_k21, own_k22, own_k23, own_k24, own_k30, own_k31, own_k32, own_k33, own_k34, own_k40, own_k41, own_k42, own_k43, own_k44, own_e01, own_e02, own_e03, own_e04, own_e10, own_e12, own_e13, own_e14, own_e20, own_e21, own_e23, own_e24, own_e30, own_e31, own_e32, own_e34, own_e40, own_e41, own_e42, own_e43, ↓reduceIte]
    by_cases zc0 : c < 128
    · simp only [own_W, f2_15, f2_14, f2_15_3, f2_0, f0_599, f0_585, f0_584, f0_567, f0_312, f0_311, f0_276, f0_556, f0_555, f0_493, f0_492, f0_424, f0_423, f0_361, f0_360, f0_241, f0_240, f1_281, f1_270, f1_184, f1_183, f1_166, f1_163, f1_158, f1_140, f1_107, f1_102, f1_84, f1_51, f1_0, own_u8, own_u7, own_u6, own_u5, g0, g1, g2, g3, gx, own_11, own_12, own_13, own_a1, own_a0, hx, hl128, hl194, hl224, hl240, hl225, hl241, hg223, hg239, hg244, hg127, hg236, hg243, he224, he237, he240, he244, he238, he239, z, zb0, zb1, zc0, own_k00, own_k01, own_k02, own_k03, own_k04, own_k10, own_k11, own_k12, own_k13, own_k14, own_k20, own_k21, own_k22, own_k23, own_k24, own_k30, own_k31, own_k32, own_k33, own_k34, own_k40, own_k41, own_k42, own_k43, own_k44, own_e01, own_e02, own_e03, own_e04, own_e10, own_e12, own_e13, own_e14, own_e20, own_e21, own_e23, own_e24, own_e30, own_e31, own_e32, own_e34, own_e40, own_e41, own_e42, own_e43, ↓reduceIte]
    by_cases zc1 : 191 < c
    · simp only [own_W, f2_15, f2_14, f2_15_3, f2_0, f0_599, f0_585, f0_584, f0_567, f0_312, f0_311, f0_276, f0_556, f0_555, f0_493, f0_492, f0_424, f0_423, f0_361, f0_360, f0_241, f0_240, f1_281, f1_270, f1_184, f1_183, f1_166, f1_163, f1_158, f1_140, f1_107, f1_102, f1_84, f1_51, f1_0, own_u8, own_u7, own_u6, own_u5, g0, g1, g2, g3, gx, own_11, own_12, own_13, own_a1, own_a0, hx, hl128, hl194, hl224, hl240, hl225, hl241, hg223, hg239, hg244, hg127, hg236, hg243, he224, he237, he240, he244, he238, he239, z, zb0, zb1, zc0, zc1, own_k00, own_k01, own_k02, own_k03, own_k04, own_k10, own_k11, own_k12, own_k13, own_k14, own_k20, own_k21, own_k22, own_k23, own_k24, own_k30, own_k31, own_k32, own_k33, own_k34, own_k40, own_k41, own_k42, own_k43, own_k44, own_e01, own_e02, own_e03, own_e04, own_e10, own_e12, own_e13, own_e14, own_e20, own_e21, own_e23, own_e24, own_e30, own_e31, own_e32, own_e34, own_e40, own_e41, own_e42, own_e43, ↓reduceIte]
    simp only [own_W, f2_15, f2_14, f2_15_3, f2_0, f0_599, f0_585, f0_584, f0_567, f0_312, f0_311, f0_276, f0_556, f0_555, f0_493, f0_492, f0_424, f0_423, f0_361, f0_360, f0_241, f0_240, f1_281, f1_270, f1_184, f1_183, f1_166, f1_163, f1_158, f1_140, f1_107, f1_102, f1_84, f1_51, f1_0, own_u8, own_u7, own_u6, own_u5, g0, g1, g2, g3, gx, own_11, own_12, own_13, own_a1, own_a0, hx, hl128, hl194, hl224, hl240, hl225, hl241, hg223, hg239, hg244, hg127, hg236, hg243, he224, he237, he240, he244, he238, he239, z, zb0, zb1, zc0, zc1, own_k00, own_k01, own_k02, own_k03, own_k04, own_k10, own_k11, own_k12, own_k13, own_k14, own_k20, own_k21, own_k22, own_k23, own_k24, own_k30, own_k31, own_k32, own_k33, own_k34, own_k40, own_k41, own_k42, own_k43, own_k44, own_e01, own_e02, own_e03, own_e04, own_e10, own_e12, own_e13, own_e14, own_e20, own_e21, own_e23, own_e24, own_e30, own_e31, own_e32, own_e34, own_e40, own_e41, own_e42, own_e43, ↓reduceIte]
  · skip
    by_cases zb0 : b < 128
    · simp only [own_W, f2_15, f2_14, f2_15_3, f2_0, f0_599, f0_585, f0_584, f0_567, f0_312, f0_311, f0_276, f0_556, f0_555, f0_493, f0_492, f0_424, f0_423, f0_361, f0_360, f0_241, f0_240, f1_281, f1_270, f1_184, f1_183, f1_166, f1_163, f1_158, f1_140, f1_107, f1_102, f1_84, f1_51, f1_0, own_u8, own_u7, own_u6, own_u5, g0, g1, g2, g3, gx, own_11, own_12, own_13, own_a1, own_a0, hx, hl128, hl194, hl224, hl240, hl225, hl241, hg223, hg239, hg244, hg127, hg236, hg243, he224, he237, he240, he244, he238, he239, z, zb0, own_k00, own_k01, own_k02, own_k03, own_k04, own_k10, own_k11, own_k12, own_k13, own_k14, own_k20, own_k21, own_k22, own_k23, own_k24, own_k30, own_k31, own_k32, own_k33, own_k34, own_k40, own_k41, own_k42, own_k43, own_k44, own_e01, own_e02, own_e03, own_e04, own_e10, own_e12, own_e13, own_e14, own_e20, own_e21, own_e23, own_e24, own_e30, own_e31, own_e32, own_e34, own_e40, own_e41, own_e42, own_e43, ↓reduceIte]
    by_cases zb1 : 191 < b
    · simp only [own_W, f2_15, f2_14, f2_15_3, f2_0, f0_599, f0_585, f0_584, f0_567, f0_312, f0_311, f0_276, f0_556, f0_555, f0_493, f0_492, f0_424, f0_423, f0_361, f0_360, f0_241, f0_240, f1_281, f1_270, f1_184, f1_183, f1_166, f1_163, f1_158, f1_140, f1_107, f1_102, f1_84, f1_51, f1_0, own_u8, own_u7, own_u6, own_u5, g0, g1, g2, g3, gx, own_11, own_12, own_13, own_a1, own_a0, hx, hl128, hl194, hl224, hl240, hl225, hl241, hg223, hg239, hg244, hg127, hg236, hg243, he224, he237, he240, he244, he238, he239, z, zb0, zb1, own_k00, own_k01, own_k02, own_k03, own_k04, own_k10, own_k11, own_k12, own_k13, own_k14, own_k20, own_k21, own_k22, own_k23, own_k24, own_k30, own_k31, own_k32, own_k33, own_k34, own_k40, own_k41, own_k42, own_k43, own_k44, own_e01, own_e02, own_e03, own_e04, own_e10, own_e12, own_e13, own_e14, own_e20, own_e21, own_e23, own_e24, own_e30, own_e31, own_e32, own_e34, own_e40, own_e41, own_e42, own_e43, ↓reduceIte]
    by_cases zc0 : c < 128
    · simp only [own_W, f2_15, f2_14, f2_15_3, f2_0, f0_599, f0_585, f0_584, f0_567, f0_312, f0_311, f0_276, f0_556, f0_555, f0_493, f0_492, f0_424, f0_423, f0_361, f0_360, f0_241, f0_240, f1_281, f1_270, f1_184, f1_183, f1_166, f1_163, f1_158, f1_140, f1_107, f1_102, f1_84, f1_51, f1_0, own_u8, own_u7, own_u6, own_u5, g0, g1, g2, g3, gx, own_11, own_12, own_13, own_a1, own_a0, hx, hl128, hl194, hl224, hl240, hl225, hl241, hg223, hg239, hg244, hg127, hg236, hg243, he224, he237, he240, he244, he238, he239, z, zb0, zb1, zc0, own_k00, own_k01, own_k02, own_k03, own_k04, own_k10, own_k11, own_k12, own_k13, own_k14, own_k20, own_k21, own_k22, own_k23, own_k24, own_k30, own_k31, own_k32, own_k33, own_k34, own_k40, own_k41, own_k42, own_k43, own_k44, own_e01, own_e02, own_e03, own_e04, own_e10, own_e12, own_e13, own_e14, own_e20, own_e21, own_e23, own_e24, own_e30, own_e31, own_e32, own_e34, own_e40, own_e41, own_e42, own_e43, ↓reduceIte]
    by_cases zc1 : 191 < c
    · simp only [own_W, f2_15, f2_14, f2_15_3, f2_0, f0_599, f0_585, f0_584, f0_567, f0_312, f0_311, f0_276, f0_556, f0_555, f0_493, f0_492, f0_424, f0_423, f0_361, f0_360, f0_241, f0_240, f1_281, f1_270, f1_184, f1_183, f1_166, f1_163, f1_158, f1_140, f1_107, f1_102, f1_84, f1_51, f1_0, own_u8, own_u7, own_u6, own_u5, g0, g1, g2, g3, gx, own_11, own_12, own_13, own_a1, own_a0, hx, hl128, hl194, hl224, hl240, hl225, hl241, hg223, hg239, hg244, hg127, hg236, hg243, he224, he237, he240, he244, he238, he239, z, zb0, zb1, zc0, zc1, own_k00, own_k01, own_k02, own_k03, own_k04, own_k10, own_k11, own_k12, own_k13, own_k14, own_k20, own_k21, own_k22, own_k23, own_k24, own_k30, own_k31, own_k32, own_k33, own_k34, own_k40, own_k41, own_k42, own_k43, own_k44, own_e01, own_e02, own_e03, own_e04, own_e10, own_e12, own_e13, own_e14, own_e20, own_e21, own_e23, own_e24, own_e30, own_e31, own_e32, own_e34, own_e40, own_e41, own_e42, own_e43, ↓reduceIte]
    simp only [own_W, f2_15, f2_14, f2_15_3, f2_0, f0_599, f0_585, f0_584, f0_567, f0_312, f0_311, f0_276, f0_556, f0_555, f0_493, f0_492, f0_424, f0_423, f0_361, f0_360, f0_241, f0_240, f1_281, f1_270, f1_184, f1_183, f1_166, f1_163, f1_158, f1_140, f1_107, f1_102, f1_84, f1_51, f1_0, own_u8, own_u7, own_u6, own_u5, g0, g1, g2, g3, gx, own_11, own_12, own_13, own_a1, own_a0, hx, hl128, hl194, hl224, hl240, hl225, hl241, hg223, hg239, hg244, hg127, hg236, hg243, he224, he237, he240, he244, he238, he239, z, zb0, zb1, zc0, zc1, own_k00, own_k01, own_k02, own_k03, own_k04, own_k10, own_k11, own_k12, own_k13, own_k14, own_k20, own_k21, own_k22, own_k23, own_k24, own_k30, own_k31, own_k32, own_k33, own_k34, own_k40, own_k41, own_k42, own_k43, own_k44, own_e01, own_e02, own_e03, own_e04, own_e10, own_e12, own_e13, own_e14, own_e20, own_e21, own_e23, own_e24, own_e30, own_e31, own_e32, own_e34, own_e40, own_e41, own_e42, own_e43, ↓reduceIte]
theorem own_c9 (v : List Int32) (p q a b c e x : Int32) (g0 : own_get v p &&& 255 = a) (g1 : own_get v (p + 1) &&& 255 = b) (g2 : own_get v (p + 2) &&& 255 = c) (g3 : own_get v (p + 3) &&& 255 = e) (gx : q - p = x) (x1 : 1 ≤ x.toInt) (a0 : 0 ≤ a.toInt) (a1 : a.toInt ≤ 255) (y0 : 240 ≤ a.toInt) (y1 : a.toInt ≤ 240) : own_W a b c e x (f1_0 v p q) = 1 := by
  have hl128 : (a < 128) = False := eq_false (by rw [own_lt, own_l128]; omega)
  have hl194 : (a < 194) = False := eq_false (by rw [own_lt, own_l194]; omega)
  have hl224 : (a < 224) = False := eq_false (by rw [own_lt, own_l224]; omega)
  have hl240 : (a < 240) = False := eq_false (by rw [own_lt, own_l240]; omega)
  have hl225 : (a < 225) = False := eq_false (by rw [own_lt, own_l225]; omega)
  have hl241 : (a < 241) = True := eq_true (by rw [own_lt, own_l241]; omega)
  have hg223 : (223 < a) = True := eq_true (by rw [own_lt, own_l223]; omega)
  have hg239 : (239 < a) = True := eq_true (by rw [own_lt, own_l239]; omega)
  have hg244 : (244 < a) = False := eq_false (by rw [own_lt, own_l244]; omega)
  have hg127 : (127 < a) = True := eq_true (by rw [own_lt, own_l127]; omega)
  have hg236 : (236 < a) = True := eq_true (by rw [own_lt, own_l236]; omega)
  have hg243 : (243 < a) = False := eq_false (by rw [own_lt, own_l243]; omega)
  have he224 : (a = 224) = False := eq_false (by rw [own_eq, own_l224]; omega)
  have he237 : (a = 237) = False := eq_false (by rw [own_eq, own_l237]; omega)
  have he240 : (a = 240) = True := eq_true (by rw [own_eq, own_l240]; omega)
  have he244 : (a = 244) = False := eq_false (by rw [own_eq, own_l244]; omega)
  have he238 : (a = 238) = False := eq_false (by rw [own_eq, own_l238]; omega)
  have he239 : (a = 239) = False := eq_false (by rw [own_eq, own_l239]; omega)
  have hx : (x < 1) = False := eq_false (by rw [own_lt, own_l1]; omega)
  by_cases z : x < 4
  · skip
    by_cases zb0 : b < 144
    · simp only [own_W, f2_15, f2_14, f2_15_3, f2_0, f0_599, f0_585, f0_584, f0_567, f0_312, f0_311, f0_276, f0_556, f0_555, f0_493, f0_492, f0_424, f0_423, f0_361, f0_360, f0_241, f0_240, f1_281, f1_270, f1_184, f1_183, f1_166, f1_163, f1_158, f1_140, f1_107, f1_102, f1_84, f1_51, f1_0, own_u8, own_u7, own_u6, own_u5, g0, g1, g2, g3, gx, own_11, own_12, own_13, own_a1, own_a0, hx, hl128, hl194, hl224, hl240, hl225, hl241, hg223, hg239, hg244, hg127, hg236, hg243, he224, he237, he240, he244, he238, he239, z, zb0, own_k00, own_k01, own_k02, own_k03, own_k04, own_k10, own_k11, own_k12, own_k13, own_k14, own_k20, own_k21, own_k22, own_k23, own_k24, own_k30, own_k31, own_k32, own_k33, own_k34, own_k40, own_k41, own_k42, own_k43, own_k44, own_e01, own_e02, own_e03, own_e04, own_e10, own_e12, own_e13, own_e14, own_e20, own_e21, own_e23, own_e24, own_e30, own_e31, own_e32, own_e34, own_e40, own_e41, own_e42, own_e43, ↓reduceIte]
    by_cases zb1 : 191 < b
    · simp only [own_W, f2_15, f2_14, f2_15_3, f2_0, f0_599, f0_585, f0_584, f0_567, f0_312, f0_311, f0_276, f0_556, f0_555, f0_493, f0_492, f0_424, f0_423, f0_361, f0_360, f0_241, f0_240, f1_281, f1_270, f1_184, f1_183, f1_166, f1_163, f1_158, f1_140, f1_107, f1_102, f1_84, f1_51, f1_0, own_u8, own_u7, own_u6, own_u5, g0, g1, g2, g3, gx, own_11, own_12, own_13, own_a1, own_a0, hx, hl128, hl194, hl224, hl240, hl225, hl241, hg223, hg239, hg244, hg127, hg236, hg243, he224, he237, he240, he244, he238, he239, z, zb0, zb1, own_k00, own_k01, own_k02, own_k03, own_k04, own_k10, own_k11, own_k12, own_k13, own_k14, own_k20, own_k21, own_k22, own_k23, own_k24, own_k30, own_k31, own_k32, own_k33, own_k34, own_k40, own_k41, own_k42, own_k43, own_k44, own_e01, own_e02, own_e03, own_e04, own_e10, own_e12, own_e13, own_e14, own_e20, own_e21, own_e23, own_e24, own_e30, own_e31, own_e32, own_e34, own_e40, own_e41, own_e42, own_e43, ↓reduceIte]
    by_cases zc0 : c < 128
    · simp only [own_W, f2_15, f2_14, f2_15_3, f2_0, f0_599, f0_585, f0_584, f0_567, f0_312, f0_311, f0_276, f0_556, f0_555, f0_493, f0_492, f0_424, f0_423, f0_361, f0_360, f0_241, f0_240, f1_281, f1_270, f1_184, f1_183, f1_166, f1_163, f1_158, f1_140, f1_107, f1_102, f1_84, f1_51, f1_0, own_u8, own_u7, own_u6, own_u5, g0, g1, g2, g3, gx, own_11, own_12, own_13, own_a1, own_a0, hx, hl128, hl194, hl224, hl240, hl225, hl241, hg223, hg239, hg244, hg127, hg236, hg243, he224, he237, he240, he244, he238, he239, z, zb0, zb1, zc0, own_k00, own_k01, own_k02, own_k03, own_k04, own_k10, own_k11, own_k12, own_k13, own_k14, own_k20, own_k21, own_k22, own_k23, own_k24, own_k30, own_k31, own_k32, own_k33, own_k34, own_k40, own_k41, own_k42, own_k43, own_k44, own_e01, own_e02, own_e03, own_e04, own_e10, own_e12, own_e13, own_e14, own_e20, own_e21, own_e23, own_e24, own_e30, own_e31, own_e32, own_e34, own_e40, own_e41, own_e42, own_e43, ↓reduceIte]
    by_cases zc1 : 191 < c
    · simp only [own_W, f2_15, f2_14, f2_15_3, f2_0, f0_599, f0_585, f0_584, f0_567, f0_312, f0_311, f0_276, f0_556, f0_555, f0_493, f0_492, f0_424, f0_423, f0_361, f0_360, f0_241, f0_240, f1_281, f1_270, f1_184, f1_183, f1_166, f1_163, f1_158, f1_140, f1_107, f1_102, f1_84, f1_51, f1_0, own_u8, own_u7, own_u6, own_u5, g0, g1, g2, g3, gx, own_11, own_12, own_13, own_a1, own_a0, hx, hl128, hl194, hl224, hl240, hl225, hl241, hg223, hg239, hg244, hg127, hg236, hg243, he224, he237, he240, he244, he238, he239, z, zb0, zb1, zc0, zc1, own_k00, own_k01, own_k02, own_k03, own_k04, own_k10, own_k11, own_k12, own_k13, own_k14, own_k20, own_k21, own_k22, own_k23, own_k24, own_k30, own_k31, own_k32, own_k33, own_k34, own_k40, own_k41, own_k42, own_k43, own_k44, own_e01, own_e02, own_e03, own_e04, own_e10, own_e12, own_e13, own_e14, own_e20, own_e21, own_e23, own_e24, own_e30, own_e31, own_e32, own_e34, own_e40, own_e41, own_e42, own_e43, ↓reduceIte]
    by_cases ze0 : e < 128
    · simp only [own_W, f2_15, f2_14, f2_15_3, f2_0, f0_599, f0_585, f0_584, f0_567, f0_312, f0_311, f0_276, f0_556, f0_555, f0_493, f0_492, f0_424, f0_423, f0_361, f0_360, f0_241, f0_240, f1_281, f1_270, f1_184, f1_183, f1_166, f1_163, f1_158, f1_140, f1_107, f1_102, f1_84, f1_51, f1_0, own_u8, own_u7, own_u6, own_u5, g0, g1, g2, g3, gx, own_11, own_12, own_13, own_a1, own_a0, hx, hl128, hl194, hl224, hl240, hl225, hl241, hg223, hg239, hg244, hg127, hg236, hg243, he224, he237, he240, he244, he238, he239, z, zb0, zb1, zc0, zc1, ze0, own_k00, own_k01, own_k02, own_k03, own_k04, own_k10, own_k11, own_k12, own_k13, own_k14, own_k20, own_k21, own_k22, own_k23, own_k24, own_k30, own_k31, own_k32, own_k33, own_k34, own_k40, own_k41, own_k42, own_k43, own_k44, own_e01, own_e02, own_e03, own_e04, own_e10, own_e12, own_e13, own_e14, own_e20, own_e21, own_e23, own_e24, own_e30, own_e31, own_e32, own_e34, own_e40, own_e41, own_e42, own_e43, ↓reduceIte]
    by_cases ze1 : 191 < e
    · simp only [own_W, f2_15, f2_14, f2_15_3, f2_0, f0_599, f0_585, f0_584, f0_567, f0_312, f0_311, f0_276, f0_556, f0_555, f0_493, f0_492, f0_424, f0_423, f0_361, f0_360, f0_241, f0_240, f1_281, f1_270, f1_184, f1_183, f1_166, f1_163, f1_158, f1_140, f1_107, f1_102, f1_84, f1_51, f1_0, own_u8, own_u7, own_u6, own_u5, g0, g1, g2, g3, gx, own_11, own_12, own_13, own_a1, own_a0, hx, hl128, hl194, hl224, hl240, hl225, hl241, hg223, hg239, hg244, hg127, hg236, hg243, he224, he237, he240, he244, he238, he239, z, zb0, zb1, zc0, zc1, ze0, ze1, own_k00, own_k01, own_k02, own_k03, own_k04, own_k10, own_k11, own_k12, own_k13, own_k14, own_k20, own_k21, own_k22, own_k23, own_k24, own_k30, own_k31, own_k32, own_k33, own_k34, own_k40, own_k41, own_k42, own_k43, own_k44, own_e01, own_e02, own_e03, own_e04, own_e10, own_e12, own_e13, own_e14, own_e20, own_e21, own_e23, own_e24, own_e30, own_e31, own_e32, own_e34, own_e40, own_e41, own_e42, own_e43, ↓reduceIte]
    simp only [own_W, f2_15, f2_14, f2_15_3, f2_0, f0_599, f0_585, f0_584, f0_567, f0_312, f0_311, f0_276, f0_556, f0_555, f0_493, f0_492, f0_424, f0_423, f0_361, f0_360, f0_241, f0_240, f1_281, f1_270, f1_184, f1_183, f1_166, f1_163, f1_158, f1_140, f1_107, f1_102, f1_84, f1_51, f1_0, own_u8, own_u7, own_u6, own_u5, g0, g1, g2, g3, gx, own_11, own_12, own_13, own_a1, own_a0, hx, hl128, hl194, hl224, hl240, hl225, hl241, hg223, hg239, hg244, hg127, hg236, hg243, he224, he237, he240, he244, he238, he239, z, zb0, zb1, zc0, zc1, ze0, ze1, own_k00, own_k01, own_k02, own_k03, own_k04, own_k10, own_k11, own_k12, own_k13, own_k14, own_k20, own_k21, own_k22, own_k23, own_k24, own_k30, own_k31, own_k32, own_k33, own_k34, own_k40, own_k41, own_k42, own_k43, own_k44, own_e01, own_e02, own_e03, own_e04, own_e10, own_e12, own_e13, own_e14, own_e20, own_e21, own_e23, own_e24, own_e30, own_e31, own_e32, own_e34, own_e40, own_e41, own_e42, own_e43, ↓reduceIte]
  · skip
    by_cases zb0 : b < 144
    · simp only [own_W, f2_15, f2_14, f2_15_3, f2_0, f0_599, f0_585, f0_584, f0_567, f0_312, f0_311, f0_276, f0_556, f0_555, f0_493, f0_492, f0_424, f0_423, f0_361, f0_360, f0_241, f0_240, f1_281, f1_270, f1_184, f1_183, f1_166, f1_163, f1_158, f1_140, f1_107, f1_102, f1_84, f1_51, f1_0, own_u8, own_u7, own_u6, own_u5, g0, g1, g2, g3, gx, own_11, own_12, own_13, own_a1, own_a0, hx, hl128, hl194, hl224, hl240, hl225, hl241, hg223, hg239, hg244, hg127, hg236, hg243, he224, he237, he240, he244, he238, he239, z, zb0, own_k00, own_k01, own_k02, own_k03, own_k04, own_k10, own_k11, own_k12, own_k13, own_k14, own_k20, own_k21, own_k22, own_k23, own_k24, own_k30, own_k31, own_k32, own_k33, own_k34, own_k40, own_k41, own_k42, own_k43, own_k44, own_e01, own_e02, own_e03, own_e04, own_e10, own_e12, own_e13, own_e14, own_e20, own_e21, own_e23, own_e24, own_e30, own_e31, own_e32, own_e34, own_e40, own_e41, own_e42, own_e43, ↓reduceIte]
    by_cases zb1 : 191 < b
    · simp only [own_W, f2_15, f2_14, f2_15_3, f2_0, f0_599, f0_585, f0_584, f0_567, f0_312, f0_311, f0_276, f0_556, f0_555, f0_493, f0_492, f0_424, f0_423, f0_361, f0_360, f0_241, f0_240, f1_281, f1_270, f1_184, f1_183, f1_166, f1_163, f1_158, f1_140, f1_107, f1_102, f1_84, f1_51, f1_0, own_u8, own_u7, own_u6, own_u5, g0, g1, g2, g3, gx, own_11, own_12, own_13, own_a1, own_a0, hx, hl128, hl194, hl224, hl240, hl225, hl241, hg223, hg239, hg244, hg127, hg236, hg243, he224, he237, he240, he244, he238, he239, z, zb0, zb1, own_k00, own_k01, own_k02, own_k03, own_k04, own_k10, own_k11, own_k12, own_k13, own_k14, own_k20, own_k21, own_k22, own_k23, own_k24, own_k30, own_k31, own_k32, own_k33, own_k34, own_k40, own_k41, own_k42, own_k43, own_k44, own_e01, own_e02, own_e03, own_e04, own_e10, own_e12, own_e13, own_e14, own_e20, own_e21, own_e23, own_e24, own_e30, own_e31, own_e32, own_e34, own_e40, own_e41, own_e42, own_e43, ↓reduceIte]
    by_cases zc0 : c < 128
    · simp only [own_W, f2_15, f2_14, f2_15_3, f2_0, f0_599, f0_585, f0_584, f0_567, f0_312, f0_311, f0_276, f0_556, f0_555, f0_493, f0_492, f0_424, f0_423, f0_361, f0_360, f0_241, f0_240, f1_281, f1_270, f1_184, f1_183, f1_166, f1_163, f1_158, f1_140, f1_107, f1_102, f1_84, f1_51, f1_0, own_u8, own_u7, own_u6, own_u5, g0, g1, g2, g3, gx, own_11, own_12, own_13, own_a1, own_a0, hx, hl128, hl194, hl224, hl240, hl225, hl241, hg223, hg239, hg244, hg127, hg236, hg243, he224, he237, he240, he244, he238, he239, z, zb0, zb1, zc0, own_k00, own_k01, own_k02, own_k03, own_k04, own_k10, own_k11, own_k12, own_k13, own_k14, own_k20, own_k21, own_k22, own_k23, own_k24, own_k30, own_k31, own_k32, own_k33, own_k34, own_k40, own_k41, own_k42, own_k43, own_k44, own_e01, own_e02, own_e03, own_e04, own_e10, own_e12, own_e13, own_e14, own_e20, own_e21, own_e23, own_e24, own_e30, own_e31, own_e32, own_e34, own_e40, own_e41, own_e42, own_e43, ↓reduceIte]
    by_cases zc1 : 191 < c
    · simp only [own_W, f2_15, f2_14, f2_15_3, f2_0, f0_599, f0_585, f0_584, f0_567, f0_312, f0_311, f0_276, f0_556, f0_555, f0_493, f0_492, f0_424, f0_423, f0_361, f0_360, f0_241, f0_240, f1_281, f1_270, f1_184, f1_183, f1_166, f1_163, f1_158, f1_140, f1_107, f1_102, f1_84, f1_51, f1_0, own_u8, own_u7, own_u6, own_u5, g0, g1, g2, g3, gx, own_11, own_12, own_13, own_a1, own_a0, hx, hl128, hl194, hl224, hl240, hl225, hl241, hg223, hg239, hg244, hg127, hg236, hg243, he224, he237, he240, he244, he238, he239, z, zb0, zb1, zc0, zc1, own_k00, own_k01, own_k02, own_k03, own_k04, own_k10, own_k11, own_k12, own_k13, own_k14, own_k20, own_k21, own_k22, own_k23, own_k24, own_k30, own_k31, own_k32, own_k33, own_k34, own_k40, own_k41, own_k42, own_k43, own_k44, own_e01, own_e02, own_e03, own_e04, own_e10, own_e12, own_e13, own_e14, own_e20, own_e21, own_e23, own_e24, own_e30, own_e31, own_e32, own_e34, own_e40, own_e41, own_e42, own_e43, ↓reduceIte]
    by_cases ze0 : e < 128
    · simp only [own_W, f2_15, f2_14, f2_15_3, f2_0, f0_599, f0_585, f0_584, f0_567, f0_312, f0_311, f0_276, f0_556, f0_555, f0_493, f0_492, f0_424, f0_423, f0_361, f0_360, f0_241, f0_240, f1_281, f1_270, f1_184, f1_183, f1_166, f1_163, f1_158, f1_140, f1_107, f1_102, f1_84, f1_51, f1_0, own_u8, own_u7, own_u6, own_u5, g0, g1, g2, g3, gx, own_11, own_12, own_13, own_a1, own_a0, hx, hl128, hl194, hl224, hl240, hl225, hl241, hg223, hg239, hg244, hg127, hg236, hg243, he224, he237, he240, he244, he238, he239, z, zb0, zb1, zc0, zc1, ze0, own_k00, own_k01, own_k02, own_k03, own_k04, own_k10, own_k11, own_k12, own_k13, own_k14, own_k20, own_k21, own_k22, own_k23, own_k24, own_k30, own_k31, own_k32, own_k33, own_k34, own_k40, own_k41, own_k42, own_k43, own_k44, own_e01, own_e02, own_e03, own_e04, own_e10, own_e12, own_e13, own_e14, own_e20, own_e21, own_e23, own_e24, own_e30, own_e31, own_e32, own_e34, own_e40, own_e41, own_e42, own_e43, ↓reduceIte]
    by_cases ze1 : 191 < e
    · simp only [own_W, f2_15, f2_14, f2_15_3, f2_0, f0_599, f0_585, f0_584, f0_567, f0_312, f0_311, f0_276, f0_556, f0_555, f0_493, f0_492, f0_424, f0_423, f0_361, f0_360, f0_241, f0_240, f1_281, f1_270, f1_184, f1_183, f1_166, f1_163, f1_158, f1_140, f1_107, f1_102, f1_84, f1_51, f1_0, own_u8, own_u7, own_u6, own_u5, g0, g1, g2, g3, gx, own_11, own_12, own_13, own_a1, own_a0, hx, hl128, hl194, hl224, hl240, hl225, hl241, hg223, hg239, hg244, hg127, hg236, hg243, he224, he237, he240, he244, he238, he239, z, zb0, zb1, zc0, zc1, ze0, ze1, own_k00, own_k01, own_k02, own_k03, own_k04, own_k10, own_k11, own_k12, own_k13, own_k14, own_k20, own_k21, own_k22, own_k23, own_k24, own_k30, own_k31, own_k32, own_k33, own_k34, own_k40, own_k41, own_k42, own_k43, own_k44, own_e01, own_e02, own_e03, own_e04, own_e10, own_e12, own_e13, own_e14, own_e20, own_e21, own_e23, own_e24, own_e30, own_e31, own_e32, own_e34, own_e40, own_e41, own_e42, own_e43, ↓reduceIte]
    simp only [own_W, f2_15, f2_14, f2_15_3, f2_0, f0_599, f0_585, f0_584, f0_567, f0_312, f0_311, f0_276, f0_556, f0_555, f0_493, f0_492, f0_424, f0_423, f0_361, f0_360, f0_241, f0_240, f1_281, f1_270, f1_184, f1_183, f1_166, f1_163, f1_158, f1_140, f1_107, f1_102, f1_84, f1_51, f1_0, own_u8, own_u7, own_u6, own_u5, g0, g1, g2, g3, gx, own_11, own_12, own_13, own_a1, own_a0, hx, hl128, hl194, hl224, hl240, hl225, hl241, hg223, hg239, hg244, hg127, hg236, hg243, he224, he237, he240, he244, he238, he239, z, zb0, zb1, zc0, zc1, ze0, ze1, own_k00, own_k01, own_k02, own_k03, own_k04, own_k10, own_k11, own_k12, own_k13, own_k14, own_k20, own_k21, own_k22, own_k23, own_k24, own_k30, own_k31, own_k32, own_k33, own_k34, own_k40, own_k41, own_k42, own_k43, own_k44, own_e01, own_e02, own_e03, own_e04, own_e10, own_e12, own_e13, own_e14, own_e20, own_e21, own_e23, own_e24, own_e30, own_e31, own_e32, own_e34, own_e40, own_e41, own_e42, own_e43, ↓reduceIte]
theorem own_c10 (v : List Int32) (p q a b c e x : Int32) (g0 : own_get v p &&& 255 = a) (g1 : own_get v (p + 1) &&& 255 = b) (g2 : own_get v (p + 2) &&& 255 = c) (g3 : own_get v (p + 3) &&& 255 = e) (gx : q - p = x) (x1 : 1 ≤ x.toInt) (a0 : 0 ≤ a.toInt) (a1 : a.toInt ≤ 255) (y0 : 241 ≤ a.toInt) (y1 : a.toInt ≤ 243) : own_W a b c e x (f1_0 v p q) = 1 := by
  have hl128 : (a < 128) = False := eq_false (by rw [own_lt, own_l128]; omega)
  have hl194 : (a < 194) = False := eq_false (by rw [own_lt, own_l194]; omega)
  have hl224 : (a < 224) = False := eq_false (by rw [own_lt, own_l224]; omega)
  have hl240 : (a < 240) = False := eq_false (by rw [own_lt, own_l240]; omega)
  have hl225 : (a < 225) = False := eq_false (by rw [own_lt, own_l225]; omega)
  have hl241 : (a < 241) = False := eq_false (by rw [own_lt, own_l241]; omega)
  have hg223 : (223 < a) = True := eq_true (by rw [own_lt, own_l223]; omega)
  have hg239 : (239 < a) = True := eq_true (by rw [own_lt, own_l239]; omega)
  have hg244 : (244 < a) = False := eq_false (by rw [own_lt, own_l244]; omega)
  have hg127 : (127 < a) = True := eq_true (by rw [own_lt, own_l127]; omega)
  have hg236 : (236 < a) = True := eq_true (by rw [own_lt, own_l236]; omega)
  have hg243 : (243 < a) = False := eq_false (by rw [own_lt, own_l243]; omega)
  have he224 : (a = 224) = False := eq_false (by rw [own_eq, own_l224]; omega)
  have he237 : (a = 237) = False := eq_false (by rw [own_eq, own_l237]; omega)
  have he240 : (a = 240) = False := eq_false (by rw [own_eq, own_l240]; omega)
  have he244 : (a = 244) = False := eq_false (by rw [own_eq, own_l244]; omega)
  have he238 : (a = 238) = False := eq_false (by rw [own_eq, own_l238]; omega)
  have he239 : (a = 239) = False := eq_false (by rw [own_eq, own_l239]; omega)
  have hx : (x < 1) = False := eq_false (by rw [own_lt, own_l1]; omega)
  by_cases z : x < 4
  · skip
    by_cases zb0 : b < 128
    · simp only [own_W, f2_15, f2_14, f2_15_3, f2_0, f0_599, f0_585, f0_584, f0_567, f0_312, f0_311, f0_276, f0_556, f0_555, f0_493, f0_492, f0_424, f0_423, f0_361, f0_360, f0_241, f0_240, f1_281, f1_270, f1_184, f1_183, f1_166, f1_163, f1_158, f1_140, f1_107, f1_102, f1_84, f1_51, f1_0, own_u8, own_u7, own_u6, own_u5, g0, g1, g2, g3, gx, own_11, own_12, own_13, own_a1, own_a0, hx, hl128, hl194, hl224, hl240, hl225, hl241, hg223, hg239, hg244, hg127, hg236, hg243, he224, he237, he240, he244, he238, he239, z, zb0, own_k00, own_k01, own_k02, own_k03, own_k04, own_k10, own_k11, own_k12, own_k13, own_k14, own_k20, own_k21, own_k22, own_k23, own_k24, own_k30, own_k31, own_k32, own_k33, own_k34, own_k40, own_k41, own_k42, own_k43, own_k44, own_e01, own_e02, own_e03, own_e04, own_e10, own_e12, own_e13, own_e14, own_e20, own_e21, own_e23, own_e24, own_e30, own_e31, own_e32, own_e34, own_e40, own_e41, own_e42, own_e43, ↓reduceIte]
    by_cases zb1 : 191 < b
    · simp only [own_W, f2_15, f2_14, f2_15_3, f2_0, f0_599, f0_585, f0_584, f0_567, f0_312, f0_311, f0_276, f0_556, f0_555, f0_493, f0_492, f0_424, f0_423, f0_361, f0_360, f0_241, f0_240, f1_281, f1_270, f1_184, f1_183, f1_166, f1_163, f1_158, f1_140, f1_107, f1_102, f1_84, f1_51, f1_0, own_u8, own_u7, own_u6, own_u5, g0, g1, g2, g3, gx, own_11, own_12, own_13, own_a1, own_a0, hx, hl128, hl194, hl224, hl240, hl225, hl241, hg223, hg239, hg244, hg127, hg236, hg243, he224, he237, he240, he244, he238, he239, z, zb0, zb1, own_k00, own_k01, own_k02, own_k03, own_k04, own_k10, own_k11, own_k12, own_k13, own_k14, own_k20, own_k21, own_k22, own_k23, own_k24, own_k30, own_k31, own_k32, own_k33, own_k34, own_k40, own_k41, own_k42, own_k43, own_k44, own_e01, own_e02, own_e03, own_e04, own_e10, own_e12, own_e13, own_e14, own_e20, own_e21, own_e23, own_e24, own_e30, own_e31, own_e32, own_e34, own_e40, own_e41, own_e42, own_e43, ↓reduceIte]
    by_cases zc0 : c < 128
    · simp only [own_W, f2_15, f2_14, f2_15_3, f2_0, f0_599, f0_585, f0_584, f0_567, f0_312, f0_311, f0_276, f0_556, f0_555, f0_493, f0_492, f0_424, f0_423, f0_361, f0_360, f0_241, f0_240, f1_281, f1_270, f1_184, f1_183, f1_166, f1_163, f1_158, f1_140, f1_107, f1_102, f1_84, f1_51, f1_0, own_u8, own_u7, own_u6, own_u5, g0, g1, g2, g3, gx, own_11, own_12, own_13, own_a1, own_a0, hx, hl128, hl194, hl224, hl240, hl225, hl241, hg223, hg239, hg244, hg127, hg236, hg243, he224, he237, he240, he244, he238, he239, z, zb0, zb1, zc0, own_k00, own_k01, own_k02, own_k03, own_k04, own_k10, own_k11, own_k12, own_k13, own_k14, own_k20, own_k21, own_k22, own_k23, own_k24, own_k30, own_k31, own_k32, own_k33, own_k34, own_k40, own_k41, own_k42, own_k43, own_k44, own_e01, own_e02, own_e03, own_e04, own_e10, own_e12, own_e13, own_e14, own_e20, own_e21, own_e23, own_e24, own_e30, own_e31, own_e32, own_e34, own_e40, own_e41, own_e42, own_e43, ↓reduceIte]
    by_cases zc1 : 191 < c
    · simp only [own_W, f2_15, f2_14, f2_15_3, f2_0, f0_599, f0_585, f0_584, f0_567, f0_312, f0_311, f0_276, f0_556, f0_555, f0_493, f0_492, f0_424, f0_423, f0_361, f0_360, f0_241, f0_240, f1_281, f1_270, f1_184, f1_183, f1_166, f1_163, f1_158, f1_140, f1_107, f1_102, f1_84, f1_51, f1_0, own_u8, own_u7, own_u6, own_u5, g0, g1, g2, g3, gx, own_11, own_12, own_13, own_a1, own_a0, hx, hl128, hl194, hl224, hl240, hl225, hl241, hg223, hg239, hg244, hg127, hg236, hg243, he224, he237, he240, he244, he238, he239, z, zb0, zb1, zc0, zc1, own_k00, own_k01, own_k02, own_k03, own_k04, own_k10, own_k11, own_k12, own_k13, own_k14, own_k20, own_k21, own_k22, own_k23, own_k24, own_k30, own_k31, own_k32, own_k33, own_k34, own_k40, own_k41, own_k42, own_k43, own_k44, own_e01, own_e02, own_e03, own_e04, own_e10, own_e12, own_e13, own_e14, own_e20, own_e21, own_e23, own_e24, own_e30, own_e31, own_e32, own_e34, own_e40, own_e41, own_e42, own_e43, ↓reduceIte]
    by_cases ze0 : e < 128
    · simp only [own_W, f2_15, f2_14, f2_15_3, f2_0, f0_599, f0_585, f0_584, f0_567, f0_312, f0_311, f0_276, f0_556, f0_555, f0_493, f0_492, f0_424, f0_423, f0_361, f0_360, f0_241, f0_240, f1_281, f1_270, f1_184, f1_183, f1_166, f1_163, f1_158, f1_140, f1_107, f1_102, f1_84, f1_51, f1_0, own_u8, own_u7, own_u6, own_u5, g0, g1, g2, g3, gx, own_11, own_12, own_13, own_a1, own_a0, hx, hl128, hl194, hl224, hl240, hl225, hl241, hg223, hg239, hg244, hg127, hg236, hg243, he224, he237, he240, he244, he238, he239, z, zb0, zb1, zc0, zc1, ze0, own_k00, own_k01, own_k02, own_k03, own_k04, own_k10, own_k11, own_k12, own_k13, own_k14, own_k20, own_k21, own_k22, own_k23, own_k24, own_k30, own_k31, own_k32, own_k33, own_k34, own_k40, own_k41, own_k42, own_k43, own_k44, own_e01, own_e02, own_e03, own_e04, own_e10, own_e12, own_e13, own_e14, own_e20, own_e21, own_e23, own_e24, own_e30, own_e31, own_e32, own_e34, own_e40, own_e41, own_e42, own_e43, ↓reduceIte]
    by_cases ze1 : 191 < e
    · simp only [own_W, f2_15, f2_14, f2_15_3, f2_0, f0_599, f0_585, f0_584, f0_567, f0_312, f0_311, f0_276, f0_556, f0_555, f0_493, f0_492, f0_424, f0_423, f0_361, f0_360, f0_241, f0_240, f1_281, f1_270, f1_184, f1_183, f1_166, f1_163, f1_158, f1_140, f1_107, f1_102, f1_84, f1_51, f1_0, own_u8, own_u7, own_u6, own_u5, g0, g1, g2, g3, gx, own_11, own_12, own_13, own_a1, own_a0, hx, hl128, hl194, hl224, hl240, hl225, hl241, hg223, hg239, hg244, hg127, hg236, hg243, he224, he237, he240, he244, he238, he239, z, zb0, zb1, zc0, zc1, ze0, ze1, own_k00, own_k01, own_k02, own_k03, own_k04, own_k10, own_k11, own_k12, own_k13, own_k14, own_k20, own_k21, own_k22, own_k23, own_k24, own_k30, own_k31, own_k32, own_k33, own_k34, own_k40, own_k41, own_k42, own_k43, own_k44, own_e01, own_e02, own_e03, own_e04, own_e10, own_e12, own_e13, own_e14, own_e20, own_e21, own_e23, own_e24, own_e30, own_e31, own_e32, own_e34, own_e40, own_e41, own_e42, own_e43, ↓reduceIte]
    simp only [own_W, f2_15, f2_14, f2_15_3, f2_0, f0_599, f0_585, f0_584, f0_567, f0_312, f0_311, f0_276, f0_556, f0_555, f0_493, f0_492, f0_424, f0_423, f0_361, f0_360, f0_241, f0_240, f1_281, f1_270, f1_184, f1_183, f1_166, f1_163, f1_158, f1_140, f1_107, f1_102, f1_84, f1_51, f1_0, own_u8, own_u7, own_u6, own_u5, g0, g1, g2, g3, gx, own_11, own_12, own_13, own_a1, own_a0, hx, hl128, hl194, hl224, hl240, hl225, hl241, hg223, hg239, hg244, hg127, hg236, hg243, he224, he237, he240, he244, he238, he239, z, zb0, zb1, zc0, zc1, ze0, ze1, own_k00, own_k01, own_k02, own_k03, own_k04, own_k10, own_k11, own_k12, own_k13, own_k14, own_k20, own_k21, own_k22, own_k23, own_k24, own_k30, own_k31, own_k32, own_k33, own_k34, own_k40, own_k41, own_k42, own_k43, own_k44, own_e01, own_e02, own_e03, own_e04, own_e10, own_e12, own_e13, own_e14, own_e20, own_e21, own_e23, own_e24, own_e30, own_e31, own_e32, own_e34, own_e40, own_e41, own_e42, own_e43, ↓reduceIte]
  · skip
    by_cases zb0 : b < 128
    · simp only [own_W, f2_15, f2_14, f2_15_3, f2_0, f0_599, f0_585, f0_584, f0_567, f0_312, f0_311, f0_276, f0_556, f0_555, f0_493, f0_492, f0_424, f0_423, f0_361, f0_360, f0_241, f0_240, f1_281, f1_270, f1_184, f1_183, f1_166, f1_163, f1_158, f1_140, f1_107, f1_102, f1_84, f1_51, f1_0, own_u8, own_u7, own_u6, own_u5, g0, g1, g2, g3, gx, own_11, own_12, own_13, own_a1, own_a0, hx, hl128, hl194, hl224, hl240, hl225, hl241, hg223, hg239, hg244, hg127, hg236, hg243, he224, he237, he240, he244, he238, he239, z, zb0, own_k00, own_k01, own_k02, own_k03, own_k04, own_k10, own_k11, own_k12, own_k13, own_k14, own_k20, own_k21, own_k22, own_k23, own_k24, own_k30, own_k31, own_k32, own_k33, own_k34, own_k40, own_k41, own_k42, own_k43, own_k44, own_e01, own_e02, own_e03, own_e04, own_e10, own_e12, own_e13, own_e14, own_e20, own_e21, own_e23, own_e24, own_e30, own_e31, own_e32, own_e34, own_e40, own_e41, own_e42, own_e43, ↓reduceIte]
    by_cases zb1 : 191 < b
    · simp only [own_W, f2_15, f2_14, f2_15_3, f2_0, f0_599, f0_585, f0_584, f0_567, f0_312, f0_311, f0_276, f0_556, f0_555, f0_493, f0_492, f0_424, f0_423, f0_361, f0_360, f0_241, f0_240, f1_281, f1_270, f1_184, f1_183, f1_166, f1_163, f1_158, f1_140, f1_107, f1_102, f1_84, f1_51, f1_0, own_u8, own_u7, own_u6, own_u5, g0, g1, g2, g3, gx, own_11, own_12, own_13, own_a1, own_a0, hx, hl128, hl194, hl224, hl240, hl225, hl241, hg223, hg239, hg244, hg127, hg236, hg243, he224, he237, he240, he244, he238, he239, z, zb0, zb1, own_k00, own_k01, own_k02, own_k03, own_k04, own_k10, own_k11, own_k12, own_k13, own_k14, own_k20, own_k21, own_k22, own_k23, own_k24, own_k30, own_k31, own_k32, own_k33, own_k34, own_k40, own_k41, own_k42, own_k43, own_k44, own_e01, own_e02, own_e03, own_e04, own_e10, own_e12, own_e13, own_e14, own_e20, own_e21, own_e23, own_e24, own_e30, own_e31, own_e32, own_e34, own_e40, own_e41, own_e42, own_e43, ↓reduceIte]
    by_cases zc0 : c < 128
    · simp only [own_W, f2_15, f2_14, f2_15_3, f2_0, f0_599, f0_585, f0_584, f0_567, f0_312, f0_311, f0_276, f0_556, f0_555, f0_493, f0_492, f0_424, f0_423, f0_361, f0_360, f0_241, f0_240, f1_281, f1_270, f1_184, f1_183, f1_166, f1_163, f1_158, f1_140, f1_107, f1_102, f1_84, f1_51, f1_0, own_u8, own_u7, own_u6, own_u5, g0, g1, g2, g3, gx, own_11, own_12, own_13, own_a1, own_a0, hx, hl128, hl194, hl224, hl240, hl225, hl241, hg223, hg239, hg244, hg127, hg236, hg243, he224, he237, he240, he244, he238, he239, z, zb0, zb1, zc0, own_k00, own_k01, own_k02, own_k03, own_k04, own_k10, own_k11, own_k12, own_k13, own_k14, own_k20, own_k21, own_k22, own_k23, own_k24, own_k30, own_k31, own_k32, own_k33, own_k34, own_k40, own_k41, own_k42, own_k43, own_k44, own_e01, own_e02, own_e03, own_e04, own_e10, own_e12, own_e13, own_e14, own_e20, own_e21, own_e23, own_e24, own_e30, own_e31, own_e32, own_e34, own_e40, own_e41, own_e42, own_e43, ↓reduceIte]
    by_cases zc1 : 191 < c
    · simp only [own_W, f2_15, f2_14, f2_15_3, f2_0, f0_599, f0_585, f0_584, f0_567, f0_312, f0_311, f0_276, f0_556, f0_555, f0_493, f0_492, f0_424, f0_423, f0_361, f0_360, f0_241, f0_240, f1_281, f1_270, f1_184, f1_183, f1_166, f1_163, f1_158, f1_140, f1_107, f1_102, f1_84, f1_51, f1_0, own_u8, own_u7, own_u6, own_u5, g0, g1, g2, g3, gx, own_11, own_12, own_13, own_a1, own_a0, hx, hl128, hl194, hl224, hl240, hl225, hl241, hg223, hg239, hg244, hg127, hg236, hg243, he224, he237, he240, he244, he238, he239, z, zb0, zb1, zc0, zc1, own_k00, own_k01, own_k02, own_k03, own_k04, own_k10, own_k11, own_k12, own_k13, own_k14, own_k20, own_k21, own_k22, own_k23, own_k24, own_k30, own_k31, own_k32, own_k33, own_k34, own_k40, own_k41, own_k42, own_k43, own_k44, own_e01, own_e02, own_e03, own_e04, own_e10, own_e12, own_e13, own_e14, own_e20, own_e21, own_e23, own_e24, own_e30, own_e31, own_e32, own_e34, own_e40, own_e41, own_e42, own_e43, ↓reduceIte]
    by_cases ze0 : e < 128
    · simp only [own_W, f2_15, f2_14, f2_15_3, f2_0, f0_599, f0_585, f0_584, f0_567, f0_312, f0_311, f0_276, f0_556, f0_555, f0_493, f0_492, f0_424, f0_423, f0_361, f0_360, f0_241, f0_240, f1_281, f1_270, f1_184, f1_183, f1_166, f1_163, f1_158, f1_140, f1_107, f1_102, f1_84, f1_51, f1_0, own_u8, own_u7, own_u6, own_u5, g0, g1, g2, g3, gx, own_11, own_12, own_13, own_a1, own_a0, hx, hl128, hl194, hl224, hl240, hl225, hl241, hg223, hg239, hg244, hg127, hg236, hg243, he224, he237, he240, he244, he238, he239, z, zb0, zb1, zc0, zc1, ze0, own_k00, own_k01, own_k02, own_k03, own_k04, own_k10, own_k11, own_k12, own_k13, own_k14, own_k20, own_k21, own_k22, own_k23, own_k24, own_k30, own_k31, own_k32, own_k33, own_k34, own_k40, own_k41, own_k42, own_k43, own_k44, own_e01, own_e02, own_e03, own_e04, own_e10, own_e12, own_e13, own_e14, own_e20, own_e21, own_e23, own_e24, own_e30, own_e31, own_e32, own_e34, own_e40, own_e41, own_e42, own_e43, ↓reduceIte]
    by_cases ze1 : 191 < e
    · simp only [own_W, f2_15, f2_14, f2_15_3, f2_0, f0_599, f0_585, f0_584, f0_567, f0_312, f0_311, f0_276, f0_556, f0_555, f0_493, f0_492, f0_424, f0_423, f0_361, f0_360, f0_241, f0_240, f1_281, f1_270, f1_184, f1_183, f1_166, f1_163, f1_158, f1_140, f1_107, f1_102, f1_84, f1_51, f1_0, own_u8, own_u7, own_u6, own_u5, g0, g1, g2, g3, gx, own_11, own_12, own_13, own_a1, own_a0, hx, hl128, hl194, hl224, hl240, hl225, hl241, hg223, hg239, hg244, hg127, hg236, hg243, he224, he237, he240, he244, he238, he239, z, zb0, zb1, zc0, zc1, ze0, ze1, own_k00, own_k01, own_k02, own_k03, own_k04, own_k10, own_k11, own_k12, own_k13, own_k14, own_k20, own_k21, own_k22, own_k23, own_k24, own_k30, own_k31, own_k32, own_k33, own_k34, own_k40, own_k41, own_k42, own_k43, own_k44, own_e01, own_e02, own_e03, own_e04, own_e10, own_e12, own_e13, own_e14, own_e20, own_e21, own_e23, own_e24, own_e30, own_e31, own_e32, own_e34, own_e40, own_e41, own_e42, own_e43, ↓reduceIte]
    simp only [own_W, f2_15, f2_14, f2_15_3, f2_0, f0_599, f0_585, f0_584, f0_567, f0_312, f0_311, f0_276, f0_556, f0_555, f0_493, f0_492, f0_424, f0_423, f0_361, f0_360, f0_241, f0_240, f1_281, f1_270, f1_184, f1_183, f1_166, f1_163, f1_158, f1_140, f1_107, f1_102, f1_84, f1_51, f1_0, own_u8, own_u7, own_u6, own_u5, g0, g1, g2, g3, gx, own_11, own_12, own_13, own_a1, own_a0, hx, hl128, hl194, hl224, hl240, hl225, hl241, hg223, hg239, hg244, hg127, hg236, hg243, he224, he237, he240, he244, he238, he239, z, zb0, zb1, zc0, zc1, ze0, ze1, own_k00, own_k01, own_k02, own_k03, own_k04, own_k10, own_k11, own_k12, own_k13, own_k14, own_k20, own_k21, own_k22, own_k23, own_k24, own_k30, own_k31, own_k32, own_k33, own_k34, own_k40, own_k41, own_k42, own_k43, own_k44, own_e01, own_e02, own_e03, own_e04, own_e10, own_e12, own_e13, own_e14, own_e20, own_e21, own_e23, own_e24, own_e30, own_e31, own_e32, own_e34, own_e40, own_e41, own_e42, own_e43, ↓reduceIte]
theorem own_c11 (v : List Int32) (p q a b c e x : Int32) (g0 : own_get v p &&& 255 = a) (g1 : own_get v (p + 1) &&& 255 = b) (g2 : own_get v (p + 2) &&& 255 = c) (g3 : own_get v (p + 3) &&& 255 = e) (gx : q - p = x) (x1 : 1 ≤ x.toInt) (a0 : 0 ≤ a.toInt) (a1 : a.toInt ≤ 255) (y0 : 244 ≤ a.toInt) (y1 : a.toInt ≤ 244) : own_W a b c e x (f1_0 v p q) = 1 := by
  have hl128 : (a < 128) = False := eq_false (by rw [own_lt, own_l128]; omega)
  have hl194 : (a < 194) = False := eq_false (by rw [own_lt, own_l194]; omega)
  have hl224 : (a < 224) = False := eq_false (by rw [own_lt, own_l224]; omega)
  have hl240 : (a < 240) = False := eq_false (by rw [own_lt, own_l240]; omega)
  have hl225 : (a < 225) = False := eq_false (by rw [own_lt, own_l225]; omega)
  have hl241 : (a < 241) = False := eq_false (by rw [own_lt, own_l241]; omega)
  have hg223 : (223 < a) = True := eq_true (by rw [own_lt, own_l223]; omega)
  have hg239 : (239 < a) = True := eq_true (by rw [own_lt, own_l239]; omega)
  have hg244 : (244 < a) = False := eq_false (by rw [own_lt, own_l244]; omega)
  have hg127 : (127 < a) = True := eq_true (by rw [own_lt, own_l127]; omega)
  have hg236 : (236 < a) = True := eq_true (by rw [own_lt, own_l236]; omega)
  have hg243 : (243 < a) = True := eq_true (by rw [own_lt, own_l243]; omega)
  have he224 : (a = 224) = False := eq_false (by rw [own_eq, own_l224]; omega)
  have he237 : (a = 237) = False := eq_false (by rw [own_eq, own_l237]; omega)
  have he240 : (a = 240) = False := eq_false (by rw [own_eq, own_l240]; omega)
  have he244 : (a = 244) = True := eq_true (by rw [own_eq, own_l244]; omega)
  have he238 : (a = 238) = False := eq_false (by rw [own_eq, own_l238]; omega)
  have he239 : (a = 239) = False := eq_false (by rw [own_eq, own_l239]; omega)
  have hx : (x < 1) = False := eq_false (by rw [own_lt, own_l1]; omega)
  by_cases z : x < 4
  · skip
    by_cases zb0 : b < 128
    · simp only [own_W, f2_15, f2_14, f2_15_3, f2_0, f0_599, f0_585, f0_584, f0_567, f0_312, f0_311, f0_276, f0_556, f0_555, f0_493, f0_492, f0_424, f0_423, f0_361, f0_360, f0_241, f0_240, f1_281, f1_270, f1_184, f1_183, f1_166, f1_163, f1_158, f1_140, f1_107, f1_102, f1_84, f1_51, f1_0, own_u8, own_u7, own_u6, own_u5, g0, g1, g2, g3, gx, own_11, own_12, own_13, own_a1, own_a0, hx, hl128, hl194, hl224, hl240, hl225, hl241, hg223, hg239, hg244, hg127, hg236, hg243, he224, he237, he240, he244, he238, he239, z, zb0, own_k00, own_k01, own_k02, own_k03, own_k04, own_k10, own_k11, own_k12, own_k13, own_k14, own_k20, own_k21, own_k22, own_k23, own_k24, own_k30, own_k31, own_k32, own_k33, own_k34, own_k40, own_k41, own_k42, own_k43, own_k44, own_e01, own_e02, own_e03, own_e04, own_e10, own_e12, own_e13, own_e14, own_e20, own_e21, own_e23, own_e24, own_e30, own_e31, own_e32, own_e34, own_e40, own_e41, own_e42, own_e43, ↓reduceIte]
    by_cases zb1 : 143 < b
    · simp only [own_W, f2_15, f2_14, f2_15_3, f2_0, f0_599, f0_585, f0_584, f0_567, f0_312, f0_311, f0_276, f0_556, f0_555, f0_493, f0_492, f0_424, f0_423, f0_361, f0_360, f0_241, f0_240, f1_281, f1_270, f1_184, f1_183, f1_166, f1_163, f1_158, f1_140, f1_107, f1_102, f1_84, f1_51, f1_0, own_u8, own_u7, own_u6, own_u5, g0, g1, g2, g3, gx, own_11, own_12, own_13, own_a1, own_a0, hx, hl128, hl194, hl224, hl240, hl225, hl241, hg223, hg239, hg244, hg127, hg236, hg243, he224, he237, he240, he244, he238, he239, z, zb0, zb1, own_k00, own_k01, own_k02, own_k03, own_k04, own_k10, own_k11, own_k12, own_k13, own_k14, own_k20, own_k21, own_k22, own_k23, own_k24, own_k30, own_k31, own_k32, own_k33, own_k34, own_k40, own_k41, own_k42, own_k43, own_k44, own_e01, own_e02, own_e03, own_e04, own_e10, own_e12, own_e13, own_e14, own_e20, own_e21, own_e23, own_e24, own_e30, own_e31, own_e32, own_e34, own_e40, own_e41, own_e42, own_e43, ↓reduceIte]
    by_cases zc0 : c < 128
    · simp only [own_W, f2_15, f2_14, f2_15_3, f2_0, f0_599, f0_585, f0_584, f0_567, f0_312, f0_311, f0_276, f0_556, f0_555, f0_493, f0_492, f0_424, f0_423, f0_361, f0_360, f0_241, f0_240, f1_281, f1_270, f1_184, f1_183, f1_166, f1_163, f1_158, f1_140, f1_107, f1_102, f1_84, f1_51, f1_0, own_u8, own_u7, own_u6, own_u5, g0, g1, g2, g3, gx, own_11, own_12, own_13, own_a1, own_a0, hx, hl128, hl194, hl224, hl240, hl225, hl241, hg223, hg239, hg244, hg127, hg236, hg243, he224, he237, he240, he244, he238, he239, z, zb0, zb1, zc0, own_k00, own_k01, own_k02, own_k03, own_k04, own_k10, own_k11, own_k12, own_k13, own_k14, own_k20, own_k21, own_k22, own_k23, own_k24, own_k30, own_k31, own_k32, own_k33, own_k34, own_k40, own_k41, own_k42, own_k43, own_k44, own_e01, own_e02, own_e03, own_e04, own_e10, own_e12, own_e13, own_e14, own_e20, own_e21, own_e23, own_e24, own_e30, own_e31, own_e32, own_e34, own_e40, own_e41, own_e42, own_e43, ↓reduceIte]
    by_cases zc1 : 191 < c
    · simp only [own_W, f2_15, f2_14, f2_15_3, f2_0, f0_599, f0_585, f0_584, f0_567, f0_312, f0_311, f0_276, f0_556, f0_555, f0_493, f0_492, f0_424, f0_423, f0_361, f0_360, f0_241, f0_240, f1_281, f1_270, f1_184, f1_183, f1_166, f1_163, f1_158, f1_140, f1_107, f1_102, f1_84, f1_51, f1_0, own_u8, own_u7, own_u6, own_u5, g0, g1, g2, g3, gx, own_11, own_12, own_13, own_a1, own_a0, hx, hl128, hl194, hl224, hl240, hl225, hl241, hg223, hg239, hg244, hg127, hg236, hg243, he224, he237, he240, he244, he238, he239, z, zb0, zb1, zc0, zc1, own_k00, own_k01, own_k02, own_k03, own_k04, own_k10, own_k11, own_k12, own_k13, own_k14, own_k20, own_k21, own_k22, own_k23, own_k24, own_k30, own_k31, own_k32, own_k33, own_k34, own_k40, own_k41, own_k42, own_k43, own_k44, own_e01, own_e02, own_e03, own_e04, own_e10, own_e12, own_e13, own_e14, own_e20, own_e21, own_e23, own_e24, own_e30, own_e31, own_e32, own_e34, own_e40, own_e41, own_e42, own_e43, ↓reduceIte]
    by_cases ze0 : e < 128
    · simp only [own_W, f2_15, f2_14, f2_15_3, f2_0, f0_599, f0_585, f0_584, f0_567, f0_312, f0_311, f0_276, f0_556, f0_555, f0_493, f0_492, f0_424, f0_423, f0_361, f0_360, f0_241, f0_240, f1_281, f1_270, f1_184, f1_183, f1_166, f1_163, f1_158, f1_140, f1_107, f1_102, f1_84, f1_51, f1_0, own_u8, own_u7, own_u6, own_u5, g0, g1, g2, g3, gx, own_11, own_12, own_13, own_a1, own_a0, hx, hl128, hl194, hl224, hl240, hl225, hl241, hg223, hg239, hg244, hg127, hg236, hg243, he224, he237, he240, he244, he238, he239, z, zb0, zb1, zc0, zc1, ze0, own_k00, own_k01, own_k02, own_k03, own_k04, own_k10, own_k11, own_k12, own_k13, own_k14, own_k20, own_k21, own_k22, own_k23, own_k24, own_k30, own_k31, own_k32, own_k33, own_k34, own_k40, own_k41, own_k42, own_k43, own_k44, own_e01, own_e02, own_e03, own_e04, own_e10, own_e12, own_e13, own_e14, own_e20, own_e21, own_e23, own_e24, own_e30, own_e31, own_e32, own_e34, own_e40, own_e41, own_e42, own_e43, ↓reduceIte]
    by_cases ze1 : 191 < e
    · simp only [own_W, f2_15, f2_14, f2_15_3, f2_0, f0_599, f0_585, f0_584, f0_567, f0_312, f0_311, f0_276, f0_556, f0_555, f0_493, f0_492, f0_424, f0_423, f0_361, f0_360, f0_241, f0_240, f1_281, f1_270, f1_184, f1_183, f1_166, f1_163, f1_158, f1_140, f1_107, f1_102, f1_84, f1_51, f1_0, own_u8, own_u7, own_u6, own_u5, g0, g1, g2, g3, gx, own_11, own_12, own_13, own_a1, own_a0, hx, hl128, hl194, hl224, hl240, hl225, hl241, hg223, hg239, hg244, hg127, hg236, hg243, he224, he237, he240, he244, he238, he239, z, zb0, zb1, zc0, zc1, ze0, ze1, own_k00, own_k01, own_k02, own_k03, own_k04, own_k10, own_k11, own_k12, own_k13, own_k14, own_k20, own_k21, own_k22, own_k23, own_k24, own_k30, own_k31, own_k32, own_k33, own_k34, own_k40, own_k41, own_k42, own_k43, own_k44, own_e01, own_e02, own_e03, own_e04, own_e10, own_e12, own_e13, own_e14, own_e20, own_e21, own_e23, own_e24, own_e30, own_e31, own_e32, own_e34, own_e40, own_e41, own_e42, own_e43, ↓reduceIte]
    simp only [own_W, f2_15, f2_14, f2_15_3, f2_0, f0_599, f0_585, f0_584, f0_567, f0_312, f0_311, f0_276, f0_556, f0_555, f0_493, f0_492, f0_424, f0_423, f0_361, f0_360, f0_241, f0_240, f1_281, f1_270, f1_184, f1_183, f1_166, f1_163, f1_158, f1_140, f1_107, f1_102, f1_84, f1_51, f1_0, own_u8, own_u7, own_u6, own_u5, g0, g1, g2, g3, gx, own_11, own_12, own_13, own_a1, own_a0, hx, hl128, hl194, hl224, hl240, hl225, hl241, hg223, hg239, hg244, hg127, hg236, hg243, he224, he237, he240, he244, he238, he239, z, zb0, zb1, zc0, zc1, ze0, ze1, own_k00, own_k01, own_k02, own_k03, own_k04, own_k10, own_k11, own_k12, own_k13, own_k14, own_k20, own_k21, own_k22, own_k23, own_k24, own_k30, own_k31, own_k32, own_k33, own_k34, own_k40, own_k41, own_k42, own_k43, own_k44, own_e01, own_e02, own_e03, own_e04, own_e10, own_e12, own_e13, own_e14, own_e20, own_e21, own_e23, own_e24, own_e30, own_e31, own_e32, own_e34, own_e40, own_e41, own_e42, own_e43, ↓reduceIte]
  · skip
    by_cases zb0 : b < 128
    · simp only [own_W, f2_15, f2_14, f2_15_3, f2_0, f0_599, f0_585, f0_584, f0_567, f0_312, f0_311, f0_276, f0_556, f0_555, f0_493, f0_492, f0_424, f0_423, f0_361, f0_360, f0_241, f0_240, f1_281, f1_270, f1_184, f1_183, f1_166, f1_163, f1_158, f1_140, f1_107, f1_102, f1_84, f1_51, f1_0, own_u8, own_u7, own_u6, own_u5, g0, g1, g2, g3, gx, own_11, own_12, own_13, own_a1, own_a0, hx, hl128, hl194, hl224, hl240, hl225, hl241, hg223, hg239, hg244, hg127, hg236, hg243, he224, he237, he240, he244, he238, he239, z, zb0, own_k00, own_k01, own_k02, own_k03, own_k04, own_k10, own_k11, own_k12, own_k13, own_k14, own_k20, own_k21, own_k22, own_k23, own_k24, own_k30, own_k31, own_k32, own_k33, own_k34, own_k40, own_k41, own_k42, own_k43, own_k44, own_e01, own_e02, own_e03, own_e04, own_e10, own_e12, own_e13, own_e14, own_e20, own_e21, own_e23, own_e24, own_e30, own_e31, own_e32, own_e34, own_e40, own_e41, own_e42, own_e43, ↓reduceIte]
    by_cases zb1 : 143 < b
    · simp only [own_W, f2_15, f2_14, f2_15_3, f2_0, f0_599, f0_585, f0_584, f0_567, f0_312, f0_311, f0_276, f0_556, f0_555, f0_493, f0_492, f0_424, f0_423, f0_361, f0_360, f0_241, f0_240, f1_281, f1_270, f1_184, f1_183, f1_166, f1_163, f1_158, f1_140, f1_107, f1_102, f1_84, f1_51, f1_0, own_u8, own_u7, own_u6, own_u5, g0, g1, g2, g3, gx, own_11, own_12, own_13, own_a1, own_a0, hx, hl128, hl194, hl224, hl240, hl225, hl241, hg223, hg239, hg244, hg127, hg236, hg243, he224, he237, he240, he244, he238, he239, z, zb0, zb1, own_k00, own_k01, own_k02, own_k03, own_k04, own_k10, own_k11, own_k12, own_k13, own_k14, own_k20, own_k21, own_k22, own_k23, own_k24, own_k30, own_k31, own_k32, own_k33, own_k34, own_k40, own_k41, own_k42, own_k43, own_k44, own_e01, own_e02, own_e03, own_e04, own_e10, own_e12, own_e13, own_e14, own_e20, own_e21, own_e23, own_e24, own_e30, own_e31, own_e32, own_e34, own_e40, own_e41, own_e42, own_e43, ↓reduceIte]
    by_cases zc0 : c < 128
    · simp only [own_W, f2_15, f2_14, f2_15_3, f2_0, f0_599, f0_585, f0_584, f0_567, f0_312, f0_311, f0_276, f0_556, f0_555, f0_493, f0_492, f0_424, f0_423, f0_361, f0_360, f0_241, f0_240, f1_281, f1_270, f1_184, f1_183, f1_166, f1_163, f1_158, f1_140, f1_107, f1_102, f1_84, f1_51, f1_0, own_u8, own_u7, own_u6, own_u5, g0, g1, g2, g3, gx, own_11, own_12, own_13, own_a1, own_a0, hx, hl128, hl194, hl224, hl240, hl225, hl241, hg223, hg239, hg244, hg127, hg236, hg243, he224, he237, he240, he244, he238, he239, z, zb0, zb1, zc0, own_k00, own_k01, own_k02, own_k03, own_k04, own_k10, own_k11, own_k12, own_k13, own_k14, own_k20, own_k21, own_k22, own_k23, own_k24, own_k30, own_k31, own_k32, own_k33, own_k34, own_k40, own_k41, own_k42, own_k43, own_k44, own_e01, own_e02, own_e03, own_e04, own_e10, own_e12, own_e13, own_e14, own_e20, own_e21, own_e23, own_e24, own_e30, own_e31, own_e32, own_e34, own_e40, own_e41, own_e42, own_e43, ↓reduceIte]
    by_cases zc1 : 191 < c
    · simp only [own_W, f2_15, f2_14, f2_15_3, f2_0, f0_599, f0_585, f0_584, f0_567, f0_312, f0_311, f0_276, f0_556, f0_555, f0_493, f0_492, f0_424, f0_423, f0_361, f0_360, f0_241, f0_240, f1_281, f1_270, f1_184, f1_183, f1_166, f1_163, f1_158, f1_140, f1_107, f1_102, f1_84, f1_51, f1_0, own_u8, own_u7, own_u6, own_u5, g0, g1, g2, g3, gx, own_11, own_12, own_13, own_a1, own_a0, hx, hl128, hl194, hl224, hl240, hl225, hl241, hg223, hg239, hg244, hg127, hg236, hg243, he224, he237, he240, he244, he238, he239, z, zb0, zb1, zc0, zc1, own_k00, own_k01, own_k02, own_k03, own_k04, own_k10, own_k11, own_k12, own_k13, own_k14, own_k20, own_k21, own_k22, own_k23, own_k24, own_k30, own_k31, own_k32, own_k33, own_k34, own_k40, own_k41, own_k42, own_k43, own_k44, own_e01, own_e02, own_e03, own_e04, own_e10, own_e12, own_e13, own_e14, own_e20, own_e21, own_e23, own_e24, own_e30, own_e31, own_e32, own_e34, own_e40, own_e41, own_e42, own_e43, ↓reduceIte]
    by_cases ze0 : e < 128
    · simp only [own_W, f2_15, f2_14, f2_15_3, f2_0, f0_599, f0_585, f0_584, f0_567, f0_312, f0_311, f0_276, f0_556, f0_555, f0_493, f0_492, f0_424, f0_423, f0_361, f0_360, f0_241, f0_240, f1_281, f1_270, f1_184, f1_183, f1_166, f1_163, f1_158, f1_140, f1_107, f1_102, f1_84, f1_51, f1_0, own_u8, own_u7, own_u6, own_u5, g0, g1, g2, g3, gx, own_11, own_12, own_13, own_a1, own_a0, hx, hl128, hl194, hl224, hl240, hl225, hl241, hg223, hg239, hg244, hg127, hg236, hg243, he224, he237, he240, he244, he238, he239, z, zb0, zb1, zc0, zc1, ze0, own_k00, own_k01, own_k02, own_k03, own_k04, own_k10, own_k11, own_k12, own_k13, own_k14, own_k20, own_k21, own_k22, own_k23, own_k24, own_k30, own_k31, own_k32, own_k33, own_k34, own_k40, own_k41, own_k42, own_k43, own_k44, own_e01, own_e02, own_e03, own_e04, own_e10, own_e12, own_e13, own_e14, own_e20, own_e21, own_e23, own_e24, own_e30, own_e31, own_e32, own_e34, own_e40, own_e41, own_e42, own_e43, ↓reduceIte]
    by_cases ze1 : 191 < e
    · simp only [own_W, f2_15, f2_14, f2_15_3, f2_0, f0_599, f0_585, f0_584, f0_567, f0_312, f0_311, f0_276, f0_556, f0_555, f0_493, f0_492, f0_424, f0_423, f0_361, f0_360, f0_241, f0_240, f1_281, f1_270, f1_184, f1_183, f1_166, f1_163, f1_158, f1_140, f1_107, f1_102, f1_84, f1_51, f1_0, own_u8, own_u7, own_u6, own_u5, g0, g1, g2, g3, gx, own_11, own_12, own_13, own_a1, own_a0, hx, hl128, hl194, hl224, hl240, hl225, hl241, hg223, hg239, hg244, hg127, hg236, hg243, he224, he237, he240, he244, he238, he239, z, zb0, zb1, zc0, zc1, ze0, ze1, own_k00, own_k01, own_k02, own_k03, own_k04, own_k10, own_k11, own_k12, own_k13, own_k14, own_k20, own_k21, own_k22, own_k23, own_k24, own_k30, own_k31, own_k32, own_k33, own_k34, own_k40, own_k41, own_k42, own_k43, own_k44, own_e01, own_e02, own_e03, own_e04, own_e10, own_e12, own_e13, own_e14, own_e20, own_e21, own_e23, own_e24, own_e30, own_e31, own_e32, own_e34, own_e40, own_e41, own_e42, own_e43, ↓reduceIte]
    simp only [own_W, f2_15, f2_14, f2_15_3, f2_0, f0_599, f0_585, f0_584, f0_567, f0_312, f0_311, f0_276, f0_556, f0_555, f0_493, f0_492, f0_424, f0_423, f0_361, f0_360, f0_241, f0_240, f1_281, f1_270, f1_184, f1_183, f1_166, f1_163, f1_158, f1_140, f1_107, f1_102, f1_84, f1_51, f1_0, own_u8, own_u7, own_u6, own_u5, g0, g1, g2, g3, gx, own_11, own_12, own_13, own_a1, own_a0, hx, hl128, hl194, hl224, hl240, hl225, hl241, hg223, hg239, hg244, hg127, hg236, hg243, he224, he237, he240, he244, he238, he239, z, zb0, zb1, zc0, zc1, ze0, ze1, own_k00, own_k01, own_k02, own_k03, own_k04, own_k10, own_k11, own_k12, own_k13, own_k14, own_k20, own_k21, own_k22, own_k23, own_k24, own_k30, own_k31, own_k32, own_k33, own_k34, own_k40, own_k41, own_k42, own_k43, own_k44, own_e01, own_e02, own_e03, own_e04, own_e10, own_e12, own_e13, own_e14, own_e20, own_e21, own_e23, own_e24, own_e30, own_e31, own_e32, own_e34, own_e40, own_e41, own_e42, own_e43, ↓reduceIte]
theorem own_c12 (v : List Int32) (p q a b c e x : Int32) (g0 : own_get v p &&& 255 = a) (g1 : own_get v (p + 1) &&& 255 = b) (g2 : own_get v (p + 2) &&& 255 = c) (g3 : own_get v (p + 3) &&& 255 = e) (gx : q - p = x) (x1 : 1 ≤ x.toInt) (a0 : 0 ≤ a.toInt) (a1 : a.toInt ≤ 255) (y0 : 245 ≤ a.toInt) (y1 : a.toInt ≤ 255) : own_W a b c e x (f1_0 v p q) = 1 := by
  have hl128 : (a < 128) = False := eq_false (by rw [own_lt, own_l128]; omega)
  have hl194 : (a < 194) = False := eq_false (by rw [own_lt, own_l194]; omega)
  have hl224 : (a < 224) = False := eq_false (by rw [own_lt, own_l224]; omega)
  have hl240 : (a < 240) = False := eq_false (by rw [own_lt, own_l240]; omega)
  have hl225 : (a < 225) = False := eq_false (by rw [own_lt, own_l225]; omega)
  have hl241 : (a < 241) = False := eq_false (by rw [own_lt, own_l241]; omega)
  have hg223 : (223 < a) = True := eq_true (by rw [own_lt, own_l223]; omega)
  have hg239 : (239 < a) = True := eq_true (by rw [own_lt, own_l239]; omega)
  have hg244 : (244 < a) = True := eq_true (by rw [own_lt, own_l244]; omega)
  have hg127 : (127 < a) = True := eq_true (by rw [own_lt, own_l127]; omega)
  have hg236 : (236 < a) = True := eq_true (by rw [own_lt, own_l236]; omega)
  have hg243 : (243 < a) = True := eq_true (by rw [own_lt, own_l243]; omega)
  have he224 : (a = 224) = False := eq_false (by rw [own_eq, own_l224]; omega)
  have he237 : (a = 237) = False := eq_false (by rw [own_eq, own_l237]; omega)
  have he240 : (a = 240) = False := eq_false (by rw [own_eq, own_l240]; omega)
  have he244 : (a = 244) = False := eq_false (by rw [own_eq, own_l244]; omega)
  have he238 : (a = 238) = False := eq_false (by rw [own_eq, own_l238]; omega)
  have he239 : (a = 239) = False := eq_false (by rw [own_eq, own_l239]; omega)
  have hx : (x < 1) = False := eq_false (by rw [own_lt, own_l1]; omega)
  simp only [own_W, f2_15, f2_14, f2_15_3, f2_0, f0_599, f0_585, f0_584, f0_567, f0_312, f0_311, f0_276, f0_556, f0_555, f0_493, f0_492, f0_424, f0_423, f0_361, f0_360, f0_241, f0_240, f1_281, f1_270, f1_184, f1_183, f1_166, f1_163, f1_158, f1_140, f1_107, f1_102, f1_84, f1_51, f1_0, own_u8, own_u7, own_u6, own_u5, g0, g1, g2, g3, gx, own_11, own_12, own_13, own_a1, own_a0, hx, hl128, hl194, hl224, hl240, hl225, hl241, hg223, hg239, hg244, hg127, hg236, hg243, he224, he237, he240, he244, he238, he239, own_k00, own_k01, own_k02, own_k03, own_k04, own_k10, own_k11, own_k12, own_k13, own_k14, own_k20, own_k21, own_k22, own_k23, own_k24, own_k30, own_k31, own_k32, own_k33, own_k34, own_k40, own_k41, own_k42, own_k43, own_k44, own_e01, own_e02, own_e03, own_e04, own_e10, own_e12, own_e13, own_e14, own_e20, own_e21, own_e23, own_e24, own_e30, own_e31, own_e32, own_e34, own_e40, own_e41, own_e42, own_e43, ↓reduceIte]
theorem own_mid (v : List Int32) (p q a b c e x : Int32) (g0 : own_get v p &&& 255 = a) (g1 : own_get v (p + 1) &&& 255 = b) (g2 : own_get v (p + 2) &&& 255 = c) (g3 : own_get v (p + 3) &&& 255 = e) (gx : q - p = x) (x1 : 1 ≤ x.toInt) (a0 : 0 ≤ a.toInt) (a1 : a.toInt ≤ 255) : own_W a b c e x (f1_0 v p q) = 1 := by
  have ha : (0 ≤ a.toInt ∧ a.toInt ≤ 127) ∨ (128 ≤ a.toInt ∧ a.toInt ≤ 193) ∨ (194 ≤ a.toInt ∧ a.toInt ≤ 223) ∨ (224 ≤ a.toInt ∧ a.toInt ≤ 224) ∨ (225 ≤ a.toInt ∧ a.toInt ≤ 236) ∨ (237 ≤ a.toInt ∧ a.toInt ≤ 237) ∨ (238 ≤ a.toInt ∧ a.toInt ≤ 238) ∨ (239 ≤ a.toInt ∧ a.toInt ≤ 239) ∨ (240 ≤ a.toInt ∧ a.toInt ≤ 240) ∨ (241 ≤ a.toInt ∧ a.toInt ≤ 243) ∨ (244 ≤ a.toInt ∧ a.toInt ≤ 244) ∨ (245 ≤ a.toInt ∧ a.toInt ≤ 255) := by omega
  rcases ha with ⟨y0, y1⟩ | ⟨y0, y1⟩ | ⟨y0, y1⟩ | ⟨y0, y1⟩ | ⟨y0, y1⟩ | ⟨y0, y1⟩ | ⟨y0, y1⟩ | ⟨y0, y1⟩ | ⟨y0, y1⟩ | ⟨y0, y1⟩ | ⟨y0, y1⟩ | ⟨y0, y1⟩
  · exact own_c1 v p q a b c e x g0 g1 g2 g3 gx x1 a0 a1 y0 y1
  · exact own_c2 v p q a b c e x g0 g1 g2 g3 gx x1 a0 a1 y0 y1
  · exact own_c3 v p q a b c e x g0 g1 g2 g3 gx x1 a0 a1 y0 y1
  · exact own_c4 v p q a b c e x g0 g1 g2 g3 gx x1 a0 a1 y0 y1
  · exact own_c5 v p q a b c e x g0 g1 g2 g3 gx x1 a0 a1 y0 y1
  · exact own_c6 v p q a b c e x g0 g1 g2 g3 gx x1 a0 a1 y0 y1
  · exact own_c7 v p q a b c e x g0 g1 g2 g3 gx x1 a0 a1 y0 y1
  · exact own_c8 v p q a b c e x g0 g1 g2 g3 gx x1 a0 a1 y0 y1
  · exact own_c9 v p q a b c e x g0 g1 g2 g3 gx x1 a0 a1 y0 y1
  · exact own_c10 v p q a b c e x g0 g1 g2 g3 gx x1 a0 a1 y0 y1
  · exact own_c11 v p q a b c e x g0 g1 g2 g3 gx x1 a0 a1 y0 y1
  · exact own_c12 v p q a b c e x g0 g1 g2 g3 gx x1 a0 a1 y0 y1
theorem own_sl {v : List Int32} (hv : v.length = 8) {p w : Int32} (p0 : 0 ≤ p.toInt) (p3 : p.toInt ≤ 3) (w4 : w.toInt ≤ 4) (lo hi : Int32) : ∀ (n : Nat) (x7 x8 : Int32), 1 ≤ x8.toInt → x8.toInt ≤ 4 → 5 ≤ x8.toInt + n → s1_189 n v p w lo hi x7 x8 := by
  intro n
  induction n with
  | zero => intro x7 x8 h1 h2 h3; omega
  | succ n ih =>
    intro x7 x8 h1 h2 h3
    unfold s1_189
    refine ⟨fun _ => trivial, fun _ => ⟨fun c => ?_, fun _ => trivial⟩⟩
    rw [own_lt] at c
    have e1 : (x8 + 1).toInt = x8.toInt + 1 := Jvm.Kit.i32_add (by rw [own_l1]; omega) (by rw [own_l1]; omega)
    have e2 : (p + x8).toInt = p.toInt + x8.toInt := Jvm.Kit.i32_add (by omega) (by omega)
    have r : ∀ t, s1_189 n v p w lo hi t (x8 + 1) := fun t => ih t (x8 + 1) (by omega) (by omega) (by omega)
    refine ⟨?_, fun _ => ⟨fun _ => r _, fun _ => ⟨fun _ => r _, fun _ => r _⟩⟩, fun _ => ⟨fun _ => r _, fun _ => ⟨fun _ => r _, fun _ => r _⟩⟩⟩
    rw [hv]
    exact own_in_of (by omega) (by omega)
theorem own_s1 {v : List Int32} (hv : v.length = 8) {p q : Int32} (p0 : 0 ≤ p.toInt) (p3 : p.toInt ≤ 3) : s1_0 v p q := by
  have A : ∀ w lo hi t, w.toInt ≤ 4 → s1_184 v p w lo hi t := fun w lo hi t h => own_sl hv p0 p3 h lo hi 8 t 1 (by decide) (by decide) (by decide)
  have B : ∀ w lo hi, w.toInt ≤ 4 → s1_166 v p q w lo hi := fun w lo hi h => ⟨fun _ => ⟨fun _ => A _ _ _ _ h, fun _ => A _ _ _ _ h⟩, fun _ => A _ _ _ _ h⟩
  have C : ∀ a lo hi, s1_107 v p q a lo hi := fun a lo hi => ⟨fun _ => B _ _ _ (by decide), fun _ => ⟨fun _ => B _ _ _ (by decide), fun _ => ⟨fun _ => ⟨fun _ => B _ _ _ (by decide), fun _ => B _ _ _ (by decide)⟩, fun _ => ⟨fun _ => B _ _ _ (by decide), fun _ => B _ _ _ (by decide)⟩⟩⟩⟩
  have D : ∀ a lo hi, s1_51 v p q a lo hi := fun a lo hi => ⟨fun _ => C _ _ _, fun _ => ⟨fun _ => C _ _ _, fun _ => ⟨fun _ => ⟨fun _ => B _ _ _ (by decide), fun _ => B _ _ _ (by decide)⟩, fun _ => ⟨fun _ => B _ _ _ (by decide), fun _ => B _ _ _ (by decide)⟩⟩⟩⟩
  exact ⟨by rw [hv]; exact own_in_of p0 (by omega), fun _ => B _ _ _ (by decide), fun _ => ⟨fun _ => D _ _ _, fun _ => ⟨fun _ => D _ _ _, fun _ => B _ _ _ (by decide)⟩⟩⟩
theorem own_i2b_int (x : Int32) : (own_i2b x).toInt = x.toInt.bmod 256 := by
  show x.toInt8.toInt32.toInt = _
  rw [Int8.toInt_toInt32, Int32.toInt_toInt8]
theorem own_byte (x : Int32) : own_i2b (own_i2b x) &&& 255 = x &&& 255 := by
  rw [own_i2b2, own_eq, Jvm.Kit.i32_mask _ 255 (k := 8) (by decide) (by decide), Jvm.Kit.i32_mask _ 255 (k := 8) (by decide) (by decide), own_i2b_int, Int.bmod_def]
  omega
theorem own_inl {l : List Int32} {n : Nat} {j : Int32} (h : l.length = n) (k : own_in n j) : own_in l.length j := by rw [h]; exact k
theorem own_both (p0 p1 p2 p3 p4 p5 : Int32) : s0_0 p0 p1 p2 p3 p4 p5 ∧ f0_0 p0 p1 p2 p3 p4 p5 = 1 := by
  have ex := Jvm.Kit.i32_mask (own_ushr p4 2) 7 (k := 3) (by decide) (by decide)
  have er : (own_rem (own_ushr p4 2 &&& 7) 5).toInt = (own_ushr p4 2 &&& 7).toInt % 5 := own_emod (by omega)
  have exx : ((1 : Int32) + own_rem (own_ushr p4 2 &&& 7) 5).toInt = 1 + (own_rem (own_ushr p4 2 &&& 7) 5).toInt := Jvm.Kit.i32_add (by rw [own_l1]; omega) (by rw [own_l1]; omega)
  have x1 : 1 ≤ ((1 : Int32) + own_rem (own_ushr p4 2 &&& 7) 5).toInt := by omega
  have ea := Jvm.Kit.i32_mask p0 255 (k := 8) (by decide) (by decide)
  have et := Jvm.Kit.i32_mask p4 3 (k := 2) (by decide) (by decide)
  have k : p4 &&& 3 = 0 ∨ p4 &&& 3 = 1 ∨ p4 &&& 3 = 2 ∨ p4 &&& 3 = 3 := by
    rw [own_eq, own_eq, own_eq, own_eq, own_l0, own_l1, own_l2, own_l3]
    omega
  show s0_0 p0 p1 p2 p3 p4 p5 ∧ own_W (p0 &&& 255) (p1 &&& 255) (p2 &&& 255) (p3 &&& 255) ((1 : Int32) + own_rem (own_ushr p4 2 &&& 7) 5) (f1_0 (own_set (own_set (own_set (own_set [(own_i2b (own_i2b p5)), (own_i2b (own_i2b p5)), (own_i2b (own_i2b p5)), (own_i2b (own_i2b p5)), (own_i2b (own_i2b p5)), (own_i2b (own_i2b p5)), (own_i2b (own_i2b p5)), (own_i2b (own_i2b p5))] (p4 &&& (3 : Int32)) (own_i2b (own_i2b p0))) ((p4 &&& (3 : Int32)) + (1 : Int32)) (own_i2b (own_i2b p1))) ((p4 &&& (3 : Int32)) + (2 : Int32)) (own_i2b (own_i2b p2))) ((p4 &&& (3 : Int32)) + (3 : Int32)) (own_i2b (own_i2b p3))) (p4 &&& 3) ((p4 &&& 3) + ((1 : Int32) + own_rem (own_ushr p4 2 &&& 7) 5))) = 1
  unfold s0_0
  generalize ((1 : Int32) + own_rem (own_ushr p4 2 &&& 7) 5) = x at *
  generalize p4 &&& 3 = t at *
  have gx : t + x - t = x := by rw [Int32.add_comm, Int32.add_sub_cancel]
  rcases k with rfl | rfl | rfl | rfl
  · refine ⟨⟨own_inl (n := 8) rfl ⟨by decide, by decide⟩, own_inl (n := 8) rfl ⟨by decide, by decide⟩, own_inl (n := 8) rfl ⟨by decide, by decide⟩, own_inl (n := 8) rfl ⟨by decide, by decide⟩, own_s1 rfl (by decide) (by decide), trivial⟩, ?_⟩
    exact own_mid (own_set (own_set (own_set (own_set [(own_i2b (own_i2b p5)), (own_i2b (own_i2b p5)), (own_i2b (own_i2b p5)), (own_i2b (own_i2b p5)), (own_i2b (own_i2b p5)), (own_i2b (own_i2b p5)), (own_i2b (own_i2b p5)), (own_i2b (own_i2b p5))] (0 : Int32) (own_i2b (own_i2b p0))) ((0 : Int32) + (1 : Int32)) (own_i2b (own_i2b p1))) ((0 : Int32) + (2 : Int32)) (own_i2b (own_i2b p2))) ((0 : Int32) + (3 : Int32)) (own_i2b (own_i2b p3))) 0 _ _ _ _ _ x (own_byte p0) (own_byte p1) (own_byte p2) (own_byte p3) gx x1 (by omega) (by omega)
  · refine ⟨⟨own_inl (n := 8) rfl ⟨by decide, by decide⟩, own_inl (n := 8) rfl ⟨by decide, by decide⟩, own_inl (n := 8) rfl ⟨by decide, by decide⟩, own_inl (n := 8) rfl ⟨by decide, by decide⟩, own_s1 rfl (by decide) (by decide), trivial⟩, ?_⟩
    exact own_mid (own_set (own_set (own_set (own_set [(own_i2b (own_i2b p5)), (own_i2b (own_i2b p5)), (own_i2b (own_i2b p5)), (own_i2b (own_i2b p5)), (own_i2b (own_i2b p5)), (own_i2b (own_i2b p5)), (own_i2b (own_i2b p5)), (own_i2b (own_i2b p5))] (1 : Int32) (own_i2b (own_i2b p0))) ((1 : Int32) + (1 : Int32)) (own_i2b (own_i2b p1))) ((1 : Int32) + (2 : Int32)) (own_i2b (own_i2b p2))) ((1 : Int32) + (3 : Int32)) (own_i2b (own_i2b p3))) 1 _ _ _ _ _ x (own_byte p0) (own_byte p1) (own_byte p2) (own_byte p3) gx x1 (by omega) (by omega)
  · refine ⟨⟨own_inl (n := 8) rfl ⟨by decide, by decide⟩, own_inl (n := 8) rfl ⟨by decide, by decide⟩, own_inl (n := 8) rfl ⟨by decide, by decide⟩, own_inl (n := 8) rfl ⟨by decide, by decide⟩, own_s1 rfl (by decide) (by decide), trivial⟩, ?_⟩
    exact own_mid (own_set (own_set (own_set (own_set [(own_i2b (own_i2b p5)), (own_i2b (own_i2b p5)), (own_i2b (own_i2b p5)), (own_i2b (own_i2b p5)), (own_i2b (own_i2b p5)), (own_i2b (own_i2b p5)), (own_i2b (own_i2b p5)), (own_i2b (own_i2b p5))] (2 : Int32) (own_i2b (own_i2b p0))) ((2 : Int32) + (1 : Int32)) (own_i2b (own_i2b p1))) ((2 : Int32) + (2 : Int32)) (own_i2b (own_i2b p2))) ((2 : Int32) + (3 : Int32)) (own_i2b (own_i2b p3))) 2 _ _ _ _ _ x (own_byte p0) (own_byte p1) (own_byte p2) (own_byte p3) gx x1 (by omega) (by omega)
  · refine ⟨⟨own_inl (n := 8) rfl ⟨by decide, by decide⟩, own_inl (n := 8) rfl ⟨by decide, by decide⟩, own_inl (n := 8) rfl ⟨by decide, by decide⟩, own_inl (n := 8) rfl ⟨by decide, by decide⟩, own_s1 rfl (by decide) (by decide), trivial⟩, ?_⟩
    exact own_mid (own_set (own_set (own_set (own_set [(own_i2b (own_i2b p5)), (own_i2b (own_i2b p5)), (own_i2b (own_i2b p5)), (own_i2b (own_i2b p5)), (own_i2b (own_i2b p5)), (own_i2b (own_i2b p5)), (own_i2b (own_i2b p5)), (own_i2b (own_i2b p5))] (3 : Int32) (own_i2b (own_i2b p0))) ((3 : Int32) + (1 : Int32)) (own_i2b (own_i2b p1))) ((3 : Int32) + (2 : Int32)) (own_i2b (own_i2b p2))) ((3 : Int32) + (3 : Int32)) (own_i2b (own_i2b p3))) 3 _ _ _ _ _ x (own_byte p0) (own_byte p1) (own_byte p2) (own_byte p3) gx x1 (by omega) (by omega)
theorem own_law (p0 p1 p2 p3 p4 p5 : Int32) : f0_0 p0 p1 p2 p3 p4 p5 = 1 := (own_both p0 p1 p2 p3 p4 p5).2
theorem own_safe (p0 p1 p2 p3 p4 p5 : Int32) : s0_0 p0 p1 p2 p3 p4 p5 := (own_both p0 p1 p2 p3 p4 p5).1

set_option maxRecDepth 65536 in
set_option maxHeartbeats 40000000 in
theorem comes_1 {Post : Tables → Env → Array Value → State → Outcome → State → Prop} (hpost : ∀ tb e args s v u, (limb_1_1.after args s (.returned v) u = true ∧ limb_1_2.after args s (.returned v) u = true) → FrameEnd s (.returned v) u (Jvm.fieldLocs frame_1_writes args s ++ Jvm.arrayLocs frame_1_arrays args s ++ Jvm.staticLocs frame_1_statics s) 16 128 → Post tb e args s (.returned v) u) :
    ArmFor flags0 classFile x code maxLocals ret World_1 tables_1 room_1 Calls_1 rest_1 Pre_1 Post := by
  intro l hfl _ _ p e ha hc hk s m args below hf hA hF happ hP
  obtain ⟨hcalls, hrest, hpre⟩ := hP
  obtain ⟨-, -, -, hnamed, -, -, -, hat⟩ := (Spec.applies_iff hf).mp happ
  obtain ⟨hg, hn⟩ := and_e (Cond.before_iff.mp (show (Jvm.Cond.and given_1 narrow_1).before args s = true from hpre))
  obtain ⟨g1a, g1b⟩ := and_e hg
  obtain ⟨g2a, g2b⟩ := and_e g1b
  obtain ⟨g3a, g3b⟩ := and_e g2b
  obtain ⟨g4a, g4b⟩ := and_e g3b
  obtain ⟨g5a, g5b⟩ := and_e g4b
  obtain ⟨g6a, g6b⟩ := and_e g5b
  obtain ⟨w0, w1, w2, w3, w4, w5, rfl⟩ : ∃ w0 w1 w2 w3 w4 w5 : Value, args = #[w0, w1, w2, w3, w4, w5] := by
    have hs : args.size = 6 := by simpa [Cond.value, given_1] using g1a
    obtain ⟨L⟩ := args
    match L, hs with
    | [w0, w1, w2, w3, w4, w5], _ => exact ⟨w0, w1, w2, w3, w4, w5, rfl⟩
  have hw := fun d (hd : d ∈ tables_1) => atoms_spec (ws := Jvm.Cond.code x code maxLocals ret :: tables_1) hat d (List.mem_cons_of_mem _ hd)
  obtain ⟨i0, ei0⟩ := is_v g2a
  obtain rfl : w0 = (.int i0) := Option.some.inj ei0
  obtain ⟨i1, ei1⟩ := is_v g3a
  obtain rfl : w1 = (.int i1) := Option.some.inj ei1
  obtain ⟨i2, ei2⟩ := is_v g4a
  obtain rfl : w2 = (.int i2) := Option.some.inj ei2
  obtain ⟨i3, ei3⟩ := is_v g5a
  obtain rfl : w3 = (.int i3) := Option.some.inj ei3
  obtain ⟨i4, ei4⟩ := is_v g6a
  obtain rfl : w4 = (.int i4) := Option.some.inj ei4
  obtain ⟨i5, ei5⟩ := is_v g6b
  obtain rfl : w5 = (.int i5) := Option.some.inj ei5
  obtain ⟨n, o, h1, h2, h3, v, L, rfl, ⟨rfl, rfl⟩, hq⟩ := rm0 l s _ hw tables_1 i0 i1 i2 i3 i4 i5 s.heap (own_safe i0 i1 i2 i3 i4 i5) p e ha hc hk s m _ below hf ((Spec.applies_iff_loose hf).mp happ).1 ⟨rfl, State.Warmed39.refl s, rfl⟩ trivial
  have hv1 := own_law i0 i1 i2 i3 i4 i5
  refine ⟨n, _, h1, h2, h3, hpost _ _ _ _ _ _ ⟨Cond.after_iff.mpr rfl, Cond.after_iff.mpr (eq_i res_at (Term.int_eval (1)) (by rw [hv1]) rfl)⟩ ⟨hq.1, hq.2.1, (hq.2.2.sift fun y hy => nomatch hy).mono (by decide) (by decide)⟩⟩
theorem main_1_1 : Claimed_1_1 := comes_1 fun _ _ _ _ _ _ h hF => ⟨h.1, hF⟩
theorem main_1_2 : Claimed_1_2 := comes_1 fun _ _ _ _ _ _ h hF => ⟨h.2, hF⟩
end Jvm.Pilot.@@N@@
namespace Jvm.Pilot.@@N@@
open Jvm Jvm.ClassFile Sem Op Lib Jvm.Free Jvm.Stand Jvm.Pilot.@@N@@.Jvm.D
/-! MADE BY PROGRAM (witnessworld.py) out of the Statement's table words and the real class files: 9 classes; the members and pool entries that the words name. The judged class is class 1, her method 2. -/
namespace start1
open Jvm.ClassFile
def u (s : String) : CpInfo := .utf8 (stringToUtf16 s)
/-- a pool by its gaps: so many unusable entries, then the entry; so many at the end -/
def gap : Nat → List CpInfo → List CpInfo
  | 0, r => r
  | n + 1, r => .unusable :: gap n r
def poolList (es : List (Nat × CpInfo)) (last : Nat) : List CpInfo := es.foldr (fun e r => gap e.1 (e.2 :: r)) (gap last [])
def pool (es : List (Nat × CpInfo)) (last : Nat) : Array CpInfo := ⟨poolList es last⟩
def fileOf (pool : Array CpInfo) (this : Nat) (attrs : Array Attribute := #[]) (ms : Array MethodInfo := #[]) (fl : Nat := 33) (sup : Nat := 0) (ifs : Array Nat := #[]) (fds : Array FieldInfo := #[]) : ClassFile where
  minorVersion := 0
  majorVersion := 65
  constantPool := pool
  accessFlags := fl
  thisClass := this
  superClass := sup
  interfaces := ifs
  fields := fds
  methods := ms
  attributes := attrs
def plain (name : String) (sup : Option ClassId) : Class where
  name := name
  kind := .ordinary
  loader := none
  accessFlags := 33
  super := sup
  interfaces := #[]
  cf := none
  fields := #[]
  methods := #[]
  instanceTypes := #[]
  staticTypes := #[]
  resolved := #[]
  callSites := []
  init := .initialized
  statics := none
  mirror := none

def pool0 : Array CpInfo := pool [(5, u "<init>"), (0, u "()V"), (1, .class_ 10), (1, u "java/lang/Object")] 113

def k0m0 : Method := { name := "<init>", desc := "()V", sig := { parameters := [], returnType := none }, accessFlags := 1, code := none }
/-- java/lang/Object -/
def k0 : Class := { plain "java/lang/Object" none with
  accessFlags := 33
  interfaces := #[]
  cf := some (fileOf pool0 8 #[] #[{ accessFlags := 1, nameIndex := 5, descriptorIndex := 6, attributes := #[] }] 33 0 #[] #[])
  fields := #[]
  methods := #[k0m0]
  instanceTypes := #[]
  staticTypes := #[]
  resolved := Array.replicate 124 none
  statics := none }

def pool1 : Array CpInfo := pool [(2, .class_ 4), (1, u "java/lang/Object"), (0, u "<init>"), (0, u "()V"), (0, .methodref 8 9), (0, .class_ 10), (0, .nameAndType 11 12), (0, u "com/example/ledgerline/ledgerline/cli/MessageLine"), (0, u "utf8Length"), (0, u "([BII)I"), (0, .methodref 14 15), (0, .class_ 16), (0, .nameAndType 17 18), (0, u "com/example/ledgerline/ledgerline/cli/MessageLineUtf8LengthPinLaw"), (0, u "in"), (0, u "(III)Z"), (3, u "law"), (0, u "(IIIIII)Z")] 4

def k1m0 : Method := { name := "<init>", desc := "()V", sig := { parameters := [], returnType := none }, accessFlags := 2, code := none }
def k1c1 : Code := { maxStack := 2, maxLocals := 3, code := method_2_code, exceptionTable := #[], attributes := #[] }
def k1m1 : Method := { name := "in", desc := "(III)Z", sig := { parameters := [.int, .int, .int], returnType := some .boolean }, accessFlags := 10, code := some k1c1 }
def k1c2 : Code := { maxStack := 4, maxLocals := 18, code := code, exceptionTable := #[], attributes := #[] }
def k1m2 : Method := { name := "law", desc := "(IIIIII)Z", sig := { parameters := [.int, .int, .int, .int, .int, .int], returnType := some .boolean }, accessFlags := 9, code := some k1c2 }
/-- com/example/ledgerline/ledgerline/cli/MessageLineUtf8LengthPinLaw -/
def k1 : Class := { plain "com/example/ledgerline/ledgerline/cli/MessageLineUtf8LengthPinLaw" (some 0) with
  accessFlags := 49
  interfaces := #[]
  cf := some (fileOf pool1 14 #[] #[{ accessFlags := 2, nameIndex := 5, descriptorIndex := 6, attributes := #[] }, { accessFlags := 10, nameIndex := 17, descriptorIndex := 18, attributes := #[] }, { accessFlags := 9, nameIndex := 22, descriptorIndex := 23, attributes := #[] }] 49 2 #[] #[])
  fields := #[]
  methods := #[k1m0, k1m1, k1m2]
  instanceTypes := #[]
  staticTypes := #[]
  resolved := Array.replicate 28 none
  statics := none }

def pool2 : Array CpInfo := pool [(2, .class_ 4), (1, u "java/lang/Object"), (0, u "<init>"), (0, u "()V"), (0, .class_ 8), (0, u "com/example/ledgerline/ledgerline/cli/MessageLine"), (66, u "FIELDS"), (0, u "Ljava/util/List;"), (6, u "BODY"), (0, u "I"), (7, u "HEX"), (0, u "Ljava/util/HexFormat;"), (2, u "ESCAPED_BYTES"), (0, u "Ljava/lang/String;"), (3, u "ESCAPE_LETTERS"), (2, u "EACH_TOP_BIT"), (0, u "J"), (0, u "EACH_LOW_SEVEN"), (0, u "EACH_0X72"), (8, u "utf8Length"), (0, u "([BII)I"), (11, .class_ 130), (0, u "com/example/ledgerline/ledgerline/cli/MessageLine$RepeatedField"), (0, .class_ 132), (0, u "com/example/ledgerline/ledgerline/cli/MessageLine$Reader"), (0, .class_ 134), (0, u "com/example/ledgerline/ledgerline/cli/MessageLine$Writer")] 18

def k2m0 : Method := { name := "<init>", desc := "()V", sig := { parameters := [], returnType := none }, accessFlags := 2, code := none }
def k2c1 : Code := { maxStack := 3, maxLocals := 10, code := prog_144_method_5_code, exceptionTable := #[], attributes := #[] }
def k2m1 : Method := { name := "utf8Length", desc := "([BII)I", sig := { parameters := [(.array .byte), .int, .int], returnType := some .int }, accessFlags := 8, code := some k2c1 }
/-- com/example/ledgerline/ledgerline/cli/MessageLine -/
def k2 : Class := { plain "com/example/ledgerline/ledgerline/cli/MessageLine" (some 0) with
  accessFlags := 48
  interfaces := #[]
  cf := some (fileOf pool2 7 #[.nestMembers #[129, 131, 133]] #[{ accessFlags := 2, nameIndex := 5, descriptorIndex := 6, attributes := #[] }, { accessFlags := 8, nameIndex := 116, descriptorIndex := 117, attributes := #[] }] 48 2 #[] #[{ accessFlags := 26, nameIndex := 75, descriptorIndex := 76, attributes := #[] }, { accessFlags := 26, nameIndex := 83, descriptorIndex := 84, attributes := #[] }, { accessFlags := 26, nameIndex := 96, descriptorIndex := 97, attributes := #[] }, { accessFlags := 26, nameIndex := 101, descriptorIndex := 97, attributes := #[] }, { accessFlags := 26, nameIndex := 92, descriptorIndex := 93, attributes := #[] }, { accessFlags := 26, nameIndex := 104, descriptorIndex := 105, attributes := #[] }, { accessFlags := 26, nameIndex := 106, descriptorIndex := 105, attributes := #[] }, { accessFlags := 26, nameIndex := 107, descriptorIndex := 105, attributes := #[] }])
  fields := #[{ name := "FIELDS", type := (.object "java/util/List"), accessFlags := 26, slot := 0, constantValue := 0 }, { name := "BODY", type := .int, accessFlags := 26, slot := 1, constantValue := 0 }, { name := "ESCAPED_BYTES", type := (.object "java/lang/String"), accessFlags := 26, slot := 2, constantValue := 0 }, { name := "ESCAPE_LETTERS", type := (.object "java/lang/String"), accessFlags := 26, slot := 3, constantValue := 0 }, { name := "HEX", type := (.object "java/util/HexFormat"), accessFlags := 26, slot := 4, constantValue := 0 }, { name := "EACH_TOP_BIT", type := .long, accessFlags := 26, slot := 5, constantValue := 0 }, { name := "EACH_LOW_SEVEN", type := .long, accessFlags := 26, slot := 6, constantValue := 0 }, { name := "EACH_0X72", type := .long, accessFlags := 26, slot := 7, constantValue := 0 }]
  methods := #[k2m0, k2m1]
  instanceTypes := #[]
  staticTypes := #[(.object "java/util/List"), .int, (.object "java/lang/String"), (.object "java/lang/String"), (.object "java/util/HexFormat"), .long, .long, .long]
  resolved := Array.replicate 153 none
  statics := none }

def pool3 : Array CpInfo := pool [(1, u "java/lang/Cloneable"), (0, .class_ 1), (0, u "java/lang/Object"), (0, .class_ 3)] 3

/-- java/lang/Cloneable -/
def k3 : Class := { plain "java/lang/Cloneable" (some 0) with
  accessFlags := 1537
  interfaces := #[]
  cf := some (fileOf pool3 2 #[] #[] 1537 4 #[] #[])
  fields := #[]
  methods := #[]
  instanceTypes := #[]
  staticTypes := #[]
  resolved := Array.replicate 8 none
  statics := none }

def pool4 : Array CpInfo := pool [(1, u "java/io/Serializable"), (0, .class_ 1), (0, u "java/lang/Object"), (0, .class_ 3)] 3

/-- java/io/Serializable -/
def k4 : Class := { plain "java/io/Serializable" (some 0) with
  accessFlags := 1537
  interfaces := #[]
  cf := some (fileOf pool4 2 #[] #[] 1537 4 #[] #[])
  fields := #[]
  methods := #[]
  instanceTypes := #[]
  staticTypes := #[]
  resolved := Array.replicate 8 none
  statics := none }

/-- the primitive byte -/
def k5 : Class := { plain "byte" none with kind := .primitive 'B', accessFlags := 0x411 }
/-- [B -/
def k6 : Class := { plain "[B" (some 0) with kind := .array 5 .byte, interfaces := #[3, 4], accessFlags := 1041 }

/-- the primitive int -/
def k7 : Class := { plain "int" none with kind := .primitive 'I', accessFlags := 0x411 }
/-- [I -/
def k8 : Class := { plain "[I" (some 0) with kind := .array 7 .int, interfaces := #[3, 4], accessFlags := 1041 }

def heap : Heap := #[]
def classes : Array Class := #[k0, k1, k2, k3, k4, k5, k6, k7, k8]
def interned : List (Array UInt16 × Addr) := []
def slotsUsed : Nat := 0
def theMethod : MethodId := ⟨1, 2⟩
def args0 : Array Value := #[.int 5, .int 5, .int 5, .int 5, .int 5, .int 5]
def aboutOver (below : List Frame) : State where
  vm := { classes := classes, interned := interned.toArray }
  heap := heap
  slotsUsed := slotsUsed
  threads := #[{ frames := .invoking theMethod args0 :: below }]
def below0 : List Frame := [.native { method := ⟨0, 0⟩, args := #[] }]
def about1 : State := aboutOver below0
def p0 : Program := .bare "" "" ""
def e0 : Env := launch0.env 0 0 0
theorem w_frames : about1.frames = Frame.invoking theMethod args0 :: below0 := rfl
set_option maxRecDepth 65536 in
theorem w_args : argsFit about1.vm theMethod args0 = true := by decide +kernel
set_option maxRecDepth 65536 in
theorem w_heap : heapFits about1 = true := by decide +kernel
set_option maxRecDepth 65536 in
theorem w_runnable : about1.curStatus? = some .runnable := by decide +kernel
set_option maxRecDepth 65536 in
theorem w_alone : about1.alone = true := by decide +kernel
set_option maxRecDepth 65536 in
theorem w_named : about1.methodNamed? x = some theMethod := by decide +kernel
set_option maxRecDepth 65536 in
theorem w_hears : about1.hears theMethod below0 = true := by decide +kernel
set_option maxRecDepth 65536 in
theorem w_ripe : about1.ripe theMethod args0 below0 = true := by decide +kernel
theorem w_running : about1.status = .running := rfl
set_option maxRecDepth 65536 in
theorem w_room : about1.hasRoom e0.platform room_1 = true :=
  launch0.hasRoom_least _ room_1 (by decide +kernel) (by decide +kernel) (by decide +kernel) (by decide +kernel) (by decide +kernel) (by decide +kernel)
theorem allAtoms_all (ts : List Jvm.Cond) (a : Array Jvm.Value) (st : Jvm.State) : (allAtoms ts).before a st = ts.all (fun c => c.before a st) := by
  induction ts with
  | nil => rfl
  | cons c t ih =>
    show (Jvm.Cond.and c (allAtoms t)).before a st = _
    rw [Jvm.Cond.before_and, ih, List.all_cons]
def words1 : List Jvm.Cond := Jvm.Cond.code x code maxLocals ret :: tables_1
/-- a 'code' word, met by the world's own term for the bytes: nothing is compared byte by byte -/
theorem code_word {y : MethodName} {bytes : ByteArray} {mx : Nat} {rt : Option FieldType} {a : Array Value} {s : State} {m : MethodId} {meth : Method} {c : Code} (h1 : s.methodNamed? y = some m) (h2 : s.vm.method? m = some meth) (h3 : meth.code = some c) (h4 : c.code = bytes)
    (h5 : (c.maxLocals == mx && c.exceptionTable.isEmpty && decide (c.maxStack ≤ mostOperands) && decide (meth.sig.returnType = rt) && !meth.locks && decide (parseMethodDescriptor y.desc = some meth.sig)) = true) : (Jvm.Cond.code y bytes mx rt).before a s = true := by
  simp only [Bool.and_eq_true, beq_iff_eq, Bool.not_eq_true', decide_eq_true_eq] at h5
  obtain ⟨⟨⟨⟨⟨g1, g2⟩, g3⟩, g4⟩, g5⟩, g6⟩ := h5
  simp [Cond.before, Cond.holds, Cond.value, h1, h2, h3, h4, g1, g2, g3, g4, g5, g6]
def isCode : Jvm.Cond → Bool
  | .code _ _ _ _ => true
  | _ => false
theorem all_split {L : List Jvm.Cond} {P : Jvm.Cond → Bool} (h1 : L.all (fun c => isCode c || P c) = true) (h2 : ∀ c ∈ L.filter isCode, P c = true) : L.all P = true := by
  refine List.all_eq_true.mpr fun c hc => ?_
  have h := List.all_eq_true.mp h1 c hc
  rcases Bool.eq_false_or_eq_true (isCode c) with hi | hi
  · exact h2 c (List.mem_filter.mpr ⟨hc, hi⟩)
  · simpa [hi] using h
set_option maxRecDepth 65536 in
theorem w_c0 : (Jvm.Cond.code x code maxLocals ret).before args0 about1 = true := code_word (m := ⟨1, 2⟩) (meth := k1m2) (c := k1c2) (by decide +kernel) rfl rfl rfl (by decide +kernel)
set_option maxRecDepth 65536 in
theorem w_c1 : (Jvm.Cond.code ({ cls := "com/example/ledgerline/ledgerline/cli/MessageLine", name := "utf8Length", desc := "([BII)I" } : Jvm.MethodName) prog_144_method_5_code (10 : Nat) (Option.some Jvm.ClassFile.FieldType.int)).before args0 about1 = true := code_word (m := ⟨2, 1⟩) (meth := k2m1) (c := k2c1) (by decide +kernel) rfl rfl rfl (by decide +kernel)
set_option maxRecDepth 65536 in
theorem w_c2 : (Jvm.Cond.code ({ cls := "com/example/ledgerline/ledgerline/cli/MessageLineUtf8LengthPinLaw", name := "in", desc := "(III)Z" } : Jvm.MethodName) method_2_code (3 : Nat) (Option.some Jvm.ClassFile.FieldType.boolean)).before args0 about1 = true := code_word (m := ⟨1, 1⟩) (meth := k1m1) (c := k1c1) (by decide +kernel) rfl rfl rfl (by decide +kernel)
def codes1 : List Jvm.Cond := [Jvm.Cond.code x code maxLocals ret, Jvm.Cond.code ({ cls := "com/example/ledgerline/ledgerline/cli/MessageLine", name := "utf8Length", desc := "([BII)I" } : Jvm.MethodName) prog_144_method_5_code (10 : Nat) (Option.some Jvm.ClassFile.FieldType.int), Jvm.Cond.code ({ cls := "com/example/ledgerline/ledgerline/cli/MessageLineUtf8LengthPinLaw", name := "in", desc := "(III)Z" } : Jvm.MethodName) method_2_code (3 : Nat) (Option.some Jvm.ClassFile.FieldType.boolean)]
set_option maxRecDepth 65536 in
theorem codes_eq : words1.filter isCode = codes1 := rfl
theorem w_codes : ∀ c ∈ words1.filter isCode, c.before args0 about1 = true := by
  rw [codes_eq]
  intro c hc
  simp only [codes1, List.mem_cons, List.not_mem_nil, or_false] at hc
  rcases hc with rfl | rfl | rfl
  · exact w_c0
  · exact w_c1
  · exact w_c2
set_option maxRecDepth 65536 in
theorem w_t1 : words1.all (fun c => isCode c || c.before args0 about1) = true := by decide +kernel
theorem w_tables : (allAtoms (Jvm.Cond.code x code maxLocals ret :: tables_1)).before args0 about1 = true := by
  rw [allAtoms_all]
  show words1.all (fun c => c.before args0 about1) = true
  refine all_split ?_ w_codes
  rw [w_t1]
set_option maxRecDepth 65536 in
theorem w_case : (Jvm.Cond.and given_1 narrow_1).before args0 about1 = true := by decide +kernel
theorem w_applies : (headSpec (Jvm.Cond.code x code maxLocals ret :: tables_1) room_1).applies x e0.platform about1 = true :=
  (Spec.applies_iff w_frames).mpr ⟨w_running, w_runnable, w_alone, w_named, w_hears, w_ripe, w_room, w_tables⟩
theorem atStart : AtStart classFile x code maxLocals ret World_1 tables_1 room_1 Calls_1 rest_1 Pre_1 launch0 p0 e0 about1 theMethod args0 below0 :=
  ⟨lists_1, trivial, launch0.admits_env _ _ _, launch0.least_env, fairChoices_fair.cas, fairChoices_fair.clock, w_frames, w_args, w_heap, w_applies, trivial, trivial, w_case⟩
end start1
theorem witness_1 : WitnessClaimed_1 := ⟨start1.p0, start1.e0, start1.about1, start1.theMethod, start1.args0, start1.below0, start1.atStart⟩
end Jvm.Pilot.@@N@@
