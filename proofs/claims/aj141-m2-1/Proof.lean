import JvmDerived
import JvmDerived.Pilot.@@N@@Statement
import JvmDerived.Pilot.@@N@@Code
set_option linter.unusedVariables false
set_option linter.unusedSimpArgs false
@@BLOCK:NumsL.lean.txt@@
namespace Jvm.RoadKit
open Sem ClassFile Op Lib Jvm.Stand Jvm.Free Jvm.LawKit
section New
variable {p : Program} {l : Launch} {e : Env} {R : Room} {s : State} {m : MethodId} {args : Array Value} {below : List Frame} {meth : Method} {c : Code} {T : State} {locs : List Loc} {cells slots : Nat}
theorem retI (X : Stand p l e R s m args below meth c T locs cells slots) (hx : p.tables.exec = Jvm.exec) {pc : Nat} {Ls : Array Slot} {z : Int32} {rest : List Value} (hret : meth.sig.returnType = some .int) (hd : decode c.code pc = .ok (.ireturn, 1)) {fs : List Frame}
    (hl : ∀ (f : JFrame) (acts : List Action), f.method = m → f.locked = none → f.entered = [] → (doReturn e (T.setTop f) acts (some (.int z))).1 = T.setFrames fs) : Steps p.tables e below (T.setTop (mkF m pc Ls (.int z :: rest))) (T.setFrames fs) := by
  have hm' : T.vm.method? m = some meth := X.method'
  have hn : narrow .int (.int z) = .int z := rfl
  show Steps p.tables e below (T.setTop { method := m, pc := pc, locals := Ls, stack := _ :: rest, locked := none }) _
  jvm_step X.here [X.here.top, hx, hd, hm', hret, hn]
  first | (intro acts; rw [hl _ acts rfl rfl rfl]) | rw [hl _ _ rfl rfl rfl]
  exact Steps.refl _
end New
end Jvm.RoadKit
namespace Jvm.Pilot.@@N@@
open Jvm Jvm.ClassFile Sem Op Lib Jvm.Free Jvm.Stand Jvm.LawKit Jvm.RoadKit Bundle Jvm.Pilot.@@N@@.Jvm.D
/-! OWN KIT: a run that comes to an end, one law an instruction, arrays as lists (written once, pasted by wip/gen/lawgen.py) -/
section OwnKit
variable {p : Program} {l : Launch} {e : Env} {R : Room} {s : State} {m : MethodId} {args : Array Value} {below : List Frame} {meth : Method} {c : Code} {T T' : State} {locs : List Loc} {cells slots : Nat} {Z : State} {a0 : Array Value} {h h' : Heap}
variable {Q : Outcome → State → Prop} {K : Option Value → Heap → List Loc → Prop} {cc ss : Nat}
variable {pc pc' pc1 pc2 : Nat} {Ls l' : Array Slot} {rest : List Value} {x y : Int32} {u w : Int64}
/-- from T, with g on top, the run comes to an end of which Q holds -/
def own_Go (p : Program) (e : Env) (below : List Frame) (Q : Outcome → State → Prop) (T : State) (g : JFrame) : Prop :=
  ∃ s₂ o, Steps p.tables e below (T.setTop g) s₂ ∧ s₂.status = .running ∧ Ended s₂ below o ∧ Q o s₂
/-- what a body's end says: it returned, K holds of the value, the heap and the old places written -/
def own_Q (s : State) (K : Option Value → Heap → List Loc → Prop) (cc ss : Nat) : Outcome → State → Prop := fun o t => ∃ v L, o = .returned v ∧ K v t.heap L ∧ FrameEnd s o t L cc ss
/-- what stands fast in one body -/
def own_Cx (p : Program) (s : State) (m : MethodId) (meth : Method) (c : Code) (Z : State) (a0 : Array Value) (bytes : ByteArray) (ml : Nat) (own : String) (rt : Option FieldType) (nm : String) : Prop :=
  p.tables.exec = Jvm.exec ∧ Z.Warmed39 s.vm ∧ (∀ d ∈ tables_1, d.before a0 Z = true) ∧ c.code = bytes ∧ c.maxLocals = ml ∧ s.vm.findClass own = some m.cls ∧ meth.sig.returnType = rt ∧ meth.locks = false ∧ meth.name = nm
theorem own_go {g g' : JFrame} (st : ∀ t, Steps p.tables e below (T'.setTop g') t → Steps p.tables e below (T.setTop g) t) (k : own_Go p e below Q T' g') : own_Go p e below Q T g := by
  obtain ⟨s₂, o, h1, h2⟩ := k
  exact ⟨s₂, o, st _ h1, h2⟩
theorem o_iloadN (X : Stand p l e R s m args below meth c T locs cells slots) (hx : p.tables.exec = Jvm.exec) {k : Fin 4} {v : Int32} (hd : decode c.code pc = .ok (.iload_n k, 1)) (hl : Ls[k.val]? = some (.val (.int v))) (hp : pc + 1 = pc') (q : own_Go p e below Q T (mkF m pc' Ls (.int v :: rest))) : own_Go p e below Q T (mkF m pc Ls rest) := by
  subst hp; exact own_go (fun t k' => XS.iloadN X.here hx rfl hd hl k') q
theorem o_iload (X : Stand p l e R s m args below meth c T locs cells slots) (hx : p.tables.exec = Jvm.exec) {k : Nat} {v : Int32} (hd : decode c.code pc = .ok (.iload k, 2)) (hl : Ls[k]? = some (.val (.int v))) (hp : pc + 2 = pc') (q : own_Go p e below Q T (mkF m pc' Ls (.int v :: rest))) : own_Go p e below Q T (mkF m pc Ls rest) := by
  subst hp; exact own_go (fun t k' => XS.iload X.here hx rfl hd hl k') q
theorem o_lloadN (X : Stand p l e R s m args below meth c T locs cells slots) (hx : p.tables.exec = Jvm.exec) {k : Fin 4} {v : Int64} (hd : decode c.code pc = .ok (.lload_n k, 1)) (hl : Ls[k.val]? = some (.val (.long v))) (hp : pc + 1 = pc') (q : own_Go p e below Q T (mkF m pc' Ls (.long v :: rest))) : own_Go p e below Q T (mkF m pc Ls rest) := by
  subst hp; exact own_go (fun t k' => XS.lloadN X.here hx rfl hd hl k') q
theorem o_lload (X : Stand p l e R s m args below meth c T locs cells slots) (hx : p.tables.exec = Jvm.exec) {k : Nat} {v : Int64} (hd : decode c.code pc = .ok (.lload k, 2)) (hl : Ls[k]? = some (.val (.long v))) (hp : pc + 2 = pc') (q : own_Go p e below Q T (mkF m pc' Ls (.long v :: rest))) : own_Go p e below Q T (mkF m pc Ls rest) := by
  subst hp; exact own_go (fun t k' => XS.lload X.here hx rfl hd hl k') q
theorem o_aloadN (X : Stand p l e R s m args below meth c T locs cells slots) (hx : p.tables.exec = Jvm.exec) {k : Fin 4} {v : Value} (hd : decode c.code pc = .ok (.aload_n k, 1)) (hl : Ls[k.val]? = some (.val v)) (hv : v.isRef = true) (hp : pc + 1 = pc') (q : own_Go p e below Q T (mkF m pc' Ls (v :: rest))) : own_Go p e below Q T (mkF m pc Ls rest) := by
  subst hp; exact own_go (fun t k' => XS.aloadN X.here hx rfl hd hl hv k') q
theorem o_aload (X : Stand p l e R s m args below meth c T locs cells slots) (hx : p.tables.exec = Jvm.exec) {k : Nat} {v : Value} (hd : decode c.code pc = .ok (.aload k, 2)) (hl : Ls[k]? = some (.val v)) (hv : v.isRef = true) (hp : pc + 2 = pc') (q : own_Go p e below Q T (mkF m pc' Ls (v :: rest))) : own_Go p e below Q T (mkF m pc Ls rest) := by
  subst hp; exact own_go (fun t k' => XS.aload X.here hx rfl hd hl hv k') q
theorem o_istoreN (X : Stand p l e R s m args below meth c T locs cells slots) (hx : p.tables.exec = Jvm.exec) {k : Fin 4} (hd : decode c.code pc = .ok (.istore_n k, 1)) (hl : storeLocals Ls k.val (.int x) = some l') (hp : pc + 1 = pc') (q : own_Go p e below Q T (mkF m pc' l' rest)) : own_Go p e below Q T (mkF m pc Ls (.int x :: rest)) := by
  subst hp; exact own_go (fun t k' => XS.istoreN X.here hx rfl hd rfl hl k') q
theorem o_istore (X : Stand p l e R s m args below meth c T locs cells slots) (hx : p.tables.exec = Jvm.exec) {k : Nat} (hd : decode c.code pc = .ok (.istore k, 2)) (hl : storeLocals Ls k (.int x) = some l') (hp : pc + 2 = pc') (q : own_Go p e below Q T (mkF m pc' l' rest)) : own_Go p e below Q T (mkF m pc Ls (.int x :: rest)) := by
  subst hp; exact own_go (fun t k' => XS.istore X.here hx rfl hd rfl hl k') q
theorem o_lstoreN (X : Stand p l e R s m args below meth c T locs cells slots) (hx : p.tables.exec = Jvm.exec) {k : Fin 4} (hd : decode c.code pc = .ok (.lstore_n k, 1)) (hl : storeLocals Ls k.val (.long u) = some l') (hp : pc + 1 = pc') (q : own_Go p e below Q T (mkF m pc' l' rest)) : own_Go p e below Q T (mkF m pc Ls (.long u :: rest)) := by
  subst hp; exact own_go (fun t k' => XS.lstoreN X.here hx rfl hd rfl hl k') q
theorem o_lstore (X : Stand p l e R s m args below meth c T locs cells slots) (hx : p.tables.exec = Jvm.exec) {k : Nat} (hd : decode c.code pc = .ok (.lstore k, 2)) (hl : storeLocals Ls k (.long u) = some l') (hp : pc + 2 = pc') (q : own_Go p e below Q T (mkF m pc' l' rest)) : own_Go p e below Q T (mkF m pc Ls (.long u :: rest)) := by
  subst hp; exact own_go (fun t k' => XS.lstore X.here hx rfl hd rfl hl k') q
theorem o_astoreN (X : Stand p l e R s m args below meth c T locs cells slots) (hx : p.tables.exec = Jvm.exec) {k : Fin 4} {v : Value} (hd : decode c.code pc = .ok (.astore_n k, 1)) (hv : v.isRef = true) (hl : storeLocals Ls k.val v = some l') (hp : pc + 1 = pc') (q : own_Go p e below Q T (mkF m pc' l' rest)) : own_Go p e below Q T (mkF m pc Ls (v :: rest)) := by
  subst hp; exact own_go (fun t k' => XS.astoreN X.here hx rfl hd rfl hv hl k') q
theorem o_astore (X : Stand p l e R s m args below meth c T locs cells slots) (hx : p.tables.exec = Jvm.exec) {k : Nat} {v : Value} (hd : decode c.code pc = .ok (.astore k, 2)) (hv : v.isRef = true) (hl : storeLocals Ls k v = some l') (hp : pc + 2 = pc') (q : own_Go p e below Q T (mkF m pc' l' rest)) : own_Go p e below Q T (mkF m pc Ls (v :: rest)) := by
  subst hp; exact own_go (fun t k' => XS.astore X.here hx rfl hd rfl hv hl k') q
theorem o_iconst (X : Stand p l e R s m args below meth c T locs cells slots) (hx : p.tables.exec = Jvm.exec) {i : Int} (hd : decode c.code pc = .ok (.iconst i, 1)) (hv : Int32.ofInt i = x) (hp : pc + 1 = pc') (q : own_Go p e below Q T (mkF m pc' Ls (.int x :: rest))) : own_Go p e below Q T (mkF m pc Ls rest) := by
  subst hp hv; exact own_go (fun t k' => XS.iconst X.here hx rfl hd k') q
theorem o_bipush (X : Stand p l e R s m args below meth c T locs cells slots) (hx : p.tables.exec = Jvm.exec) {i : Int} (hd : decode c.code pc = .ok (.bipush i, 2)) (hv : (Int8.ofInt i).toInt32 = x) (hp : pc + 2 = pc') (q : own_Go p e below Q T (mkF m pc' Ls (.int x :: rest))) : own_Go p e below Q T (mkF m pc Ls rest) := by
  subst hp hv; exact own_go (fun t k' => XS.bipush X.here hx rfl hd k') q
theorem o_sipush (X : Stand p l e R s m args below meth c T locs cells slots) (hx : p.tables.exec = Jvm.exec) {i : Int} (hd : decode c.code pc = .ok (.sipush i, 3)) (hv : (Int16.ofInt i).toInt32 = x) (hp : pc + 3 = pc') (q : own_Go p e below Q T (mkF m pc' Ls (.int x :: rest))) : own_Go p e below Q T (mkF m pc Ls rest) := by
  subst hp hv; exact own_go (fun t k' => XS.sipush X.here hx rfl hd k') q
theorem o_lconst (X : Stand p l e R s m args below meth c T locs cells slots) (hx : p.tables.exec = Jvm.exec) {k : Fin 2} (hd : decode c.code pc = .ok (.lconst k, 1)) (hv : Int64.ofNat k = u) (hp : pc + 1 = pc') (q : own_Go p e below Q T (mkF m pc' Ls (.long u :: rest))) : own_Go p e below Q T (mkF m pc Ls rest) := by
  subst hp hv; exact own_go (fun t k' => XS.lconst X.here hx rfl hd k') q
theorem o_ldcI (X : Stand p l e R s m args below meth c T locs cells slots) (hx : p.tables.exec = Jvm.exec) (hZ : Z.Warmed39 s.vm) {own : String} {index : Nat} (hown : s.vm.findClass own = some m.cls) (w1 : (Cond.constant own index x).before a0 Z = true) (hd : decode c.code pc = .ok (.ldc index, 2)) (hp : pc + 2 = pc') (q : own_Go p e below Q T (mkF m pc' Ls (.int x :: rest))) : own_Go p e below Q T (mkF m pc Ls rest) := by
  subst hp; exact own_go (fun t k' => X.ldcInt hx hown (mvT hZ w1) (g := mkF m pc Ls rest) rfl hd t k') q
theorem o_ldcL (X : Stand p l e R s m args below meth c T locs cells slots) (hx : p.tables.exec = Jvm.exec) (hZ : Z.Warmed39 s.vm) {own : String} {index : Nat} (hown : s.vm.findClass own = some m.cls) (w1 : (Cond.constantLong own index u).before a0 Z = true) (hd : decode c.code pc = .ok (.ldc2_w index, 3)) (hp : pc + 3 = pc') (q : own_Go p e below Q T (mkF m pc' Ls (.long u :: rest))) : own_Go p e below Q T (mkF m pc Ls rest) := by
  subst hp; exact own_go (fun t k' => X.ldc2Long hx hown (mvT hZ w1) (g := mkF m pc Ls rest) rfl hd t k') q
theorem o_iadd (X : Stand p l e R s m args below meth c T locs cells slots) (hx : p.tables.exec = Jvm.exec) (hd : decode c.code pc = .ok (.iadd, 1)) (hp : pc + 1 = pc') {z : Int32} (hz : x + y = z) (q : own_Go p e below Q T (mkF m pc' Ls (.int z :: rest))) : own_Go p e below Q T (mkF m pc Ls (.int y :: .int x :: rest)) := by
  subst hp hz; exact own_go (fun t k' => XS.iadd X.here hx rfl hd rfl k') q
theorem o_isub (X : Stand p l e R s m args below meth c T locs cells slots) (hx : p.tables.exec = Jvm.exec) (hd : decode c.code pc = .ok (.isub, 1)) (hp : pc + 1 = pc') {z : Int32} (hz : x - y = z) (q : own_Go p e below Q T (mkF m pc' Ls (.int z :: rest))) : own_Go p e below Q T (mkF m pc Ls (.int y :: .int x :: rest)) := by
  subst hp hz; exact own_go (fun t k' => XS.isub X.here hx rfl hd rfl k') q
theorem o_imul (X : Stand p l e R s m args below meth c T locs cells slots) (hx : p.tables.exec = Jvm.exec) (hd : decode c.code pc = .ok (.imul, 1)) (hp : pc + 1 = pc') {z : Int32} (hz : x * y = z) (q : own_Go p e below Q T (mkF m pc' Ls (.int z :: rest))) : own_Go p e below Q T (mkF m pc Ls (.int y :: .int x :: rest)) := by
  subst hp hz; exact own_go (fun t k' => XS.imul X.here hx rfl hd rfl k') q
theorem o_iand (X : Stand p l e R s m args below meth c T locs cells slots) (hx : p.tables.exec = Jvm.exec) (hd : decode c.code pc = .ok (.iand, 1)) (hp : pc + 1 = pc') {z : Int32} (hz : x &&& y = z) (q : own_Go p e below Q T (mkF m pc' Ls (.int z :: rest))) : own_Go p e below Q T (mkF m pc Ls (.int y :: .int x :: rest)) := by
  subst hp hz; exact own_go (fun t k' => XS.iand X.here hx rfl hd rfl k') q
theorem o_ior (X : Stand p l e R s m args below meth c T locs cells slots) (hx : p.tables.exec = Jvm.exec) (hd : decode c.code pc = .ok (.ior, 1)) (hp : pc + 1 = pc') {z : Int32} (hz : x ||| y = z) (q : own_Go p e below Q T (mkF m pc' Ls (.int z :: rest))) : own_Go p e below Q T (mkF m pc Ls (.int y :: .int x :: rest)) := by
  subst hp hz; exact own_go (fun t k' => XS.ior X.here hx rfl hd rfl k') q
theorem o_ixor (X : Stand p l e R s m args below meth c T locs cells slots) (hx : p.tables.exec = Jvm.exec) (hd : decode c.code pc = .ok (.ixor, 1)) (hp : pc + 1 = pc') {z : Int32} (hz : x ^^^ y = z) (q : own_Go p e below Q T (mkF m pc' Ls (.int z :: rest))) : own_Go p e below Q T (mkF m pc Ls (.int y :: .int x :: rest)) := by
  subst hp hz; exact own_go (fun t k' => XS.ixor X.here hx rfl hd rfl k') q
/-- Java's shifts, remainders: under names of our own -/
def own_shl (x y : Int32) : Int32 := x <<< (y &&& 31)
def own_shr (x y : Int32) : Int32 := x >>> (y &&& 31)
def own_ushr (x y : Int32) : Int32 := (x.toUInt32 >>> (y &&& 31).toUInt32).toInt32
def own_rem (x y : Int32) : Int32 := x - (x / y) * y
def own_lshl (u : Int64) (y : Int32) : Int64 := u <<< (y &&& 0x3f).toInt64
def own_lushr (u : Int64) (y : Int32) : Int64 := (u.toUInt64 >>> (y &&& 0x3f).toInt64.toUInt64).toInt64
def own_lrem (u w : Int64) : Int64 := u - (u / w) * w
theorem o_ishl (X : Stand p l e R s m args below meth c T locs cells slots) (hx : p.tables.exec = Jvm.exec) (hd : decode c.code pc = .ok (.ishl, 1)) (hp : pc + 1 = pc') {z : Int32} (hz : own_shl x y = z) (q : own_Go p e below Q T (mkF m pc' Ls (.int z :: rest))) : own_Go p e below Q T (mkF m pc Ls (.int y :: .int x :: rest)) := by
  subst hp hz; exact own_go (fun t k' => XS.ishl X.here hx rfl hd rfl k') q
theorem o_ishr (X : Stand p l e R s m args below meth c T locs cells slots) (hx : p.tables.exec = Jvm.exec) (hd : decode c.code pc = .ok (.ishr, 1)) (hp : pc + 1 = pc') {z : Int32} (hz : own_shr x y = z) (q : own_Go p e below Q T (mkF m pc' Ls (.int z :: rest))) : own_Go p e below Q T (mkF m pc Ls (.int y :: .int x :: rest)) := by
  subst hp hz; exact own_go (fun t k' => XS.ishr X.here hx rfl hd rfl k') q
theorem o_iushr (X : Stand p l e R s m args below meth c T locs cells slots) (hx : p.tables.exec = Jvm.exec) (hd : decode c.code pc = .ok (.iushr, 1)) (hp : pc + 1 = pc') {z : Int32} (hz : own_ushr x y = z) (q : own_Go p e below Q T (mkF m pc' Ls (.int z :: rest))) : own_Go p e below Q T (mkF m pc Ls (.int y :: .int x :: rest)) := by
  subst hp hz; exact own_go (fun t k' => XS.iushr X.here hx rfl hd rfl k') q
theorem o_irem (X : Stand p l e R s m args below meth c T locs cells slots) (hx : p.tables.exec = Jvm.exec) (hd : decode c.code pc = .ok (.irem, 1)) (hp : pc + 1 = pc') (hy : y ≠ 0) {z : Int32} (hz : own_rem x y = z) (q : own_Go p e below Q T (mkF m pc' Ls (.int z :: rest))) : own_Go p e below Q T (mkF m pc Ls (.int y :: .int x :: rest)) := by
  subst hp hz; exact own_go (fun t k' => XS.irem X.here hx rfl hd rfl hy k') q
theorem o_idiv (X : Stand p l e R s m args below meth c T locs cells slots) (hx : p.tables.exec = Jvm.exec) (hd : decode c.code pc = .ok (.idiv, 1)) (hp : pc + 1 = pc') (hy : y ≠ 0) {z : Int32} (hz : x / y = z) (q : own_Go p e below Q T (mkF m pc' Ls (.int z :: rest))) : own_Go p e below Q T (mkF m pc Ls (.int y :: .int x :: rest)) := by
  subst hp hz; exact own_go (fun t k' => XS.idiv X.here hx rfl hd rfl hy k') q
theorem o_ineg (X : Stand p l e R s m args below meth c T locs cells slots) (hx : p.tables.exec = Jvm.exec) (hd : decode c.code pc = .ok (.ineg, 1)) (hp : pc + 1 = pc') {z : Int32} (hz : -x = z) (q : own_Go p e below Q T (mkF m pc' Ls (.int z :: rest))) : own_Go p e below Q T (mkF m pc Ls (.int x :: rest)) := by
  subst hp hz; exact own_go (fun t k' => XS.ineg X.here hx rfl hd rfl k') q
theorem o_ladd (X : Stand p l e R s m args below meth c T locs cells slots) (hx : p.tables.exec = Jvm.exec) (hd : decode c.code pc = .ok (.ladd, 1)) (hp : pc + 1 = pc') {z : Int64} (hz : u + w = z) (q : own_Go p e below Q T (mkF m pc' Ls (.long z :: rest))) : own_Go p e below Q T (mkF m pc Ls (.long w :: .long u :: rest)) := by
  subst hp hz; exact own_go (fun t k' => XS.ladd X.here hx rfl hd rfl k') q
theorem o_lsub (X : Stand p l e R s m args below meth c T locs cells slots) (hx : p.tables.exec = Jvm.exec) (hd : decode c.code pc = .ok (.lsub, 1)) (hp : pc + 1 = pc') {z : Int64} (hz : u - w = z) (q : own_Go p e below Q T (mkF m pc' Ls (.long z :: rest))) : own_Go p e below Q T (mkF m pc Ls (.long w :: .long u :: rest)) := by
  subst hp hz; exact own_go (fun t k' => XS.lsub X.here hx rfl hd rfl k') q
theorem o_lmul (X : Stand p l e R s m args below meth c T locs cells slots) (hx : p.tables.exec = Jvm.exec) (hd : decode c.code pc = .ok (.lmul, 1)) (hp : pc + 1 = pc') {z : Int64} (hz : u * w = z) (q : own_Go p e below Q T (mkF m pc' Ls (.long z :: rest))) : own_Go p e below Q T (mkF m pc Ls (.long w :: .long u :: rest)) := by
  subst hp hz; exact own_go (fun t k' => XS.lmul X.here hx rfl hd rfl k') q
theorem o_land (X : Stand p l e R s m args below meth c T locs cells slots) (hx : p.tables.exec = Jvm.exec) (hd : decode c.code pc = .ok (.land, 1)) (hp : pc + 1 = pc') {z : Int64} (hz : u &&& w = z) (q : own_Go p e below Q T (mkF m pc' Ls (.long z :: rest))) : own_Go p e below Q T (mkF m pc Ls (.long w :: .long u :: rest)) := by
  subst hp hz; exact own_go (fun t k' => XS.land X.here hx rfl hd rfl k') q
theorem o_lor (X : Stand p l e R s m args below meth c T locs cells slots) (hx : p.tables.exec = Jvm.exec) (hd : decode c.code pc = .ok (.lor, 1)) (hp : pc + 1 = pc') {z : Int64} (hz : u ||| w = z) (q : own_Go p e below Q T (mkF m pc' Ls (.long z :: rest))) : own_Go p e below Q T (mkF m pc Ls (.long w :: .long u :: rest)) := by
  subst hp hz; exact own_go (fun t k' => XS.lor X.here hx rfl hd rfl k') q
theorem o_lxor (X : Stand p l e R s m args below meth c T locs cells slots) (hx : p.tables.exec = Jvm.exec) (hd : decode c.code pc = .ok (.lxor, 1)) (hp : pc + 1 = pc') {z : Int64} (hz : u ^^^ w = z) (q : own_Go p e below Q T (mkF m pc' Ls (.long z :: rest))) : own_Go p e below Q T (mkF m pc Ls (.long w :: .long u :: rest)) := by
  subst hp hz; exact own_go (fun t k' => XS.lxor X.here hx rfl hd rfl k') q
theorem o_lshl (X : Stand p l e R s m args below meth c T locs cells slots) (hx : p.tables.exec = Jvm.exec) (hd : decode c.code pc = .ok (.lshl, 1)) (hp : pc + 1 = pc') {z : Int64} (hz : own_lshl u y = z) (q : own_Go p e below Q T (mkF m pc' Ls (.long z :: rest))) : own_Go p e below Q T (mkF m pc Ls (.int y :: .long u :: rest)) := by
  subst hp hz; exact own_go (fun t k' => XS.lshl X.here hx rfl hd rfl k') q
theorem o_lushr (X : Stand p l e R s m args below meth c T locs cells slots) (hx : p.tables.exec = Jvm.exec) (hd : decode c.code pc = .ok (.lushr, 1)) (hp : pc + 1 = pc') {z : Int64} (hz : own_lushr u y = z) (q : own_Go p e below Q T (mkF m pc' Ls (.long z :: rest))) : own_Go p e below Q T (mkF m pc Ls (.int y :: .long u :: rest)) := by
  subst hp hz; exact own_go (fun t k' => XS.lushr X.here hx rfl hd rfl k') q
theorem o_ldiv (X : Stand p l e R s m args below meth c T locs cells slots) (hx : p.tables.exec = Jvm.exec) (hd : decode c.code pc = .ok (.ldiv, 1)) (hp : pc + 1 = pc') (hy : w ≠ 0) {z : Int64} (hz : u / w = z) (q : own_Go p e below Q T (mkF m pc' Ls (.long z :: rest))) : own_Go p e below Q T (mkF m pc Ls (.long w :: .long u :: rest)) := by
  subst hp hz; exact own_go (fun t k' => XS.ldiv X.here hx rfl hd rfl hy k') q
theorem o_lrem (X : Stand p l e R s m args below meth c T locs cells slots) (hx : p.tables.exec = Jvm.exec) (hd : decode c.code pc = .ok (.lrem, 1)) (hp : pc + 1 = pc') (hy : w ≠ 0) {z : Int64} (hz : own_lrem u w = z) (q : own_Go p e below Q T (mkF m pc' Ls (.long z :: rest))) : own_Go p e below Q T (mkF m pc Ls (.long w :: .long u :: rest)) := by
  subst hp hz; exact own_go (fun t k' => XS.lrem X.here hx rfl hd rfl hy k') q
theorem o_i2l (X : Stand p l e R s m args below meth c T locs cells slots) (hx : p.tables.exec = Jvm.exec) (hd : decode c.code pc = .ok (.i2l, 1)) (hp : pc + 1 = pc') {z : Int64} (hz : x.toInt64 = z) (q : own_Go p e below Q T (mkF m pc' Ls (.long z :: rest))) : own_Go p e below Q T (mkF m pc Ls (.int x :: rest)) := by
  subst hp hz; exact own_go (fun t k' => XS.i2l X.here hx rfl hd rfl k') q
theorem o_l2i (X : Stand p l e R s m args below meth c T locs cells slots) (hx : p.tables.exec = Jvm.exec) (hd : decode c.code pc = .ok (.l2i, 1)) (hp : pc + 1 = pc') {z : Int32} (hz : u.toInt32 = z) (q : own_Go p e below Q T (mkF m pc' Ls (.int z :: rest))) : own_Go p e below Q T (mkF m pc Ls (.long u :: rest)) := by
  subst hp hz; exact own_go (fun t k' => XS.l2i X.here hx rfl hd rfl k') q
def own_i2b (x : Int32) : Int32 := x.toInt8.toInt32
def own_i2c (x : Int32) : Int32 := x.toUInt32.toUInt16.toUInt32.toInt32
theorem o_i2b (X : Stand p l e R s m args below meth c T locs cells slots) (hx : p.tables.exec = Jvm.exec) (hd : decode c.code pc = .ok (.i2b, 1)) (hp : pc + 1 = pc') {z : Int32} (hz : own_i2b x = z) (q : own_Go p e below Q T (mkF m pc' Ls (.int z :: rest))) : own_Go p e below Q T (mkF m pc Ls (.int x :: rest)) := by
  subst hp hz; exact own_go (fun t k' => XS.i2b X.here hx rfl hd rfl k') q
theorem o_i2c (X : Stand p l e R s m args below meth c T locs cells slots) (hx : p.tables.exec = Jvm.exec) (hd : decode c.code pc = .ok (.i2c, 1)) (hp : pc + 1 = pc') {z : Int32} (hz : own_i2c x = z) (q : own_Go p e below Q T (mkF m pc' Ls (.int z :: rest))) : own_Go p e below Q T (mkF m pc Ls (.int x :: rest)) := by
  subst hp hz; exact own_go (fun t k' => XS.i2c X.here hx rfl hd rfl k') q
theorem o_iinc (X : Stand p l e R s m args below meth c T locs cells slots) (hx : p.tables.exec = Jvm.exec) {k : Nat} {i : Int} (hd : decode c.code pc = .ok (.iinc k i, 3)) (hl : Ls[k]? = some (.val (.int x))) (hz : x + Int32.ofInt i = y) (hl' : storeLocals Ls k (.int y) = some l') (hp : pc + 3 = pc') (q : own_Go p e below Q T (mkF m pc' l' rest)) : own_Go p e below Q T (mkF m pc Ls rest) := by
  subst hp hz; exact own_go (fun t k' => XS.iinc X.here hx rfl hd hl hl' k') q
theorem o_dup (X : Stand p l e R s m args below meth c T locs cells slots) (hx : p.tables.exec = Jvm.exec) {v : Value} (hd : decode c.code pc = .ok (.dup, 1)) (hv : v.category = 1) (hp : pc + 1 = pc') (q : own_Go p e below Q T (mkF m pc' Ls (v :: v :: rest))) : own_Go p e below Q T (mkF m pc Ls (v :: rest)) := by
  subst hp; exact own_go (fun t k' => XS.dup X.here hx rfl hd rfl hv k') q
theorem o_pop (X : Stand p l e R s m args below meth c T locs cells slots) (hx : p.tables.exec = Jvm.exec) {v : Value} (hd : decode c.code pc = .ok (.pop, 1)) (hv : v.category = 1) (hp : pc + 1 = pc') (q : own_Go p e below Q T (mkF m pc' Ls rest)) : own_Go p e below Q T (mkF m pc Ls (v :: rest)) := by
  subst hp; exact own_go (fun t k' => XS.pop X.here hx rfl hd rfl hv k') q
theorem o_goto (X : Stand p l e R s m args below meth c T locs cells slots) (hx : p.tables.exec = Jvm.exec) {o : Int} (hd : decode c.code pc = .ok (.goto o, 3)) (ho : 0 ≤ (pc : Int) + o) (hp : ((pc : Int) + o).toNat = pc') (q : own_Go p e below Q T (mkF m pc' Ls rest)) : own_Go p e below Q T (mkF m pc Ls rest) :=
  own_go (fun t k' => XS.goto X.here hx rfl rfl hd ho hp k') q
theorem o_ifP (X : Stand p l e R s m args below meth c T locs cells slots) (hx : p.tables.exec = Jvm.exec) {cd : ClassFile.Cond} {o : Int} {P : Prop} [Decidable P] (hP : P → ifCond.holds cd x = true) (hN : ¬ P → ifCond.holds cd x = false) (hd : decode c.code pc = .ok (.ifCond cd o, 3)) (ho : 0 ≤ (pc : Int) + o) (hp : ((pc : Int) + o).toNat = pc1) (hp2 : pc + 3 = pc2)
    (kt : P → own_Go p e below Q T (mkF m pc1 Ls rest)) (kf : ¬ P → own_Go p e below Q T (mkF m pc2 Ls rest)) : own_Go p e below Q T (mkF m pc Ls (.int x :: rest)) := by
  subst hp2
  by_cases q : P
  · exact own_go (fun t k' => XS.ifYes X.here hx rfl rfl hd rfl (hP q) ho hp k') (kt q)
  · exact own_go (fun t k' => XS.ifNo X.here hx rfl hd rfl (hN q) k') (kf q)
theorem o_ifN (X : Stand p l e R s m args below meth c T locs cells slots) (hx : p.tables.exec = Jvm.exec) {cd : ClassFile.Cond} {o : Int} {P : Prop} [Decidable P] (hP : P → ifCond.holds cd x = false) (hN : ¬ P → ifCond.holds cd x = true) (hd : decode c.code pc = .ok (.ifCond cd o, 3)) (ho : 0 ≤ (pc : Int) + o) (hp : ((pc : Int) + o).toNat = pc1) (hp2 : pc + 3 = pc2)
    (kt : ¬ P → own_Go p e below Q T (mkF m pc1 Ls rest)) (kf : P → own_Go p e below Q T (mkF m pc2 Ls rest)) : own_Go p e below Q T (mkF m pc Ls (.int x :: rest)) := by
  subst hp2
  by_cases q : P
  · exact own_go (fun t k' => XS.ifNo X.here hx rfl hd rfl (hP q) k') (kf q)
  · exact own_go (fun t k' => XS.ifYes X.here hx rfl rfl hd rfl (hN q) ho hp k') (kt q)
theorem o_icP (X : Stand p l e R s m args below meth c T locs cells slots) (hx : p.tables.exec = Jvm.exec) {cd : ClassFile.Cond} {o : Int} {P : Prop} [Decidable P] (hP : P → if_icmp.holds cd x y = true) (hN : ¬ P → if_icmp.holds cd x y = false) (hd : decode c.code pc = .ok (.if_icmp cd o, 3)) (ho : 0 ≤ (pc : Int) + o) (hp : ((pc : Int) + o).toNat = pc1) (hp2 : pc + 3 = pc2)
    (kt : P → own_Go p e below Q T (mkF m pc1 Ls rest)) (kf : ¬ P → own_Go p e below Q T (mkF m pc2 Ls rest)) : own_Go p e below Q T (mkF m pc Ls (.int y :: .int x :: rest)) := by
  subst hp2
  by_cases q : P
  · exact own_go (fun t k' => XS.icmpYes X.here hx rfl rfl hd rfl (hP q) ho hp k') (kt q)
  · exact own_go (fun t k' => XS.icmpNo X.here hx rfl hd rfl (hN q) k') (kf q)
theorem o_icN (X : Stand p l e R s m args below meth c T locs cells slots) (hx : p.tables.exec = Jvm.exec) {cd : ClassFile.Cond} {o : Int} {P : Prop} [Decidable P] (hP : P → if_icmp.holds cd x y = false) (hN : ¬ P → if_icmp.holds cd x y = true) (hd : decode c.code pc = .ok (.if_icmp cd o, 3)) (ho : 0 ≤ (pc : Int) + o) (hp : ((pc : Int) + o).toNat = pc1) (hp2 : pc + 3 = pc2)
    (kt : ¬ P → own_Go p e below Q T (mkF m pc1 Ls rest)) (kf : P → own_Go p e below Q T (mkF m pc2 Ls rest)) : own_Go p e below Q T (mkF m pc Ls (.int y :: .int x :: rest)) := by
  subst hp2
  by_cases q : P
  · exact own_go (fun t k' => XS.icmpNo X.here hx rfl hd rfl (hP q) k') (kf q)
  · exact own_go (fun t k' => XS.icmpYes X.here hx rfl rfl hd rfl (hN q) ho hp k') (kt q)
/-- a branch that goes one way for sure -/
theorem o_ifY (X : Stand p l e R s m args below meth c T locs cells slots) (hx : p.tables.exec = Jvm.exec) {cd : ClassFile.Cond} {o : Int} (hc : ifCond.holds cd x = true) (hd : decode c.code pc = .ok (.ifCond cd o, 3)) (ho : 0 ≤ (pc : Int) + o) (hp : ((pc : Int) + o).toNat = pc') (q : own_Go p e below Q T (mkF m pc' Ls rest)) : own_Go p e below Q T (mkF m pc Ls (.int x :: rest)) :=
  own_go (fun t k' => XS.ifYes X.here hx rfl rfl hd rfl hc ho hp k') q
theorem o_ifX (X : Stand p l e R s m args below meth c T locs cells slots) (hx : p.tables.exec = Jvm.exec) {cd : ClassFile.Cond} {o : Int} (hc : ifCond.holds cd x = false) (hd : decode c.code pc = .ok (.ifCond cd o, 3)) (hp : pc + 3 = pc') (q : own_Go p e below Q T (mkF m pc' Ls rest)) : own_Go p e below Q T (mkF m pc Ls (.int x :: rest)) := by
  subst hp; exact own_go (fun t k' => XS.ifNo X.here hx rfl hd rfl hc k') q
theorem o_icY (X : Stand p l e R s m args below meth c T locs cells slots) (hx : p.tables.exec = Jvm.exec) {cd : ClassFile.Cond} {o : Int} (hc : if_icmp.holds cd x y = true) (hd : decode c.code pc = .ok (.if_icmp cd o, 3)) (ho : 0 ≤ (pc : Int) + o) (hp : ((pc : Int) + o).toNat = pc') (q : own_Go p e below Q T (mkF m pc' Ls rest)) : own_Go p e below Q T (mkF m pc Ls (.int y :: .int x :: rest)) :=
  own_go (fun t k' => XS.icmpYes X.here hx rfl rfl hd rfl hc ho hp k') q
theorem o_icX (X : Stand p l e R s m args below meth c T locs cells slots) (hx : p.tables.exec = Jvm.exec) {cd : ClassFile.Cond} {o : Int} (hc : if_icmp.holds cd x y = false) (hd : decode c.code pc = .ok (.if_icmp cd o, 3)) (hp : pc + 3 = pc') (q : own_Go p e below Q T (mkF m pc' Ls rest)) : own_Go p e below Q T (mkF m pc Ls (.int y :: .int x :: rest)) := by
  subst hp; exact own_go (fun t k' => XS.icmpNo X.here hx rfl hd rfl hc k') q
theorem o_lcmp (X : Stand p l e R s m args below meth c T locs cells slots) (hx : p.tables.exec = Jvm.exec) (hd : decode c.code pc = .ok (.lcmp, 1)) (hp : pc + 1 = pc') (q : own_Go p e below Q T (mkF m pc' Ls (.int (XT.cmpL u w) :: rest))) : own_Go p e below Q T (mkF m pc Ls (.long w :: .long u :: rest)) := by
  subst hp; exact own_go (fun t k' => XS.lcmp X.here hx rfl hd rfl k') q
theorem o_ifnullX (X : Stand p l e R s m args below meth c T locs cells slots) (hx : p.tables.exec = Jvm.exec) {o : Int} {a : Addr} (hd : decode c.code pc = .ok (.ifnull o, 3)) (hp : pc + 3 = pc') (q : own_Go p e below Q T (mkF m pc' Ls rest)) : own_Go p e below Q T (mkF m pc Ls (.ref a :: rest)) := by
  subst hp; exact own_go (fun t k' => XS.ifnullNo X.here hx rfl hd rfl k') q
/-- the ends -/
theorem o_ret (X : Stand p l e R s m args below meth c T locs cells slots) {v : Option Value} {g : JFrame} (hv : meth.sig.returnType = none → v = none) (hlk : meth.locks = false) (hc : cells ≤ cc) (hs : slots ≤ ss) (eT : T.heap = h) (hK : K v h locs)
    (st : ∀ fs : List Frame, (∀ (f : JFrame) (acts : List Action), f.method = m → f.locked = none → f.entered = [] → (doReturn e (T.setTop f) acts v).1 = T.setFrames fs) → Steps p.tables e below (T.setTop g) (T.setFrames fs)) : own_Go p e below (own_Q s K cc ss) T g := by
  subst eT
  obtain ⟨fs, hr, hrun, hended, hW, hsame⟩ := X.leave (v := v) hv hlk
  exact ⟨_, _, st fs hr, hrun, hended, _, _, rfl, hK, ⟨_, rfl⟩, hW, hsame.mono hc hs⟩
theorem o_retV (X : Stand p l e R s m args below meth c T locs cells slots) (hx : p.tables.exec = Jvm.exec) (hret : meth.sig.returnType = none) (hlk : meth.locks = false) (hd : decode c.code pc = .ok (.return_, 1)) (hc : cells ≤ cc) (hs : slots ≤ ss) (eT : T.heap = h) (hK : K none h locs) : own_Go p e below (own_Q s K cc ss) T (mkF m pc Ls []) :=
  o_ret X (fun _ => rfl) hlk hc hs eT hK fun fs hr => X.returnOut hx hret hd hr
theorem o_retI (X : Stand p l e R s m args below meth c T locs cells slots) (hx : p.tables.exec = Jvm.exec) (hret : meth.sig.returnType = some .int) (hlk : meth.locks = false) (hd : decode c.code pc = .ok (.ireturn, 1)) (hc : cells ≤ cc) (hs : slots ≤ ss) (eT : T.heap = h) (hK : K (some (.int x)) h locs) : own_Go p e below (own_Q s K cc ss) T (mkF m pc Ls (.int x :: rest)) :=
  o_ret X (fun h => by rw [hret] at h; cases h) hlk hc hs eT hK fun fs hr => retI X hx hret hd hr
theorem o_retN (X : Stand p l e R s m args below meth c T locs cells slots) (hx : p.tables.exec = Jvm.exec) {t : FieldType} (hret : meth.sig.returnType = some t) (ht : t = .boolean ∨ t = .byte ∨ t = .char ∨ t = .short) (hlk : meth.locks = false) (hd : decode c.code pc = .ok (.ireturn, 1)) (hc : cells ≤ cc) (hs : slots ≤ ss) (eT : T.heap = h) (hK : K (some (.int (nar t x))) h locs) : own_Go p e below (own_Q s K cc ss) T (mkF m pc Ls (.int x :: rest)) :=
  o_ret X (fun h => by rw [hret] at h; cases h) hlk hc hs eT hK fun fs hr => retN X hx hret ht hd hr
theorem o_retL (X : Stand p l e R s m args below meth c T locs cells slots) (hx : p.tables.exec = Jvm.exec) (hret : meth.sig.returnType = some .long) (hlk : meth.locks = false) (hd : decode c.code pc = .ok (.lreturn, 1)) (hc : cells ≤ cc) (hs : slots ≤ ss) (eT : T.heap = h) (hK : K (some (.long u)) h locs) : own_Go p e below (own_Q s K cc ss) T (mkF m pc Ls (.long u :: rest)) :=
  o_ret X (fun h => by rw [hret] at h; cases h) hlk hc hs eT hK fun fs hr => by
    jvm_step X.here [X.here.top, hx, hd, X.method', hret, narrow]
    first | (intro acts; rw [hr _ acts rfl rfl rfl]) | rw [hr _ _ rfl rfl rfl]
    exact Steps.refl _
theorem o_retA (X : Stand p l e R s m args below meth c T locs cells slots) (hx : p.tables.exec = Jvm.exec) {t : FieldType} (hret : meth.sig.returnType = some (.array t)) (hlk : meth.locks = false) {a : Addr} (hd : decode c.code pc = .ok (.areturn, 1)) (hc : cells ≤ cc) (hs : slots ≤ ss) (eT : T.heap = h) (hK : K (some (.ref a)) h locs) : own_Go p e below (own_Q s K cc ss) T (mkF m pc Ls (.ref a :: rest)) :=
  o_ret X (fun h => by rw [hret] at h; cases h) hlk hc hs eT hK fun fs hr => by
    jvm_step X.here [X.here.top, hx, hd, X.method', hret, Value.isRef, FieldType.isReference]
    first | (intro acts; rw [hr _ acts rfl rfl rfl]) | rw [hr _ _ rfl rfl rfl]
    exact Steps.refl _
/-- arrays as lists -/
def own_AI (Z : State) (h : Heap) (a : Addr) (ty : FieldType) (vs : List Int32) : Prop := ∃ cl : Cell, Arr Z h a cl ty ∧ cl.slots = (vs.map Value.int).toArray
def own_AJ (Z : State) (h : Heap) (a : Addr) (vs : List Int64) : Prop := ∃ cl : Cell, Arr Z h a cl .long ∧ cl.slots = (vs.map Value.long).toArray
def own_in (n : Nat) (j : Int32) : Prop := ¬ j < 0 ∧ j.toNatClampNeg < n
def own_get (vs : List Int32) (j : Int32) : Int32 := vs.getD j.toNatClampNeg 0
def own_getL (vs : List Int64) (j : Int32) : Int64 := vs.getD j.toNatClampNeg 0
def own_set (vs : List Int32) (j x : Int32) : List Int32 := vs.set j.toNatClampNeg x
def own_setL (vs : List Int64) (j : Int32) (u : Int64) : List Int64 := vs.set j.toNatClampNeg u
theorem own_AI.lt {a : Addr} {ty : FieldType} {vs : List Int32} (A : own_AI Z h a ty vs) : a < h.size := by obtain ⟨cl, A, -⟩ := A; exact A.lt
theorem own_AI.ext {a : Addr} {ty : FieldType} {vs : List Int32} (A : own_AI Z h a ty vs) (E : Ext h h') : own_AI Z h' a ty vs := by obtain ⟨cl, A, q⟩ := A; exact ⟨cl, A.ext E, q⟩
theorem own_AI.other {a b : Addr} {ty : FieldType} {vs : List Int32} {sl : Nat} {v : Value} (A : own_AI Z h a ty vs) (W : Wr h h' b sl v) (ne : a ≠ b) : own_AI Z h' a ty vs := by obtain ⟨cl, A, q⟩ := A; exact ⟨cl, A.other W ne, q⟩
theorem own_AI.keep {a : Addr} {ty : FieldType} {vs : List Int32} {ws : List Addr} (A : own_AI Z h a ty vs) (K : Keep h h' ws) (ne : a ∉ ws) : own_AI Z h' a ty vs := by obtain ⟨cl, A, q⟩ := A; exact ⟨cl, ⟨K.2.1 a cl A.1 ne, A.2⟩, q⟩
theorem own_AI.put {a : Addr} {ty : FieldType} {vs : List Int32} {j : Int32} (A : own_AI Z h a ty vs) (W : Wr h h' a j.toNatClampNeg (.int x)) : own_AI Z h' a ty (own_set vs j x) := by
  obtain ⟨cl, A, q⟩ := A
  refine ⟨_, A.same W, ?_⟩
  show cl.slots.setIfInBounds _ _ = _
  rw [q, own_set, List.map_set, List.setIfInBounds_toArray]
theorem own_AJ.lt {a : Addr} {vs : List Int64} (A : own_AJ Z h a vs) : a < h.size := by obtain ⟨cl, A, -⟩ := A; exact A.lt
theorem own_AJ.ext {a : Addr} {vs : List Int64} (A : own_AJ Z h a vs) (E : Ext h h') : own_AJ Z h' a vs := by obtain ⟨cl, A, q⟩ := A; exact ⟨cl, A.ext E, q⟩
theorem own_AJ.other {a b : Addr} {vs : List Int64} {sl : Nat} {v : Value} (A : own_AJ Z h a vs) (W : Wr h h' b sl v) (ne : a ≠ b) : own_AJ Z h' a vs := by obtain ⟨cl, A, q⟩ := A; exact ⟨cl, A.other W ne, q⟩
theorem own_AJ.keep {a : Addr} {vs : List Int64} {ws : List Addr} (A : own_AJ Z h a vs) (K : Keep h h' ws) (ne : a ∉ ws) : own_AJ Z h' a vs := by obtain ⟨cl, A, q⟩ := A; exact ⟨cl, ⟨K.2.1 a cl A.1 ne, A.2⟩, q⟩
theorem own_AJ.put {a : Addr} {vs : List Int64} {j : Int32} (A : own_AJ Z h a vs) (W : Wr h h' a j.toNatClampNeg (.long u)) : own_AJ Z h' a (own_setL vs j u) := by
  obtain ⟨cl, A, q⟩ := A
  refine ⟨_, A.same W, ?_⟩
  show cl.slots.setIfInBounds _ _ = _
  rw [q, own_setL, List.map_set, List.setIfInBounds_toArray]
theorem own_inA {n : Nat} {j : Int32} {cl : Cell} (hj : own_in n j) (hn : cl.slots.size = n) : ¬ (j < 0 ∨ cl.slots.size ≤ j.toNatClampNeg) := fun q => q.elim hj.1 fun q => by rw [hn] at q; exact Nat.not_lt.mpr q hj.2
theorem own_szI {cl : Cell} {vs : List Int32} (q : cl.slots = (vs.map Value.int).toArray) : cl.slots.size = vs.length := by rw [q]; simp
theorem own_szJ {cl : Cell} {vs : List Int64} (q : cl.slots = (vs.map Value.long).toArray) : cl.slots.size = vs.length := by rw [q]; simp
theorem own_atI {cl : Cell} {vs : List Int32} {j : Int32} (q : cl.slots = (vs.map Value.int).toArray) (hj : own_in vs.length j) : cl.slots[j.toNatClampNeg]? = some (.int (own_get vs j)) := by
  rw [q, List.getElem?_toArray, List.getElem?_map, List.getElem?_eq_getElem hj.2, own_get, List.getD_eq_getElem?_getD, List.getElem?_eq_getElem hj.2]; rfl
theorem own_atJ {cl : Cell} {vs : List Int64} {j : Int32} (q : cl.slots = (vs.map Value.long).toArray) (hj : own_in vs.length j) : cl.slots[j.toNatClampNeg]? = some (.long (own_getL vs j)) := by
  rw [q, List.getElem?_toArray, List.getElem?_map, List.getElem?_eq_getElem hj.2, own_getL, List.getD_eq_getElem?_getD, List.getElem?_eq_getElem hj.2]; rfl
theorem o_iaload (X : Stand p l e R s m args below meth c T locs cells slots) (hx : p.tables.exec = Jvm.exec) (hZ : Z.Warmed39 s.vm) (eT : T.heap = h) {a : Addr} {vs : List Int32} {j : Int32} (A : own_AI Z h a .int vs) (hj : own_in vs.length j) (hd : decode c.code pc = .ok (.iaload, 1)) (hp : pc + 1 = pc') (hv : own_get vs j = x) (q : own_Go p e below Q T (mkF m pc' Ls (.int x :: rest))) : own_Go p e below Q T (mkF m pc Ls (.int j :: .ref a :: rest)) := by
  subst hp hv
  obtain ⟨cl, A, qs⟩ := A
  exact own_go (fun t k' => X.iaload hx (by rw [eT]; exact A.1) (State.isArrayOf_alike hZ.alike A.2.1) A.2.2 (own_inA hj (own_szI qs)) (own_atI qs hj) (g := mkF m pc Ls (.int j :: .ref a :: rest)) rfl rfl hd t k') q
theorem o_baload (X : Stand p l e R s m args below meth c T locs cells slots) (hx : p.tables.exec = Jvm.exec) (hZ : Z.Warmed39 s.vm) (eT : T.heap = h) {a : Addr} {vs : List Int32} {j : Int32} (A : own_AI Z h a .byte vs) (hj : own_in vs.length j) (hd : decode c.code pc = .ok (.baload, 1)) (hp : pc + 1 = pc') (hv : own_get vs j = x) (q : own_Go p e below Q T (mkF m pc' Ls (.int x :: rest))) : own_Go p e below Q T (mkF m pc Ls (.int j :: .ref a :: rest)) := by
  subst hp hv
  obtain ⟨cl, A, qs⟩ := A
  exact own_go (fun t k' => X.baloadBytes hx (by rw [eT]; exact A.1) (State.isArrayOf_alike hZ.alike A.2.1) A.2.2 (own_inA hj (own_szI qs)) (own_atI qs hj) (g := mkF m pc Ls (.int j :: .ref a :: rest)) rfl rfl hd t k') q
theorem o_laload (X : Stand p l e R s m args below meth c T locs cells slots) (hx : p.tables.exec = Jvm.exec) (hZ : Z.Warmed39 s.vm) (eT : T.heap = h) {a : Addr} {vs : List Int64} {j : Int32} (A : own_AJ Z h a vs) (hj : own_in vs.length j) (hd : decode c.code pc = .ok (.laload, 1)) (hp : pc + 1 = pc') (hv : own_getL vs j = u) (q : own_Go p e below Q T (mkF m pc' Ls (.long u :: rest))) : own_Go p e below Q T (mkF m pc Ls (.int j :: .ref a :: rest)) := by
  subst hp hv
  obtain ⟨cl, A, qs⟩ := A
  exact own_go (fun t k' => X.laload hx (by rw [eT]; exact A.1) (State.isArrayOf_alike hZ.alike A.2.1) A.2.2 (own_inA hj (own_szJ qs)) (own_atJ qs hj) (g := mkF m pc Ls (.int j :: .ref a :: rest)) rfl rfl hd t k') q
/-- the length as arraylength pushes it -/
def own_len (n : Nat) : Int32 := n.toInt32
theorem o_alenI (X : Stand p l e R s m args below meth c T locs cells slots) (hx : p.tables.exec = Jvm.exec) (hZ : Z.Warmed39 s.vm) (eT : T.heap = h) {a : Addr} {ty : FieldType} {vs : List Int32} (A : own_AI Z h a ty vs) (hd : decode c.code pc = .ok (.arraylength, 1)) (hp : pc + 1 = pc') (hv : own_len vs.length = x) (q : own_Go p e below Q T (mkF m pc' Ls (.int x :: rest))) : own_Go p e below Q T (mkF m pc Ls (.ref a :: rest)) := by
  subst hp hv
  obtain ⟨cl, A, qs⟩ := A
  refine own_go (fun t k' => X.arraylength hx (by rw [eT]; exact A.1) (State.isArrayOf_alike hZ.alike A.2.1) (g := mkF m pc Ls (.ref a :: rest)) rfl rfl hd t k') ?_
  rw [own_szI qs]; exact q
theorem o_alenJ (X : Stand p l e R s m args below meth c T locs cells slots) (hx : p.tables.exec = Jvm.exec) (hZ : Z.Warmed39 s.vm) (eT : T.heap = h) {a : Addr} {vs : List Int64} (A : own_AJ Z h a vs) (hd : decode c.code pc = .ok (.arraylength, 1)) (hp : pc + 1 = pc') (hv : own_len vs.length = x) (q : own_Go p e below Q T (mkF m pc' Ls (.int x :: rest))) : own_Go p e below Q T (mkF m pc Ls (.ref a :: rest)) := by
  subst hp hv
  obtain ⟨cl, A, qs⟩ := A
  refine own_go (fun t k' => X.arraylength hx (by rw [eT]; exact A.1) (State.isArrayOf_alike hZ.alike A.2.1) (g := mkF m pc Ls (.ref a :: rest)) rfl rfl hd t k') ?_
  rw [own_szJ qs]; exact q
/-- stores: the place stays in locs -/
theorem o_iastore (X : Stand p l e R s m args below meth c T locs cells slots) (hx : p.tables.exec = Jvm.exec) (hZ : Z.Warmed39 s.vm) (eT : T.heap = h) {a : Addr} {vs vs' : List Int32} {j : Int32} (A : own_AI Z h a .int vs) (hj : own_in vs.length j) (hd : decode c.code pc = .ok (.iastore, 1)) (hp : pc + 1 = pc') (hv : own_set vs j x = vs')
    (k : ∀ T' h', Stand p l e R s m args below meth c T' (locs ++ [⟨a, j.toNatClampNeg⟩]) cells slots → T'.heap = h' → Wr h h' a j.toNatClampNeg (.int x) → own_AI Z h' a .int vs' → own_Go p e below Q T' (mkF m pc' Ls rest)) : own_Go p e below Q T (mkF m pc Ls (.int x :: .int j :: .ref a :: rest)) := by
  subst hp hv
  obtain ⟨cl, A', qs⟩ := id A
  obtain ⟨T', h', X', e', W, st⟩ := stI X hx hZ eT A' (own_inA hj (own_szI qs)) (g := mkF m pc Ls (.int x :: .int j :: .ref a :: rest)) rfl rfl hd
  exact own_go st (k T' h' X' e' W (A.put W))
theorem o_bastore (X : Stand p l e R s m args below meth c T locs cells slots) (hx : p.tables.exec = Jvm.exec) (hZ : Z.Warmed39 s.vm) (eT : T.heap = h) {a : Addr} {vs vs' : List Int32} {j : Int32} (A : own_AI Z h a .byte vs) (hj : own_in vs.length j) (hd : decode c.code pc = .ok (.bastore, 1)) (hp : pc + 1 = pc') (hv : own_set vs j (own_i2b x) = vs')
    (k : ∀ T' h', Stand p l e R s m args below meth c T' (locs ++ [⟨a, j.toNatClampNeg⟩]) cells slots → T'.heap = h' → Wr h h' a j.toNatClampNeg (.int (own_i2b x)) → own_AI Z h' a .byte vs' → own_Go p e below Q T' (mkF m pc' Ls rest)) : own_Go p e below Q T (mkF m pc Ls (.int x :: .int j :: .ref a :: rest)) := by
  subst hp hv
  obtain ⟨cl, A', qs⟩ := id A
  obtain ⟨T', h', X', e', W, st⟩ := stB X hx hZ eT A' (own_inA hj (own_szI qs)) (g := mkF m pc Ls (.int x :: .int j :: .ref a :: rest)) rfl rfl hd
  exact own_go st (k T' h' X' e' W (A.put W))
theorem o_lastore (X : Stand p l e R s m args below meth c T locs cells slots) (hx : p.tables.exec = Jvm.exec) (hZ : Z.Warmed39 s.vm) (eT : T.heap = h) {a : Addr} {vs vs' : List Int64} {j : Int32} (A : own_AJ Z h a vs) (hj : own_in vs.length j) (hd : decode c.code pc = .ok (.lastore, 1)) (hp : pc + 1 = pc') (hv : own_setL vs j u = vs')
    (k : ∀ T' h', Stand p l e R s m args below meth c T' (locs ++ [⟨a, j.toNatClampNeg⟩]) cells slots → T'.heap = h' → Wr h h' a j.toNatClampNeg (.long u) → own_AJ Z h' a vs' → own_Go p e below Q T' (mkF m pc' Ls rest)) : own_Go p e below Q T (mkF m pc Ls (.long u :: .int j :: .ref a :: rest)) := by
  subst hp hv
  obtain ⟨cl, A', qs⟩ := id A
  obtain ⟨T', h', X', e', W, st⟩ := stJ X hx hZ eT A' (own_inA hj (own_szJ qs)) (g := mkF m pc Ls (.long u :: .int j :: .ref a :: rest)) rfl rfl hd
  exact own_go st (k T' h' X' e' W (A.put W))
theorem own_sz (X : Stand p l e R s m args below meth c T locs cells slots) (eT : T.heap = h) : s.heap.size ≤ h.size := by
  have q := X.same.2.1
  rw [← eT]; exact q
/-- the place written lies in a cell made since the start: it needn't be told -/
theorem own_drop {a : Addr} {j : Nat} (X : Stand p l e R s m args below meth c T (locs ++ [⟨a, j⟩]) cells slots) (ha : s.heap.size ≤ a) : Stand p l e R s m args below meth c T locs cells slots := X.forget fun y hy => by cases List.mem_singleton.mp hy; exact ha
theorem own_dropL {L : List Loc} {k : Nat} (X : Stand p l e R s m args below meth c T (locs ++ L) cells slots) (ha : s.heap.size ≤ k) (hL : ∀ y ∈ L, k ≤ y.base) : Stand p l e R s m args below meth c T locs cells slots := X.forget fun y hy => Nat.le_trans ha (hL y hy)
/-- newarray -/
theorem o_newI (X : Stand p l e R s m args below meth c T locs cells slots) (hx : p.tables.exec = Jvm.exec) (hZ : Z.Warmed39 s.vm) (eT : T.heap = h) {aty : ArrayType} {ty : FieldType} (w1 : (Cond.arrayClass ty).before a0 Z = true) (hty : newarray.typeOf aty = ty) (hdv : defaultValue ty = .int 0) (hd : decode c.code pc = .ok (.newarray aty, 2)) (hp : pc + 2 = pc') (hn : ¬ x < 0) {cap : Nat} (hcap : x.toNatClampNeg ≤ cap) (hb : cap * 8 ≤ 536870912) (hc : cells + 1 ≤ R.cells) (hs : slots + cap ≤ R.slots) {vs : List Int32} (hv : List.replicate x.toNatClampNeg 0 = vs)
    (k : ∀ T' h' a, Stand p l e R s m args below meth c T' locs (cells + 1) (slots + cap) → T'.heap = h' → h.size = a → Ext h h' → own_AI Z h' a ty vs → own_Go p e below Q T' (mkF m pc' Ls (.ref a :: rest))) : own_Go p e below Q T (mkF m pc Ls (.int x :: rest)) := by
  subst hp hv hty
  obtain ⟨T', h', cA, X', e', E, A, st⟩ := newP X hx hZ w1 eT (g := mkF m pc Ls (.int x :: rest)) rfl hd rfl hn hcap hb hc hs
  exact own_go st (k T' h' _ X' e' rfl E ⟨_, A, by simp [newA, hdv]⟩)
theorem o_newJ (X : Stand p l e R s m args below meth c T locs cells slots) (hx : p.tables.exec = Jvm.exec) (hZ : Z.Warmed39 s.vm) (eT : T.heap = h) (w1 : (Cond.arrayClass .long).before a0 Z = true) (hd : decode c.code pc = .ok (.newarray .long, 2)) (hp : pc + 2 = pc') (hn : ¬ x < 0) {cap : Nat} (hcap : x.toNatClampNeg ≤ cap) (hb : cap * 8 ≤ 536870912) (hc : cells + 1 ≤ R.cells) (hs : slots + cap ≤ R.slots) {vs : List Int64} (hv : List.replicate x.toNatClampNeg 0 = vs)
    (k : ∀ T' h' a, Stand p l e R s m args below meth c T' locs (cells + 1) (slots + cap) → T'.heap = h' → h.size = a → Ext h h' → own_AJ Z h' a vs → own_Go p e below Q T' (mkF m pc' Ls (.ref a :: rest))) : own_Go p e below Q T (mkF m pc Ls (.int x :: rest)) := by
  subst hp hv
  obtain ⟨T', h', cA, X', e', E, A, st⟩ := newP X hx hZ (aty := .long) w1 eT (g := mkF m pc Ls (.int x :: rest)) rfl hd rfl hn hcap hb hc hs
  exact own_go st (k T' h' _ X' e' rfl E ⟨_, A, by simp [newA, show defaultValue (newarray.typeOf .long) = Value.long 0 from rfl]⟩)
/-- a static call by the callee's contract -/
theorem o_callS (X : Stand p l e R s m args below meth c T locs cells slots) (hx : p.tables.exec = Jvm.exec) (hZ : Z.Warmed39 s.vm) (eT : T.heap = h) {own : String} {index : Nat} {y : MethodName} {bytes : ByteArray} {maxL : Nat} {ret : Option FieldType} {rm : Room} {W : Nat} (hown : s.vm.findClass own = some m.cls)
    (w1 : (Cond.methodLink own index y).before a0 Z = true) (w2 : (Cond.static y).before a0 Z = true) (w3 : (Cond.initialized y.cls).before a0 Z = true) (w4 : (Cond.code y bytes maxL ret).before a0 Z = true) (hy : y.cls ≠ "java/lang/invoke/MethodHandle" ∧ y.cls ≠ "java/lang/invoke/VarHandle") {as' : Array Value} {K : Option Value → Heap → List Loc → Prop}
    (hM : MetFree l y (head1 [Cond.code y bytes maxL ret] rm) (fun a U => a = as' ∧ Z.Warmed39 U.vm ∧ U.heap = h) (fun _ _ _ _ _ => True) (fun _ U o U' => ∃ v L, o = .returned v ∧ K v U'.heap L ∧ FrameEnd U o U' L rm.cells rm.slots))
    (hf : rm.frames + 1 ≤ R.frames) (hl : W + (maxL + 11) + rm.locals ≤ R.locals) (hml : Ls.size = c.maxLocals) {argsL st : List Value} {sig : MethodDescriptor} (hpd : parseMethodDescriptor y.desc = some sig) (hlen : argsL.length = sig.parameters.length) (hst : st = argsL.reverse ++ rest) (has : argsL.toArray = as') (hW : (rest.map fun v => v.category).sum = W)
    (hd : decode c.code pc = .ok (.invokestatic index, 3)) (hp : pc + 3 = pc') (hc : cells + rm.cells ≤ R.cells) (hs : slots + rm.slots ≤ R.slots)
    (k : ∀ v T' L, Stand p l e R s m args below meth c T' (locs ++ L) (cells + rm.cells) (slots + rm.slots) → K v T'.heap L → own_Go p e below Q T' (mkF m pc' Ls (v.toList ++ rest))) : own_Go p e below Q T (mkF m pc Ls st) := by
  subst hp hst has
  obtain ⟨v, _, ⟨T1, L1, k1, n1⟩, -, X1, ⟨Lc, hQ, l1, y1, z1⟩, st1⟩ := Jvm.LawKit.callS X hx hown (mvT hZ w1) (mvT hZ w2) (mvT hZ w3) (mvT hZ w4) hy (backOf (W := W) hM hZ w4 w3 hf hl) (g := mkF m pc Ls (argsL.reverse ++ rest)) rfl hml (argsL := argsL) (rest := rest) (fun sg hsg => by cases hpd.symm.trans hsg; exact hlen) rfl (by show 2 * 0 + _ ≤ _; rw [hW]; omega) hd (fun _ _ => ⟨rfl, eT, hc, hs⟩)
  dsimp only [Pt.U, Pt.locs, Pt.cells, Pt.slots] at X1 l1 y1 z1 st1 hQ
  subst l1 y1 z1
  exact own_go st1 (k v T1 Lc X1 hQ)
/-- a body that writes nothing: what it returns, the heap as it was -/
def own_KP (V : Option Value) (h0 : Heap) : Option Value → Heap → List Loc → Prop := fun v h L => v = V ∧ h = h0 ∧ L = []
/-- a law: what it returns; nothing old is written -/
def own_KL (V : Option Value) : Option Value → Heap → List Loc → Prop := fun v _ L => v = V ∧ L = []
theorem o_callP (X : Stand p l e R s m args below meth c T locs cells slots) (hx : p.tables.exec = Jvm.exec) (hZ : Z.Warmed39 s.vm) (eT : T.heap = h) {own : String} {index : Nat} {y : MethodName} {bytes : ByteArray} {maxL : Nat} {ret : Option FieldType} {rm : Room} {W : Nat} (hown : s.vm.findClass own = some m.cls)
    (w1 : (Cond.methodLink own index y).before a0 Z = true) (w2 : (Cond.static y).before a0 Z = true) (w3 : (Cond.initialized y.cls).before a0 Z = true) (w4 : (Cond.code y bytes maxL ret).before a0 Z = true) (hy : y.cls ≠ "java/lang/invoke/MethodHandle" ∧ y.cls ≠ "java/lang/invoke/VarHandle") {as' : Array Value} {V : Option Value}
    (hM : MetFree l y (head1 [Cond.code y bytes maxL ret] rm) (fun a U => a = as' ∧ Z.Warmed39 U.vm ∧ U.heap = h) (fun _ _ _ _ _ => True) (fun _ U o U' => ∃ v L, o = .returned v ∧ own_KP V h v U'.heap L ∧ FrameEnd U o U' L rm.cells rm.slots))
    (hf : rm.frames + 1 ≤ R.frames) (hl : W + (maxL + 11) + rm.locals ≤ R.locals) (hml : Ls.size = c.maxLocals) {argsL st : List Value} {sig : MethodDescriptor} (hpd : parseMethodDescriptor y.desc = some sig) (hlen : argsL.length = sig.parameters.length) (hst : st = argsL.reverse ++ rest) (has : argsL.toArray = as') (hW : (rest.map fun v => v.category).sum = W)
    (hd : decode c.code pc = .ok (.invokestatic index, 3)) (hp : pc + 3 = pc') (hc0 : rm.cells = 0) (hs0 : rm.slots = 0) (hc : cells + rm.cells ≤ R.cells) (hs : slots + rm.slots ≤ R.slots)
    {st' : List Value} (hst' : V.toList ++ rest = st')
    (k : ∀ T', Stand p l e R s m args below meth c T' locs cells slots → T'.heap = h → own_Go p e below Q T' (mkF m pc' Ls st')) : own_Go p e below Q T (mkF m pc Ls st) := by
  subst hst'
  refine o_callS X hx hZ eT hown w1 w2 w3 w4 hy hM hf hl hml hpd hlen hst has hW hd hp hc hs fun v T' L X' hK => ?_
  obtain ⟨rfl, e', rfl⟩ := hK
  rw [hc0, hs0, List.append_nil] at X'
  exact k T' X' e'
theorem own_snoc {a : Addr} {L : List Loc} {j : Nat} (N : ∀ y ∈ L, y.base = a) : ∀ y ∈ L ++ [⟨a, j⟩], y.base = a := fun y hy => (List.mem_append.mp hy).elim (N y) fun q => by cases List.mem_singleton.mp q; rfl
theorem own_nil (X : Stand p l e R s m args below meth c T (locs ++ []) cells slots) : Stand p l e R s m args below meth c T locs cells slots := by rw [List.append_nil] at X; exact X
/-- a body that writes into the array a alone -/
def own_KW (Z : State) (a : Addr) (ty : FieldType) (vs : List Int32) (h0 : Heap) : Option Value → Heap → List Loc → Prop := fun v h L => v = none ∧ (∀ y ∈ L, y.base = a) ∧ Keep h0 h [a] ∧ own_AI Z h a ty vs
def own_KWJ (Z : State) (a : Addr) (vs : List Int64) (h0 : Heap) : Option Value → Heap → List Loc → Prop := fun v h L => v = none ∧ (∀ y ∈ L, y.base = a) ∧ Keep h0 h [a] ∧ own_AJ Z h a vs
/-- a body that makes an array and hands it back -/
def own_KM (Z : State) (ty : FieldType) (vs : List Int32) (h0 : Heap) : Option Value → Heap → List Loc → Prop := fun v h L => ∃ b, v = some (.ref b) ∧ L = [] ∧ Keep h0 h [] ∧ h0.size ≤ b ∧ own_AI Z h b ty vs
/-- a store over a local that held nothing or one word -/
theorem o_istoreNS (X : Stand p l e R s m args below meth c T locs cells slots) (hx : p.tables.exec = Jvm.exec) {k : Fin 4} {o : Slot} (hd : decode c.code pc = .ok (.istore_n k, 1)) (hold : Ls[k.val]? = some o) (ho : One o) (hl : Ls.setIfInBounds k.val (.val (.int x)) = l') (hp : pc + 1 = pc') (q : own_Go p e below Q T (mkF m pc' l' rest)) : own_Go p e below Q T (mkF m pc Ls (.int x :: rest)) := by
  subst hp hl; exact own_go (fun t k' => XS.istoreNS X.here hx rfl hd rfl hold ho k') q
theorem o_istoreS (X : Stand p l e R s m args below meth c T locs cells slots) (hx : p.tables.exec = Jvm.exec) {k : Nat} {o : Slot} (hd : decode c.code pc = .ok (.istore k, 2)) (hold : Ls[k]? = some o) (ho : One o) (hl : Ls.setIfInBounds k (.val (.int x)) = l') (hp : pc + 2 = pc') (q : own_Go p e below Q T (mkF m pc' l' rest)) : own_Go p e below Q T (mkF m pc Ls (.int x :: rest)) := by
  subst hp hl; exact own_go (fun t k' => XS.istoreS X.here hx rfl hd rfl hold ho k') q
theorem o_astoreS (X : Stand p l e R s m args below meth c T locs cells slots) (hx : p.tables.exec = Jvm.exec) {k : Nat} {o : Slot} {v : Value} (hd : decode c.code pc = .ok (.astore k, 2)) (hv : v.isRef = true) (hcat : v.category = 1) (hold : Ls[k]? = some o) (ho : One o) (hl : Ls.setIfInBounds k (.val v) = l') (hp : pc + 2 = pc') (q : own_Go p e below Q T (mkF m pc' l' rest)) : own_Go p e below Q T (mkF m pc Ls (v :: rest)) := by
  subst hp hl; exact own_go (fun t k' => XS.astoreS X.here hx rfl hd rfl hv hcat hold ho k') q
end OwnKit
/-! own facts on numbers (with kit/NumsL) -/
theorem own_tmod (x y : Int32) : (own_rem x y).toInt = x.toInt.tmod y.toInt := by
  have a := (x % y).toInt_lt; have b := (x % y).le_toInt
  rw [Int32.toInt_mod] at a b
  show (x - (x / y) * y).toInt = _
  rw [Int32.toInt_sub, Int32.toInt_mul, Int32.toInt_div, Int.bmod_mul_bmod, Int.sub_bmod_bmod, Int.mul_comm, ← Int.tmod_def]
  exact Jvm.Kit.bmod32 b a
theorem own_emod {x y : Int32} (hx : 0 ≤ x.toInt) : (own_rem x y).toInt = x.toInt % y.toInt := by rw [own_tmod, Int.tmod_eq_emod_of_nonneg hx]
theorem own_lemod {u w : Int64} (hx : 0 ≤ u.toInt) : (own_lrem u w).toInt = u.toInt % w.toInt := Jvm.Kit.i64_rem_nonneg hx
theorem own_max (x : Int32) : (x &&& 2147483647).toInt = x.toInt % 2 ^ 31 := Jvm.Kit.i32_mask x 2147483647 (by decide) (by decide)
/-- x >>> k, k a number from 1 to 31, as a division of the number without sign -/
theorem own_ushr_toNat (x y : Int32) {k : Nat} (hk : (y &&& 31).toUInt32.toNat = k) (h1 : k < 32) : (own_ushr x y).toBitVec.toNat = x.toBitVec.toNat / 2 ^ k := by
  show ((x.toUInt32 >>> (y &&& 31).toUInt32).toInt32).toBitVec.toNat = _
  rw [UInt32.toBitVec_toInt32, UInt32.toBitVec_shiftRight]
  have e : ((y &&& 31).toUInt32.toBitVec % 32).toNat = k := by
    have e0 : (y &&& 31).toUInt32.toBitVec.toNat = k := hk
    rw [BitVec.toNat_umod, e0]
    exact Nat.mod_eq_of_lt h1
  show (x.toBitVec >>> ((y &&& 31).toUInt32.toBitVec % 32).toNat).toNat = _
  rw [e, BitVec.toNat_ushiftRight, Nat.shiftRight_eq_div_pow]
theorem own_ushr_toInt (x y : Int32) {k : Nat} (hk : (y &&& 31).toUInt32.toNat = k) (h0 : 0 < k) (h1 : k < 32) : (own_ushr x y).toInt = (x.toBitVec.toNat / 2 ^ k : Nat) := by
  have h := own_ushr_toNat x y hk h1
  have hb := x.toBitVec.isLt
  have h2 : x.toBitVec.toNat / 2 ^ k ≤ x.toBitVec.toNat / 2 ^ 1 := Nat.div_le_div_left (Nat.pow_le_pow_right (by decide) h0) (by decide)
  have e : (own_ushr x y).toInt = (own_ushr x y).toBitVec.toInt := rfl
  rw [e, BitVec.toInt_eq_toNat_cond, h, if_pos (by omega)]
theorem own_in_of {n : Nat} {j : Int32} (h0 : 0 ≤ j.toInt) (h1 : j.toInt < n) : own_in n j := by
  refine ⟨fun q => ?_, ?_⟩
  · rw [Int32.lt_iff_toInt_lt] at q
    have : (0 : Int32).toInt = 0 := rfl
    omega
  · rw [Int32.toNatClampNeg]; omega
theorem own_lt {x y : Int32} : x < y ↔ x.toInt < y.toInt := Int32.lt_iff_toInt_lt
theorem own_eq {x y : Int32} : x = y ↔ x.toInt = y.toInt := Int32.toInt_inj.symm
theorem own_ltL {x y : Int64} : x < y ↔ x.toInt < y.toInt := Int64.lt_iff_toInt_lt
theorem own_eqL {x y : Int64} : x = y ↔ x.toInt = y.toInt := Int64.toInt_inj.symm
theorem own_nat_toInt {k : Nat} (h : k < 2 ^ 31) : (Int32.ofNat k).toInt = k := Int32.toInt_ofNat_of_lt (by omega)
theorem own_nat_lt {i n : Nat} (hi : i < 2 ^ 31) (hn : n < 2 ^ 31) : Int32.ofNat i < Int32.ofNat n ↔ i < n := by
  rw [own_lt, own_nat_toInt hi, own_nat_toInt hn]; omega
theorem own_nat_one (i : Nat) : Int32.ofNat i + (1 : Int32) = Int32.ofNat (i + 1) := (Int32.ofNat_add i 1).symm
theorem own_nat_clamp {k : Nat} (h : k < 2 ^ 31) : (Int32.ofNat k).toNatClampNeg = k := by
  rw [Int32.toNatClampNeg, own_nat_toInt h]; rfl
theorem own_nat_get (v : List Int32) {k : Nat} (h : k < 2 ^ 31) : own_get v (Int32.ofNat k) = v.getD k 0 := by rw [own_get, own_nat_clamp h]
theorem own_nat_in {n k : Nat} (h : k < n) (hk : k < 2 ^ 31) : own_in n (Int32.ofNat k) := own_in_of (by rw [own_nat_toInt hk]; omega) (by rw [own_nat_toInt hk]; omega)
theorem own_nat_of {x : Int32} (h : 0 ≤ x.toInt) : ∃ k : Nat, x = Int32.ofNat k ∧ (k : Int) = x.toInt ∧ k < 2 ^ 31 := by
  have u := x.toInt_lt
  refine ⟨x.toInt.toNat, ?_, by omega, by omega⟩
  rw [own_eq, own_nat_toInt (by omega)]; omega
theorem own_nat_sub {a b : Nat} (ha : a < 2 ^ 31) (h : b ≤ a) : Int32.ofNat a - Int32.ofNat b = Int32.ofNat (a - b) := by
  have e1 := own_nat_toInt ha
  have e2 := own_nat_toInt (k := b) (by omega)
  have e3 := own_nat_toInt (k := a - b) (by omega)
  rw [own_eq, Jvm.Kit.i32_sub (by omega) (by omega)]
  omega
theorem own_i2b2 (x : Int32) : own_i2b (own_i2b x) = own_i2b x := by
  show (x.toInt8.toInt32).toInt8.toInt32 = x.toInt8.toInt32
  rw [Int8.toInt8_toInt32]
/-- a hash: 31 * h + the next, count times from place i on -/
def own_h (v : List Int32) : Int32 → Nat → Nat → Int32
  | h, _, 0 => h
  | h, i, c + 1 => own_h v (31 * h + v.getD i 0) (i + 1) c
def own_p : Nat → Int32
  | 0 => 1
  | n + 1 => 31 * own_p n
def own_sum (v : List Int32) : Nat → Nat → Int32
  | _, 0 => 0
  | i, c + 1 => v.getD i 0 * own_p c + own_sum v (i + 1) c
theorem own_h_eq (v : List Int32) : ∀ (c : Nat) (h : Int32) (i : Nat), own_h v h i c = h * own_p c + own_sum v i c := by
  intro c
  induction c with
  | zero => intro h i; simp only [own_h, own_p, own_sum, Int32.mul_one, Int32.add_zero]
  | succ c ih =>
    intro h i
    rw [own_h, ih, own_p, own_sum, Int32.add_mul, Int32.mul_comm 31 h, Int32.mul_assoc, Int32.add_assoc]
theorem own_toNat (x : Int32) : (x.toBitVec.toNat : Int) = x.toInt % 2 ^ 32 := by
  have e : x.toInt = x.toBitVec.toInt := rfl
  have h := x.toBitVec.isLt
  rw [e, BitVec.toInt_eq_toNat_cond]
  split <;> omega
theorem pd_0 : parseMethodDescriptor "(III)B" = some ⟨[.int, .int, .int], some .byte⟩ := by decide +kernel
theorem pd_1 : parseMethodDescriptor "([BIII)Z" = some ⟨[(.array .byte), .int, .int, .int], some .boolean⟩ := by decide +kernel
theorem pd_2 : parseMethodDescriptor "(J[BIII)J" = some ⟨[.long, (.array .byte), .int, .int, .int], some .long⟩ := by decide +kernel
theorem pd_3 : parseMethodDescriptor "([BIIJ)J" = some ⟨[(.array .byte), .int, .int, .long], some .long⟩ := by decide +kernel
theorem pd_4 : parseMethodDescriptor "(JJ)J" = some ⟨[.long, .long], some .long⟩ := by decide +kernel
theorem d1_0 : decode method_3_code 0 = .ok (.iload_n 0, 1) := by decide +kernel
theorem d1_1 : decode method_3_code 1 = .ok (.bipush 8, 2) := by decide +kernel
theorem d1_3 : decode method_3_code 3 = .ok (.iload_n 2, 1) := by decide +kernel
theorem d1_4 : decode method_3_code 4 = .ok (.imul, 1) := by decide +kernel
theorem d1_5 : decode method_3_code 5 = .ok (.iushr, 1) := by decide +kernel
theorem d1_6 : decode method_3_code 6 = .ok (.sipush 255, 3) := by decide +kernel
theorem d1_9 : decode method_3_code 9 = .ok (.iand, 1) := by decide +kernel
theorem d1_10 : decode method_3_code 10 = .ok (.istore_n 3, 1) := by decide +kernel
theorem d1_11 : decode method_3_code 11 = .ok (.iload_n 1, 1) := by decide +kernel
theorem d1_12 : decode method_3_code 12 = .ok (.bipush 8, 2) := by decide +kernel
theorem d1_14 : decode method_3_code 14 = .ok (.iload_n 2, 1) := by decide +kernel
theorem d1_15 : decode method_3_code 15 = .ok (.iadd, 1) := by decide +kernel
theorem d1_16 : decode method_3_code 16 = .ok (.iushr, 1) := by decide +kernel
theorem d1_17 : decode method_3_code 17 = .ok (.iconst 1, 1) := by decide +kernel
theorem d1_18 : decode method_3_code 18 = .ok (.iand, 1) := by decide +kernel
theorem d1_19 : decode method_3_code 19 = .ok (.ifCond .eq 12, 3) := by decide +kernel
theorem d1_22 : decode method_3_code 22 = .ok (.bipush 48, 2) := by decide +kernel
theorem d1_24 : decode method_3_code 24 = .ok (.iload_n 3, 1) := by decide +kernel
theorem d1_25 : decode method_3_code 25 = .ok (.bipush 10, 2) := by decide +kernel
theorem d1_27 : decode method_3_code 27 = .ok (.irem, 1) := by decide +kernel
theorem d1_28 : decode method_3_code 28 = .ok (.iadd, 1) := by decide +kernel
theorem d1_29 : decode method_3_code 29 = .ok (.i2b, 1) := by decide +kernel
theorem d1_30 : decode method_3_code 30 = .ok (.ireturn, 1) := by decide +kernel
theorem d1_31 : decode method_3_code 31 = .ok (.iload_n 3, 1) := by decide +kernel
theorem d1_32 : decode method_3_code 32 = .ok (.i2b, 1) := by decide +kernel
theorem d1_33 : decode method_3_code 33 = .ok (.ireturn, 1) := by decide +kernel
section Body1
variable {p : Program} {l : Launch} {e : Env} {s : State} {m : MethodId} {args : Array Value} {below : List Frame} {meth : Method} {c : Code} {Z : State} {ag : Array Value} {K : Option Value → Heap → List Loc → Prop}
abbrev R1 : Room := { frames := 0, cells := 0, slots := 0, locals := 0 }
abbrev cc1 : Nat := 0
abbrev ss1 : Nat := 0
def f1_0 (p0 : Int32) (p1 : Int32) (p2 : Int32) : Int32 := (if ((own_ushr p1 ((8 : Int32) + p2)) &&& (1 : Int32)) = (0 : Int32) then (own_i2b (own_i2b ((own_ushr p0 ((8 : Int32) * p2)) &&& (255 : Int32)))) else (own_i2b (own_i2b ((48 : Int32) + (own_rem ((own_ushr p0 ((8 : Int32) * p2)) &&& (255 : Int32)) (10 : Int32))))))
set_option maxRecDepth 65536 in
set_option maxHeartbeats 40000000 in
theorem b1_0 (C : own_Cx p s m meth c Z ag method_3_code 4 "com/example/ledgerline/ledgerline/cli/OptionsDecimalValuePinLaw" (some .byte) "pick") {T : State} {h : Heap} (p0 : Int32) (p1 : Int32) (p2 : Int32) (X : Stand p l e R1 s m args below meth c T [] 0 0) (eT : T.heap = h) (hK : K (some (.int (f1_0 p0 p1 p2))) h []) : own_Go p e below (own_Q s K cc1 ss1) T (mkF m 0 #[.val (.int p0), .val (.int p1), .val (.int p2), .unset] []) := by
  obtain ⟨hx, hZ, hw, hby, hml, hown, hret, hlk, hnm⟩ := id C
  unfold f1_0 at hK
  refine o_iloadN (pc' := 1) X hx (hb hby d1_0) rfl rfl ?_
  refine o_bipush (pc' := 3) (x := (8 : Int32)) X hx (hb hby d1_1) (by decide) rfl ?_
  refine o_iloadN (pc' := 4) X hx (hb hby d1_3) rfl rfl ?_
  refine o_imul (pc' := 5)  X hx (hb hby d1_4) rfl rfl ?_
  refine o_iushr (pc' := 6)  X hx (hb hby d1_5) rfl rfl ?_
  refine o_sipush (pc' := 9) (x := (255 : Int32)) X hx (hb hby d1_6) (by decide) rfl ?_
  refine o_iand (pc' := 10)  X hx (hb hby d1_9) rfl rfl ?_
  refine o_istoreN (pc' := 11) (l' := #[.val (.int p0), .val (.int p1), .val (.int p2), .val (.int ((own_ushr p0 ((8 : Int32) * p2)) &&& (255 : Int32)))]) X hx (hb hby d1_10) rfl rfl ?_
  refine o_iloadN (pc' := 12) X hx (hb hby d1_11) rfl rfl ?_
  refine o_bipush (pc' := 14) (x := (8 : Int32)) X hx (hb hby d1_12) (by decide) rfl ?_
  refine o_iloadN (pc' := 15) X hx (hb hby d1_14) rfl rfl ?_
  refine o_iadd (pc' := 16)  X hx (hb hby d1_15) rfl rfl ?_
  refine o_iushr (pc' := 17)  X hx (hb hby d1_16) rfl rfl ?_
  refine o_iconst (pc' := 18) (x := (1 : Int32)) X hx (hb hby d1_17) (by decide) rfl ?_
  refine o_iand (pc' := 19)  X hx (hb hby d1_18) rfl rfl ?_
  refine o_ifP (P := ((own_ushr p1 ((8 : Int32) + p2)) &&& (1 : Int32)) = (0 : Int32)) (pc1 := 31) (pc2 := 22) X hx XT.i0_eq_t XT.i0_eq_f (hb hby d1_19) (by decide) (by decide) rfl (fun c1 => ?_) (fun c1 => ?_)
  · rw [if_pos c1] at hK
    refine o_iloadN (pc' := 32) X hx (hb hby d1_31) rfl rfl ?_
    refine o_i2b (pc' := 33)  X hx (hb hby d1_32) rfl rfl ?_
    exact o_retN X hx (t := .byte) hret (by simp) hlk (hb hby d1_33) (by decide) (by decide) eT (hK)
  · rw [if_neg c1] at hK
    refine o_bipush (pc' := 24) (x := (48 : Int32)) X hx (hb hby d1_22) (by decide) rfl ?_
    refine o_iloadN (pc' := 25) X hx (hb hby d1_24) rfl rfl ?_
    refine o_bipush (pc' := 27) (x := (10 : Int32)) X hx (hb hby d1_25) (by decide) rfl ?_
    refine o_irem (pc' := 28)  X hx (hb hby d1_27) rfl (by decide) rfl ?_
    refine o_iadd (pc' := 29)  X hx (hb hby d1_28) rfl rfl ?_
    refine o_i2b (pc' := 30)  X hx (hb hby d1_29) rfl rfl ?_
    exact o_retN X hx (t := .byte) hret (by simp) hlk (hb hby d1_30) (by decide) (by decide) eT (hK)

end Body1
theorem pn_OptionsDecimalValuePinLaw : plainName "com/example/ledgerline/ledgerline/cli/OptionsDecimalValuePinLaw" = true := by first | (simp [plainName, overriddenIn]; done) | decide +kernel
theorem ef_1 (m : MethodId) (p0 : Int32) (p1 : Int32) (p2 : Int32) : entryFrame m #[(.int p0), (.int p1), (.int p2)] 4 = mkF m 0 #[.val (.int p0), .val (.int p1), .val (.int p2), .unset] [] := by first | (simp [entryFrame, mkF, argsToLocals, Value.category]; done) | rfl
set_option maxRecDepth 65536 in
set_option maxHeartbeats 40000000 in
theorem rm1 (l : Launch) (Z : State) (ag : Array Value) (hw : ∀ d ∈ tables_1, d.before ag Z = true) (ws : List Jvm.Cond) (p0 : Int32) (p1 : Int32) (p2 : Int32) (h0 : Heap) :
    MetFree l (⟨"com/example/ledgerline/ledgerline/cli/OptionsDecimalValuePinLaw", "pick", "(III)B"⟩ : MethodName) (head1 (Jvm.Cond.code (⟨"com/example/ledgerline/ledgerline/cli/OptionsDecimalValuePinLaw", "pick", "(III)B"⟩ : MethodName) method_3_code 4 (some .byte) :: ws) R1) (fun a U => a = #[(.int p0), (.int p1), (.int p2)] ∧ Z.Warmed39 U.vm ∧ U.heap = h0) (fun _ _ _ _ _ => True) (fun _ U o U' => ∃ v L, o = .returned v ∧ own_KP (some (.int (f1_0 p0 p1 p2))) h0 v U'.heap L ∧ FrameEnd U o U' L R1.cells R1.slots) := by
  refine MetFree.of_bodySF (plainFor_of_name pn_OptionsDecimalValuePinLaw) hisR ?_
  intro p e s m args below meth c s₁ Bd hml0 hP hK
  obtain ⟨rfl, hZ, hh⟩ := hP
  have C : own_Cx p s m meth c Z ag method_3_code 4 "com/example/ledgerline/ledgerline/cli/OptionsDecimalValuePinLaw" (some .byte) "pick" := ⟨Bd.exec, hZ, hw, Bd.bytes, hml0, findClass_of_methodNamed Bd.named, Bd.returns, Bd.notSynchronized, (name_of_methodNamed Bd.named Bd.method).1⟩
  have X0 : Stand p l e R1 s m #[(.int p0), (.int p1), (.int p2)] below meth c s₁ [] 0 0 := Stand.of_body Bd
  have e0 : s₁.heap = h0 := by rw [← hh, Bd.state]; rfl
  rw [ef_1]
  exact b1_0 (K := own_KP (some (.int (f1_0 p0 p1 p2))) h0) C p0 p1 p2 X0 e0 ⟨rfl, rfl, rfl⟩

theorem d2_0 : decode method_4_code 0 = .ok (.iload_n 1, 1) := by decide +kernel
theorem d2_1 : decode method_4_code 1 = .ok (.iload_n 2, 1) := by decide +kernel
theorem d2_2 : decode method_4_code 2 = .ok (.if_icmp .lt 8, 3) := by decide +kernel
theorem d2_5 : decode method_4_code 5 = .ok (.iload_n 1, 1) := by decide +kernel
theorem d2_6 : decode method_4_code 6 = .ok (.iload_n 3, 1) := by decide +kernel
theorem d2_7 : decode method_4_code 7 = .ok (.if_icmp .lt 5, 3) := by decide +kernel
theorem d2_10 : decode method_4_code 10 = .ok (.iconst 1, 1) := by decide +kernel
theorem d2_11 : decode method_4_code 11 = .ok (.ireturn, 1) := by decide +kernel
theorem d2_12 : decode method_4_code 12 = .ok (.aload_n 0, 1) := by decide +kernel
theorem d2_13 : decode method_4_code 13 = .ok (.iload_n 1, 1) := by decide +kernel
theorem d2_14 : decode method_4_code 14 = .ok (.baload, 1) := by decide +kernel
theorem d2_15 : decode method_4_code 15 = .ok (.bipush 48, 2) := by decide +kernel
theorem d2_17 : decode method_4_code 17 = .ok (.if_icmp .lt 15, 3) := by decide +kernel
theorem d2_20 : decode method_4_code 20 = .ok (.aload_n 0, 1) := by decide +kernel
theorem d2_21 : decode method_4_code 21 = .ok (.iload_n 1, 1) := by decide +kernel
theorem d2_22 : decode method_4_code 22 = .ok (.baload, 1) := by decide +kernel
theorem d2_23 : decode method_4_code 23 = .ok (.bipush 57, 2) := by decide +kernel
theorem d2_25 : decode method_4_code 25 = .ok (.if_icmp .gt 7, 3) := by decide +kernel
theorem d2_28 : decode method_4_code 28 = .ok (.iconst 1, 1) := by decide +kernel
theorem d2_29 : decode method_4_code 29 = .ok (.goto 4, 3) := by decide +kernel
theorem d2_32 : decode method_4_code 32 = .ok (.iconst 0, 1) := by decide +kernel
theorem d2_33 : decode method_4_code 33 = .ok (.ireturn, 1) := by decide +kernel
section Body2
variable {p : Program} {l : Launch} {e : Env} {s : State} {m : MethodId} {args : Array Value} {below : List Frame} {meth : Method} {c : Code} {Z : State} {ag : Array Value} {K : Option Value → Heap → List Loc → Prop}
abbrev R2 : Room := { frames := 0, cells := 0, slots := 0, locals := 0 }
abbrev cc2 : Nat := 0
abbrev ss2 : Nat := 0
def f2_10 : Int32 := (1 : Int32)
set_option maxRecDepth 65536 in
set_option maxHeartbeats 40000000 in
theorem b2_10 (C : own_Cx p s m meth c Z ag method_4_code 4 "com/example/ledgerline/ledgerline/cli/OptionsDecimalValuePinLaw" (some .boolean) "digitIn") {T : State} {h : Heap} {z0 : Slot} {z1 : Slot} {z2 : Slot} {z3 : Slot} (X : Stand p l e R2 s m args below meth c T [] 0 0) (eT : T.heap = h) (hz0 : One z0) (hz1 : One z1) (hz2 : One z2) (hz3 : One z3) (hK : K (some (.int (f2_10))) h []) : own_Go p e below (own_Q s K cc2 ss2) T (mkF m 10 #[z0, z1, z2, z3] []) := by
  obtain ⟨hx, hZ, hw, hby, hml, hown, hret, hlk, hnm⟩ := id C
  unfold f2_10 at hK
  refine o_iconst (pc' := 11) (x := (1 : Int32)) X hx (hb hby d2_10) (by decide) rfl ?_
  exact o_retN X hx (t := .boolean) hret (by simp) hlk (hb hby d2_11) (by decide) (by decide) eT (hK)

def f2_33 : Int32 := (0 : Int32)
set_option maxRecDepth 65536 in
set_option maxHeartbeats 40000000 in
theorem b2_33 (C : own_Cx p s m meth c Z ag method_4_code 4 "com/example/ledgerline/ledgerline/cli/OptionsDecimalValuePinLaw" (some .boolean) "digitIn") {T : State} {h : Heap} {z0 : Slot} {z1 : Slot} {z2 : Slot} {z3 : Slot} (X : Stand p l e R2 s m args below meth c T [] 0 0) (eT : T.heap = h) (hz0 : One z0) (hz1 : One z1) (hz2 : One z2) (hz3 : One z3) (hK : K (some (.int (f2_33))) h []) : own_Go p e below (own_Q s K cc2 ss2) T (mkF m 33 #[z0, z1, z2, z3] [(.int (0 : Int32))]) := by
  obtain ⟨hx, hZ, hw, hby, hml, hown, hret, hlk, hnm⟩ := id C
  unfold f2_33 at hK
  exact o_retN X hx (t := .boolean) hret (by simp) hlk (hb hby d2_33) (by decide) (by decide) eT (hK)

def f2_32 : Int32 := f2_33
set_option maxRecDepth 65536 in
set_option maxHeartbeats 40000000 in
theorem b2_32 (C : own_Cx p s m meth c Z ag method_4_code 4 "com/example/ledgerline/ledgerline/cli/OptionsDecimalValuePinLaw" (some .boolean) "digitIn") {T : State} {h : Heap} {z0 : Slot} {z1 : Slot} {z2 : Slot} {z3 : Slot} (X : Stand p l e R2 s m args below meth c T [] 0 0) (eT : T.heap = h) (hz0 : One z0) (hz1 : One z1) (hz2 : One z2) (hz3 : One z3) (hK : K (some (.int (f2_32))) h []) : own_Go p e below (own_Q s K cc2 ss2) T (mkF m 32 #[z0, z1, z2, z3] []) := by
  obtain ⟨hx, hZ, hw, hby, hml, hown, hret, hlk, hnm⟩ := id C
  unfold f2_32 at hK
  refine o_iconst (pc' := 33) (x := (0 : Int32)) X hx (hb hby d2_32) (by decide) rfl ?_
  exact b2_33 C X eT hz0 hz1 hz2 hz3 hK

def f2_33_4 : Int32 := (1 : Int32)
set_option maxRecDepth 65536 in
set_option maxHeartbeats 40000000 in
theorem b2_33_4 (C : own_Cx p s m meth c Z ag method_4_code 4 "com/example/ledgerline/ledgerline/cli/OptionsDecimalValuePinLaw" (some .boolean) "digitIn") {T : State} {h : Heap} {z0 : Slot} {z1 : Slot} {z2 : Slot} {z3 : Slot} (X : Stand p l e R2 s m args below meth c T [] 0 0) (eT : T.heap = h) (hz0 : One z0) (hz1 : One z1) (hz2 : One z2) (hz3 : One z3) (hK : K (some (.int (f2_33_4))) h []) : own_Go p e below (own_Q s K cc2 ss2) T (mkF m 33 #[z0, z1, z2, z3] [(.int (1 : Int32))]) := by
  obtain ⟨hx, hZ, hw, hby, hml, hown, hret, hlk, hnm⟩ := id C
  unfold f2_33_4 at hK
  exact o_retN X hx (t := .boolean) hret (by simp) hlk (hb hby d2_33) (by decide) (by decide) eT (hK)

def f2_0 (v0 : List Int32) (p1 : Int32) (p2 : Int32) (p3 : Int32) : Int32 := (if p1 < p2 then f2_10 else (if p1 < p3 then (if (own_get v0 p1) < (48 : Int32) then f2_32 else (if (57 : Int32) < (own_get v0 p1) then f2_32 else f2_33_4)) else f2_10))
def s2_0 (v0 : List Int32) (p1 : Int32) (p2 : Int32) (p3 : Int32) : Prop := ((p1 < p2 → True) ∧ (¬ (p1 < p2) → ((p1 < p3 → (own_in v0.length p1 ∧ (((own_get v0 p1) < (48 : Int32) → True) ∧ (¬ ((own_get v0 p1) < (48 : Int32)) → (own_in v0.length p1 ∧ True))))) ∧ (¬ (p1 < p3) → True))))
set_option maxRecDepth 65536 in
set_option maxHeartbeats 40000000 in
theorem b2_0 (C : own_Cx p s m meth c Z ag method_4_code 4 "com/example/ledgerline/ledgerline/cli/OptionsDecimalValuePinLaw" (some .boolean) "digitIn") {T : State} {h : Heap} (a0 : Addr) (v0 : List Int32) (p1 : Int32) (p2 : Int32) (p3 : Int32) (X : Stand p l e R2 s m args below meth c T [] 0 0) (eT : T.heap = h) (Aa0 : own_AI Z h a0 .byte v0) (hs : s2_0 v0 p1 p2 p3) (hK : K (some (.int (f2_0 v0 p1 p2 p3))) h []) : own_Go p e below (own_Q s K cc2 ss2) T (mkF m 0 #[.val (.ref a0), .val (.int p1), .val (.int p2), .val (.int p3)] []) := by
  obtain ⟨hx, hZ, hw, hby, hml, hown, hret, hlk, hnm⟩ := id C
  unfold f2_0 at hK
  unfold s2_0 at hs
  refine o_iloadN (pc' := 1) X hx (hb hby d2_0) rfl rfl ?_
  refine o_iloadN (pc' := 2) X hx (hb hby d2_1) rfl rfl ?_
  refine o_icP (P := p1 < p2) (pc1 := 10) (pc2 := 5) X hx XT.ii_lt_t XT.ii_lt_f (hb hby d2_2) (by decide) (by decide) rfl (fun c2 => ?_) (fun c2 => ?_)
  · rw [if_pos c2] at hK
    exact b2_10 C X eT (One.val rfl) (One.val rfl) (One.val rfl) (One.val rfl) hK
  · rw [if_neg c2] at hK
    refine o_iloadN (pc' := 6) X hx (hb hby d2_5) rfl rfl ?_
    refine o_iloadN (pc' := 7) X hx (hb hby d2_6) rfl rfl ?_
    refine o_icP (P := p1 < p3) (pc1 := 12) (pc2 := 10) X hx XT.ii_lt_t XT.ii_lt_f (hb hby d2_7) (by decide) (by decide) rfl (fun c3 => ?_) (fun c3 => ?_)
    · rw [if_pos c3] at hK
      refine o_aloadN (pc' := 13) X hx (hb hby d2_12) rfl rfl rfl ?_
      refine o_iloadN (pc' := 14) X hx (hb hby d2_13) rfl rfl ?_
      refine o_baload (pc' := 15)  X hx hZ eT Aa0 ((hs.2 c2).1 c3).1 (hb hby d2_14) rfl rfl ?_
      refine o_bipush (pc' := 17) (x := (48 : Int32)) X hx (hb hby d2_15) (by decide) rfl ?_
      refine o_icP (P := (own_get v0 p1) < (48 : Int32)) (pc1 := 32) (pc2 := 20) X hx XT.ii_lt_t XT.ii_lt_f (hb hby d2_17) (by decide) (by decide) rfl (fun c4 => ?_) (fun c4 => ?_)
      · rw [if_pos c4] at hK
        exact b2_32 C X eT (One.val rfl) (One.val rfl) (One.val rfl) (One.val rfl) hK
      · rw [if_neg c4] at hK
        refine o_aloadN (pc' := 21) X hx (hb hby d2_20) rfl rfl rfl ?_
        refine o_iloadN (pc' := 22) X hx (hb hby d2_21) rfl rfl ?_
        refine o_baload (pc' := 23)  X hx hZ eT Aa0 (((hs.2 c2).1 c3).2.2 c4).1 (hb hby d2_22) rfl rfl ?_
        refine o_bipush (pc' := 25) (x := (57 : Int32)) X hx (hb hby d2_23) (by decide) rfl ?_
        refine o_icP (P := (57 : Int32) < (own_get v0 p1)) (pc1 := 32) (pc2 := 28) X hx XT.ii_gt_t XT.ii_gt_f (hb hby d2_25) (by decide) (by decide) rfl (fun c5 => ?_) (fun c5 => ?_)
        · rw [if_pos c5] at hK
          exact b2_32 C X eT (One.val rfl) (One.val rfl) (One.val rfl) (One.val rfl) hK
        · rw [if_neg c5] at hK
          refine o_iconst (pc' := 29) (x := (1 : Int32)) X hx (hb hby d2_28) (by decide) rfl ?_
          refine o_goto (pc' := 33) X hx (hb hby d2_29) (by decide) (by decide) ?_
          exact b2_33_4 C X eT (One.val rfl) (One.val rfl) (One.val rfl) (One.val rfl) hK
    · rw [if_neg c3] at hK
      exact b2_10 C X eT (One.val rfl) (One.val rfl) (One.val rfl) (One.val rfl) hK

end Body2
theorem ef_2 (m : MethodId) (a0 : Addr) (p1 : Int32) (p2 : Int32) (p3 : Int32) : entryFrame m #[(.ref a0), (.int p1), (.int p2), (.int p3)] 4 = mkF m 0 #[.val (.ref a0), .val (.int p1), .val (.int p2), .val (.int p3)] [] := by first | (simp [entryFrame, mkF, argsToLocals, Value.category]; done) | rfl
set_option maxRecDepth 65536 in
set_option maxHeartbeats 40000000 in
theorem rm2 (l : Launch) (Z : State) (ag : Array Value) (hw : ∀ d ∈ tables_1, d.before ag Z = true) (ws : List Jvm.Cond) (a0 : Addr) (v0 : List Int32) (p1 : Int32) (p2 : Int32) (p3 : Int32) (h0 : Heap) (Aa0 : own_AI Z h0 a0 .byte v0) (hs : s2_0 v0 p1 p2 p3) :
    MetFree l (⟨"com/example/ledgerline/ledgerline/cli/OptionsDecimalValuePinLaw", "digitIn", "([BIII)Z"⟩ : MethodName) (head1 (Jvm.Cond.code (⟨"com/example/ledgerline/ledgerline/cli/OptionsDecimalValuePinLaw", "digitIn", "([BIII)Z"⟩ : MethodName) method_4_code 4 (some .boolean) :: ws) R2) (fun a U => a = #[(.ref a0), (.int p1), (.int p2), (.int p3)] ∧ Z.Warmed39 U.vm ∧ U.heap = h0) (fun _ _ _ _ _ => True) (fun _ U o U' => ∃ v L, o = .returned v ∧ own_KP (some (.int (f2_0 v0 p1 p2 p3))) h0 v U'.heap L ∧ FrameEnd U o U' L R2.cells R2.slots) := by
  refine MetFree.of_bodySF (plainFor_of_name pn_OptionsDecimalValuePinLaw) hisR ?_
  intro p e s m args below meth c s₁ Bd hml0 hP hK
  obtain ⟨rfl, hZ, hh⟩ := hP
  have C : own_Cx p s m meth c Z ag method_4_code 4 "com/example/ledgerline/ledgerline/cli/OptionsDecimalValuePinLaw" (some .boolean) "digitIn" := ⟨Bd.exec, hZ, hw, Bd.bytes, hml0, findClass_of_methodNamed Bd.named, Bd.returns, Bd.notSynchronized, (name_of_methodNamed Bd.named Bd.method).1⟩
  have X0 : Stand p l e R2 s m #[(.ref a0), (.int p1), (.int p2), (.int p3)] below meth c s₁ [] 0 0 := Stand.of_body Bd
  have e0 : s₁.heap = h0 := by rw [← hh, Bd.state]; rfl
  rw [ef_2]
  exact b2_0 (K := own_KP (some (.int (f2_0 v0 p1 p2 p3))) h0) C a0 v0 p1 p2 p3 X0 e0 Aa0 hs ⟨rfl, rfl, rfl⟩

theorem d3_0 : decode method_5_code 0 = .ok (.iload_n 3, 1) := by decide +kernel
theorem d3_1 : decode method_5_code 1 = .ok (.iload 4, 2) := by decide +kernel
theorem d3_3 : decode method_5_code 3 = .ok (.if_icmp .lt 9, 3) := by decide +kernel
theorem d3_6 : decode method_5_code 6 = .ok (.iload_n 3, 1) := by decide +kernel
theorem d3_7 : decode method_5_code 7 = .ok (.iload 5, 2) := by decide +kernel
theorem d3_9 : decode method_5_code 9 = .ok (.if_icmp .lt 5, 3) := by decide +kernel
theorem d3_12 : decode method_5_code 12 = .ok (.lload_n 0, 1) := by decide +kernel
theorem d3_13 : decode method_5_code 13 = .ok (.lreturn, 1) := by decide +kernel
theorem d3_14 : decode method_5_code 14 = .ok (.lload_n 0, 1) := by decide +kernel
theorem d3_15 : decode method_5_code 15 = .ok (.ldc2_w 45, 3) := by decide +kernel
theorem d3_18 : decode method_5_code 18 = .ok (.lmul, 1) := by decide +kernel
theorem d3_19 : decode method_5_code 19 = .ok (.aload_n 2, 1) := by decide +kernel
theorem d3_20 : decode method_5_code 20 = .ok (.iload_n 3, 1) := by decide +kernel
theorem d3_21 : decode method_5_code 21 = .ok (.baload, 1) := by decide +kernel
theorem d3_22 : decode method_5_code 22 = .ok (.bipush 48, 2) := by decide +kernel
theorem d3_24 : decode method_5_code 24 = .ok (.isub, 1) := by decide +kernel
theorem d3_25 : decode method_5_code 25 = .ok (.i2l, 1) := by decide +kernel
theorem d3_26 : decode method_5_code 26 = .ok (.ladd, 1) := by decide +kernel
theorem d3_27 : decode method_5_code 27 = .ok (.lreturn, 1) := by decide +kernel
section Body3
variable {p : Program} {l : Launch} {e : Env} {s : State} {m : MethodId} {args : Array Value} {below : List Frame} {meth : Method} {c : Code} {Z : State} {ag : Array Value} {K : Option Value → Heap → List Loc → Prop}
abbrev R3 : Room := { frames := 0, cells := 0, slots := 0, locals := 0 }
abbrev cc3 : Nat := 0
abbrev ss3 : Nat := 0
def f3_12 (x0 : Int64) : Int64 := x0
set_option maxRecDepth 65536 in
set_option maxHeartbeats 40000000 in
theorem b3_12 (C : own_Cx p s m meth c Z ag method_5_code 6 "com/example/ledgerline/ledgerline/cli/OptionsDecimalValuePinLaw" (some .long) "step") {T : State} {h : Heap} {z2 : Slot} {z3 : Slot} {z4 : Slot} {z5 : Slot} (x0 : Int64) (X : Stand p l e R3 s m args below meth c T [] 0 0) (eT : T.heap = h) (hz2 : One z2) (hz3 : One z3) (hz4 : One z4) (hz5 : One z5) (hK : K (some (.long (f3_12 x0))) h []) : own_Go p e below (own_Q s K cc3 ss3) T (mkF m 12 #[.val (.long x0), .second, z2, z3, z4, z5] []) := by
  obtain ⟨hx, hZ, hw, hby, hml, hown, hret, hlk, hnm⟩ := id C
  unfold f3_12 at hK
  refine o_lloadN (pc' := 13) X hx (hb hby d3_12) rfl rfl ?_
  exact o_retL X hx hret hlk (hb hby d3_13) (by decide) (by decide) eT (hK)

def f3_0 (q0 : Int64) (v1 : List Int32) (p2 : Int32) (p3 : Int32) (p4 : Int32) : Int64 := (if p2 < p3 then (f3_12 q0) else (if p2 < p4 then ((q0 * (10 : Int64)) + (((own_get v1 p2) - (48 : Int32)).toInt64)) else (f3_12 q0)))
def s3_0 (q0 : Int64) (v1 : List Int32) (p2 : Int32) (p3 : Int32) (p4 : Int32) : Prop := ((p2 < p3 → True) ∧ (¬ (p2 < p3) → ((p2 < p4 → (own_in v1.length p2 ∧ True)) ∧ (¬ (p2 < p4) → True))))
set_option maxRecDepth 65536 in
set_option maxHeartbeats 40000000 in
theorem b3_0 (C : own_Cx p s m meth c Z ag method_5_code 6 "com/example/ledgerline/ledgerline/cli/OptionsDecimalValuePinLaw" (some .long) "step") {T : State} {h : Heap} (q0 : Int64) (a1 : Addr) (v1 : List Int32) (p2 : Int32) (p3 : Int32) (p4 : Int32) (X : Stand p l e R3 s m args below meth c T [] 0 0) (eT : T.heap = h) (Aa1 : own_AI Z h a1 .byte v1) (hs : s3_0 q0 v1 p2 p3 p4) (hK : K (some (.long (f3_0 q0 v1 p2 p3 p4))) h []) : own_Go p e below (own_Q s K cc3 ss3) T (mkF m 0 #[.val (.long q0), .second, .val (.ref a1), .val (.int p2), .val (.int p3), .val (.int p4)] []) := by
  obtain ⟨hx, hZ, hw, hby, hml, hown, hret, hlk, hnm⟩ := id C
  unfold f3_0 at hK
  unfold s3_0 at hs
  refine o_iloadN (pc' := 1) X hx (hb hby d3_0) rfl rfl ?_
  refine o_iload (pc' := 3) X hx (hb hby d3_1) rfl rfl ?_
  refine o_icP (P := p2 < p3) (pc1 := 12) (pc2 := 6) X hx XT.ii_lt_t XT.ii_lt_f (hb hby d3_3) (by decide) (by decide) rfl (fun c6 => ?_) (fun c6 => ?_)
  · rw [if_pos c6] at hK
    exact b3_12 C q0 X eT (One.val rfl) (One.val rfl) (One.val rfl) (One.val rfl) hK
  · rw [if_neg c6] at hK
    refine o_iloadN (pc' := 7) X hx (hb hby d3_6) rfl rfl ?_
    refine o_iload (pc' := 9) X hx (hb hby d3_7) rfl rfl ?_
    refine o_icP (P := p2 < p4) (pc1 := 14) (pc2 := 12) X hx XT.ii_lt_t XT.ii_lt_f (hb hby d3_9) (by decide) (by decide) rfl (fun c7 => ?_) (fun c7 => ?_)
    · rw [if_pos c7] at hK
      refine o_lloadN (pc' := 15) X hx (hb hby d3_14) rfl rfl ?_
      refine o_ldcL (pc' := 18) X hx hZ hown (hw _ (List.mem_of_getElem? (i := 20) rfl)) (hb hby d3_15) rfl ?_
      refine o_lmul (pc' := 19)  X hx (hb hby d3_18) rfl rfl ?_
      refine o_aloadN (pc' := 20) X hx (hb hby d3_19) rfl rfl rfl ?_
      refine o_iloadN (pc' := 21) X hx (hb hby d3_20) rfl rfl ?_
      refine o_baload (pc' := 22)  X hx hZ eT Aa1 ((hs.2 c6).1 c7).1 (hb hby d3_21) rfl rfl ?_
      refine o_bipush (pc' := 24) (x := (48 : Int32)) X hx (hb hby d3_22) (by decide) rfl ?_
      refine o_isub (pc' := 25)  X hx (hb hby d3_24) rfl rfl ?_
      refine o_i2l (pc' := 26)  X hx (hb hby d3_25) rfl rfl ?_
      refine o_ladd (pc' := 27)  X hx (hb hby d3_26) rfl rfl ?_
      exact o_retL X hx hret hlk (hb hby d3_27) (by decide) (by decide) eT (hK)
    · rw [if_neg c7] at hK
      exact b3_12 C q0 X eT (One.val rfl) (One.val rfl) (One.val rfl) (One.val rfl) hK

end Body3
theorem ef_3 (m : MethodId) (q0 : Int64) (a1 : Addr) (p2 : Int32) (p3 : Int32) (p4 : Int32) : entryFrame m #[(.long q0), (.ref a1), (.int p2), (.int p3), (.int p4)] 6 = mkF m 0 #[.val (.long q0), .second, .val (.ref a1), .val (.int p2), .val (.int p3), .val (.int p4)] [] := by first | (simp [entryFrame, mkF, argsToLocals, Value.category]; done) | rfl
set_option maxRecDepth 65536 in
set_option maxHeartbeats 40000000 in
theorem rm3 (l : Launch) (Z : State) (ag : Array Value) (hw : ∀ d ∈ tables_1, d.before ag Z = true) (ws : List Jvm.Cond) (q0 : Int64) (a1 : Addr) (v1 : List Int32) (p2 : Int32) (p3 : Int32) (p4 : Int32) (h0 : Heap) (Aa1 : own_AI Z h0 a1 .byte v1) (hs : s3_0 q0 v1 p2 p3 p4) :
    MetFree l (⟨"com/example/ledgerline/ledgerline/cli/OptionsDecimalValuePinLaw", "step", "(J[BIII)J"⟩ : MethodName) (head1 (Jvm.Cond.code (⟨"com/example/ledgerline/ledgerline/cli/OptionsDecimalValuePinLaw", "step", "(J[BIII)J"⟩ : MethodName) method_5_code 6 (some .long) :: ws) R3) (fun a U => a = #[(.long q0), (.ref a1), (.int p2), (.int p3), (.int p4)] ∧ Z.Warmed39 U.vm ∧ U.heap = h0) (fun _ _ _ _ _ => True) (fun _ U o U' => ∃ v L, o = .returned v ∧ own_KP (some (.long (f3_0 q0 v1 p2 p3 p4))) h0 v U'.heap L ∧ FrameEnd U o U' L R3.cells R3.slots) := by
  refine MetFree.of_bodySF (plainFor_of_name pn_OptionsDecimalValuePinLaw) hisR ?_
  intro p e s m args below meth c s₁ Bd hml0 hP hK
  obtain ⟨rfl, hZ, hh⟩ := hP
  have C : own_Cx p s m meth c Z ag method_5_code 6 "com/example/ledgerline/ledgerline/cli/OptionsDecimalValuePinLaw" (some .long) "step" := ⟨Bd.exec, hZ, hw, Bd.bytes, hml0, findClass_of_methodNamed Bd.named, Bd.returns, Bd.notSynchronized, (name_of_methodNamed Bd.named Bd.method).1⟩
  have X0 : Stand p l e R3 s m #[(.long q0), (.ref a1), (.int p2), (.int p3), (.int p4)] below meth c s₁ [] 0 0 := Stand.of_body Bd
  have e0 : s₁.heap = h0 := by rw [← hh, Bd.state]; rfl
  rw [ef_3]
  exact b3_0 (K := own_KP (some (.long (f3_0 q0 v1 p2 p3 p4))) h0) C q0 a1 v1 p2 p3 p4 X0 e0 Aa1 hs ⟨rfl, rfl, rfl⟩

theorem d4_0 : decode prog_148_method_26_code 0 = .ok (.iload_n 1, 1) := by decide +kernel
theorem d4_1 : decode prog_148_method_26_code 1 = .ok (.iload_n 2, 1) := by decide +kernel
theorem d4_2 : decode prog_148_method_26_code 2 = .ok (.if_icmp .ne 7, 3) := by decide +kernel
theorem d4_5 : decode prog_148_method_26_code 5 = .ok (.ldc2_w 348, 3) := by decide +kernel
theorem d4_8 : decode prog_148_method_26_code 8 = .ok (.lreturn, 1) := by decide +kernel
theorem d4_9 : decode prog_148_method_26_code 9 = .ok (.lload_n 3, 1) := by decide +kernel
theorem d4_10 : decode prog_148_method_26_code 10 = .ok (.ldc2_w 350, 3) := by decide +kernel
theorem d4_13 : decode prog_148_method_26_code 13 = .ok (.ldiv, 1) := by decide +kernel
theorem d4_14 : decode prog_148_method_26_code 14 = .ok (.lstore 5, 2) := by decide +kernel
theorem d4_16 : decode prog_148_method_26_code 16 = .ok (.lload_n 3, 1) := by decide +kernel
theorem d4_17 : decode prog_148_method_26_code 17 = .ok (.ldc2_w 350, 3) := by decide +kernel
theorem d4_20 : decode prog_148_method_26_code 20 = .ok (.lrem, 1) := by decide +kernel
theorem d4_21 : decode prog_148_method_26_code 21 = .ok (.lstore 7, 2) := by decide +kernel
theorem d4_23 : decode prog_148_method_26_code 23 = .ok (.lconst 0, 1) := by decide +kernel
theorem d4_24 : decode prog_148_method_26_code 24 = .ok (.lstore 9, 2) := by decide +kernel
theorem d4_26 : decode prog_148_method_26_code 26 = .ok (.iload_n 1, 1) := by decide +kernel
theorem d4_27 : decode prog_148_method_26_code 27 = .ok (.istore 11, 2) := by decide +kernel
theorem d4_29 : decode prog_148_method_26_code 29 = .ok (.iload 11, 2) := by decide +kernel
theorem d4_31 : decode prog_148_method_26_code 31 = .ok (.iload_n 2, 1) := by decide +kernel
theorem d4_32 : decode prog_148_method_26_code 32 = .ok (.if_icmp .ge 71, 3) := by decide +kernel
theorem d4_35 : decode prog_148_method_26_code 35 = .ok (.aload_n 0, 1) := by decide +kernel
theorem d4_36 : decode prog_148_method_26_code 36 = .ok (.iload 11, 2) := by decide +kernel
theorem d4_38 : decode prog_148_method_26_code 38 = .ok (.baload, 1) := by decide +kernel
theorem d4_39 : decode prog_148_method_26_code 39 = .ok (.bipush 48, 2) := by decide +kernel
theorem d4_41 : decode prog_148_method_26_code 41 = .ok (.isub, 1) := by decide +kernel
theorem d4_42 : decode prog_148_method_26_code 42 = .ok (.istore 12, 2) := by decide +kernel
theorem d4_44 : decode prog_148_method_26_code 44 = .ok (.iload 12, 2) := by decide +kernel
theorem d4_46 : decode prog_148_method_26_code 46 = .ok (.ifCond .lt 35, 3) := by decide +kernel
theorem d4_49 : decode prog_148_method_26_code 49 = .ok (.iload 12, 2) := by decide +kernel
theorem d4_51 : decode prog_148_method_26_code 51 = .ok (.bipush 9, 2) := by decide +kernel
theorem d4_53 : decode prog_148_method_26_code 53 = .ok (.if_icmp .gt 28, 3) := by decide +kernel
theorem d4_56 : decode prog_148_method_26_code 56 = .ok (.lload 9, 2) := by decide +kernel
theorem d4_58 : decode prog_148_method_26_code 58 = .ok (.lload 5, 2) := by decide +kernel
theorem d4_60 : decode prog_148_method_26_code 60 = .ok (.lcmp, 1) := by decide +kernel
theorem d4_61 : decode prog_148_method_26_code 61 = .ok (.ifCond .gt 20, 3) := by decide +kernel
theorem d4_64 : decode prog_148_method_26_code 64 = .ok (.lload 9, 2) := by decide +kernel
theorem d4_66 : decode prog_148_method_26_code 66 = .ok (.lload 5, 2) := by decide +kernel
theorem d4_68 : decode prog_148_method_26_code 68 = .ok (.lcmp, 1) := by decide +kernel
theorem d4_69 : decode prog_148_method_26_code 69 = .ok (.ifCond .ne 16, 3) := by decide +kernel
theorem d4_72 : decode prog_148_method_26_code 72 = .ok (.iload 12, 2) := by decide +kernel
theorem d4_74 : decode prog_148_method_26_code 74 = .ok (.i2l, 1) := by decide +kernel
theorem d4_75 : decode prog_148_method_26_code 75 = .ok (.lload 7, 2) := by decide +kernel
theorem d4_77 : decode prog_148_method_26_code 77 = .ok (.lcmp, 1) := by decide +kernel
theorem d4_78 : decode prog_148_method_26_code 78 = .ok (.ifCond .le 7, 3) := by decide +kernel
theorem d4_81 : decode prog_148_method_26_code 81 = .ok (.ldc2_w 348, 3) := by decide +kernel
theorem d4_84 : decode prog_148_method_26_code 84 = .ok (.lreturn, 1) := by decide +kernel
theorem d4_85 : decode prog_148_method_26_code 85 = .ok (.lload 9, 2) := by decide +kernel
theorem d4_87 : decode prog_148_method_26_code 87 = .ok (.ldc2_w 350, 3) := by decide +kernel
theorem d4_90 : decode prog_148_method_26_code 90 = .ok (.lmul, 1) := by decide +kernel
theorem d4_91 : decode prog_148_method_26_code 91 = .ok (.iload 12, 2) := by decide +kernel
theorem d4_93 : decode prog_148_method_26_code 93 = .ok (.i2l, 1) := by decide +kernel
theorem d4_94 : decode prog_148_method_26_code 94 = .ok (.ladd, 1) := by decide +kernel
theorem d4_95 : decode prog_148_method_26_code 95 = .ok (.lstore 9, 2) := by decide +kernel
theorem d4_97 : decode prog_148_method_26_code 97 = .ok (.iinc 11 1, 3) := by decide +kernel
theorem d4_100 : decode prog_148_method_26_code 100 = .ok (.goto (-71), 3) := by decide +kernel
theorem d4_103 : decode prog_148_method_26_code 103 = .ok (.lload 9, 2) := by decide +kernel
theorem d4_105 : decode prog_148_method_26_code 105 = .ok (.lreturn, 1) := by decide +kernel
section Body4
variable {p : Program} {l : Launch} {e : Env} {s : State} {m : MethodId} {args : Array Value} {below : List Frame} {meth : Method} {c : Code} {Z : State} {ag : Array Value} {K : Option Value → Heap → List Loc → Prop}
abbrev R4 : Room := { frames := 0, cells := 0, slots := 0, locals := 0 }
abbrev cc4 : Nat := 0
abbrev ss4 : Nat := 0
def f4_81 : Int64 := (-1 : Int64)
set_option maxRecDepth 65536 in
set_option maxHeartbeats 40000000 in
theorem b4_81 (C : own_Cx p s m meth c Z ag prog_148_method_26_code 13 "com/example/ledgerline/ledgerline/cli/Options" (some .long) "decimalValue") {T : State} {h : Heap} {z3 : Int64} {z5 : Int64} {z7 : Int64} {z9 : Int64} {z0 : Slot} {z1 : Slot} {z2 : Slot} {z11 : Slot} {z12 : Slot} (X : Stand p l e R4 s m args below meth c T [] 0 0) (eT : T.heap = h) (hz0 : One z0) (hz1 : One z1) (hz2 : One z2) (hz11 : One z11) (hz12 : One z12) (hK : K (some (.long (f4_81))) h []) : own_Go p e below (own_Q s K cc4 ss4) T (mkF m 81 #[z0, z1, z2, .val (.long z3), .second, .val (.long z5), .second, .val (.long z7), .second, .val (.long z9), .second, z11, z12] []) := by
  obtain ⟨hx, hZ, hw, hby, hml, hown, hret, hlk, hnm⟩ := id C
  unfold f4_81 at hK
  refine o_ldcL (pc' := 84) X hx hZ hown (hw _ (List.mem_of_getElem? (i := 17) rfl)) (hb hby d4_81) rfl ?_
  exact o_retL X hx hret hlk (hb hby d4_84) (by decide) (by decide) eT (hK)

def f4_29 : Nat → List Int32 → Int32 → Int64 → Int64 → Int64 → Int32 → Int64
  | 0, _, _, _, _, _, _ => 0
  | n + 1, v0, x2, x5, x7, x9, x11 => (if x11 < x2 then (if ((own_get v0 x11) - (48 : Int32)) < (0 : Int32) then f4_81 else (if (9 : Int32) < ((own_get v0 x11) - (48 : Int32)) then f4_81 else (if x5 < x9 then f4_81 else (if x9 = x5 then (if x7 < ((own_get v0 x11) - (48 : Int32)).toInt64 then f4_81 else (f4_29 n v0 x2 x5 x7 ((x9 * (10 : Int64)) + (((own_get v0 x11) - (48 : Int32)).toInt64)) (x11 + (1 : Int32)))) else (f4_29 n v0 x2 x5 x7 ((x9 * (10 : Int64)) + (((own_get v0 x11) - (48 : Int32)).toInt64)) (x11 + (1 : Int32))))))) else x9)
def s4_29 : Nat → List Int32 → Int32 → Int64 → Int64 → Int64 → Int32 → Prop
  | 0, _, _, _, _, _, _ => False
  | n + 1, v0, x2, x5, x7, x9, x11 => ((x11 < x2 → (own_in v0.length x11 ∧ ((((own_get v0 x11) - (48 : Int32)) < (0 : Int32) → True) ∧ (¬ (((own_get v0 x11) - (48 : Int32)) < (0 : Int32)) → (((9 : Int32) < ((own_get v0 x11) - (48 : Int32)) → True) ∧ (¬ ((9 : Int32) < ((own_get v0 x11) - (48 : Int32))) → ((x5 < x9 → True) ∧ (¬ (x5 < x9) → ((x9 = x5 → ((x7 < ((own_get v0 x11) - (48 : Int32)).toInt64 → True) ∧ (¬ (x7 < ((own_get v0 x11) - (48 : Int32)).toInt64) → s4_29 n v0 x2 x5 x7 ((x9 * (10 : Int64)) + (((own_get v0 x11) - (48 : Int32)).toInt64)) (x11 + (1 : Int32))))) ∧ (¬ (x9 = x5) → s4_29 n v0 x2 x5 x7 ((x9 * (10 : Int64)) + (((own_get v0 x11) - (48 : Int32)).toInt64)) (x11 + (1 : Int32)))))))))))) ∧ (¬ (x11 < x2) → True))
set_option maxRecDepth 65536 in
set_option maxHeartbeats 40000000 in
theorem b4_29 (C : own_Cx p s m meth c Z ag prog_148_method_26_code 13 "com/example/ledgerline/ledgerline/cli/Options" (some .long) "decimalValue") :
    ∀ (n : Nat) {T : State} {h : Heap} {z3 : Int64} {z1 : Slot} {z12 : Slot} (a0 : Addr) (v0 : List Int32) (x2 : Int32) (x5 : Int64) (x7 : Int64) (x9 : Int64) (x11 : Int32) (X : Stand p l e R4 s m args below meth c T [] 0 0) (eT : T.heap = h) (Aa0 : own_AI Z h a0 .byte v0) (hz1 : One z1) (hz12 : One z12) (hs : s4_29 n v0 x2 x5 x7 x9 x11) (hK : K (some (.long (f4_29 n v0 x2 x5 x7 x9 x11))) h []), own_Go p e below (own_Q s K cc4 ss4) T (mkF m 29 #[.val (.ref a0), z1, .val (.int x2), .val (.long z3), .second, .val (.long x5), .second, .val (.long x7), .second, .val (.long x9), .second, .val (.int x11), z12] []) := by
  intro n
  induction n with
  | zero => intros; rename_i hs _; exact hs.elim
  | succ n ih =>
    intro T h z3 z1 z12 a0 v0 x2 x5 x7 x9 x11 X eT Aa0 hz1 hz12 hs hK
    obtain ⟨hx, hZ, hw, hby, hml, hown, hret, hlk, hnm⟩ := id C
    unfold f4_29 at hK
    unfold s4_29 at hs
    refine o_iload (pc' := 31) X hx (hb hby d4_29) rfl rfl ?_
    refine o_iloadN (pc' := 32) X hx (hb hby d4_31) rfl rfl ?_
    refine o_icN (P := x11 < x2) (pc1 := 103) (pc2 := 35) X hx XT.ii_ge_f XT.ii_ge_t (hb hby d4_32) (by decide) (by decide) rfl (fun c9 => ?_) (fun c9 => ?_)
    · rw [if_neg c9] at hK
      refine o_lload (pc' := 105) X hx (hb hby d4_103) rfl rfl ?_
      exact o_retL X hx hret hlk (hb hby d4_105) (by decide) (by decide) eT (hK)
    · rw [if_pos c9] at hK
      refine o_aloadN (pc' := 36) X hx (hb hby d4_35) rfl rfl rfl ?_
      refine o_iload (pc' := 38) X hx (hb hby d4_36) rfl rfl ?_
      refine o_baload (pc' := 39)  X hx hZ eT Aa0 (hs.1 c9).1 (hb hby d4_38) rfl rfl ?_
      refine o_bipush (pc' := 41) (x := (48 : Int32)) X hx (hb hby d4_39) (by decide) rfl ?_
      refine o_isub (pc' := 42)  X hx (hb hby d4_41) rfl rfl ?_
      refine o_istoreS (pc' := 44) (l' := #[.val (.ref a0), z1, .val (.int x2), .val (.long z3), .second, .val (.long x5), .second, .val (.long x7), .second, .val (.long x9), .second, .val (.int x11), .val (.int ((own_get v0 x11) - (48 : Int32)))]) X hx (hb hby d4_42) rfl hz12 rfl rfl ?_
      refine o_iload (pc' := 46) X hx (hb hby d4_44) rfl rfl ?_
      refine o_ifP (P := ((own_get v0 x11) - (48 : Int32)) < (0 : Int32)) (pc1 := 81) (pc2 := 49) X hx XT.i0_lt_t XT.i0_lt_f (hb hby d4_46) (by decide) (by decide) rfl (fun c10 => ?_) (fun c10 => ?_)
      · rw [if_pos c10] at hK
        exact b4_81 C X eT (One.val rfl) hz1 (One.val rfl) (One.val rfl) (One.val rfl) hK
      · rw [if_neg c10] at hK
        refine o_iload (pc' := 51) X hx (hb hby d4_49) rfl rfl ?_
        refine o_bipush (pc' := 53) (x := (9 : Int32)) X hx (hb hby d4_51) (by decide) rfl ?_
        refine o_icP (P := (9 : Int32) < ((own_get v0 x11) - (48 : Int32))) (pc1 := 81) (pc2 := 56) X hx XT.ii_gt_t XT.ii_gt_f (hb hby d4_53) (by decide) (by decide) rfl (fun c11 => ?_) (fun c11 => ?_)
        · rw [if_pos c11] at hK
          exact b4_81 C X eT (One.val rfl) hz1 (One.val rfl) (One.val rfl) (One.val rfl) hK
        · rw [if_neg c11] at hK
          refine o_lload (pc' := 58) X hx (hb hby d4_56) rfl rfl ?_
          refine o_lload (pc' := 60) X hx (hb hby d4_58) rfl rfl ?_
          refine o_lcmp (pc' := 61) X hx (hb hby d4_60) rfl ?_
          refine o_ifP (P := x5 < x9) (pc1 := 81) (pc2 := 64) X hx XT.ll_gt_t XT.ll_gt_f (hb hby d4_61) (by decide) (by decide) rfl (fun c12 => ?_) (fun c12 => ?_)
          · rw [if_pos c12] at hK
            exact b4_81 C X eT (One.val rfl) hz1 (One.val rfl) (One.val rfl) (One.val rfl) hK
          · rw [if_neg c12] at hK
            refine o_lload (pc' := 66) X hx (hb hby d4_64) rfl rfl ?_
            refine o_lload (pc' := 68) X hx (hb hby d4_66) rfl rfl ?_
            refine o_lcmp (pc' := 69) X hx (hb hby d4_68) rfl ?_
            refine o_ifN (P := x9 = x5) (pc1 := 85) (pc2 := 72) X hx XT.ll_ne_f XT.ll_ne_t (hb hby d4_69) (by decide) (by decide) rfl (fun c13 => ?_) (fun c13 => ?_)
            · rw [if_neg c13] at hK
              refine o_lload (pc' := 87) X hx (hb hby d4_85) rfl rfl ?_
              refine o_ldcL (pc' := 90) X hx hZ hown (hw _ (List.mem_of_getElem? (i := 21) rfl)) (hb hby d4_87) rfl ?_
              refine o_lmul (pc' := 91)  X hx (hb hby d4_90) rfl rfl ?_
              refine o_iload (pc' := 93) X hx (hb hby d4_91) rfl rfl ?_
              refine o_i2l (pc' := 94)  X hx (hb hby d4_93) rfl rfl ?_
              refine o_ladd (pc' := 95)  X hx (hb hby d4_94) rfl rfl ?_
              refine o_lstore (pc' := 97) (l' := #[.val (.ref a0), z1, .val (.int x2), .val (.long z3), .second, .val (.long x5), .second, .val (.long x7), .second, .val (.long ((x9 * (10 : Int64)) + (((own_get v0 x11) - (48 : Int32)).toInt64))), .second, .val (.int x11), .val (.int ((own_get v0 x11) - (48 : Int32)))]) X hx (hb hby d4_95) rfl rfl ?_
              refine o_iinc (pc' := 100) (y := (x11 + (1 : Int32))) (l' := #[.val (.ref a0), z1, .val (.int x2), .val (.long z3), .second, .val (.long x5), .second, .val (.long x7), .second, .val (.long ((x9 * (10 : Int64)) + (((own_get v0 x11) - (48 : Int32)).toInt64))), .second, .val (.int (x11 + (1 : Int32))), .val (.int ((own_get v0 x11) - (48 : Int32)))]) X hx (hb hby d4_97) rfl rfl rfl rfl ?_
              refine o_goto (pc' := 29) X hx (hb hby d4_100) (by decide) (by decide) ?_
              exact ih a0 v0 x2 x5 x7 ((x9 * (10 : Int64)) + (((own_get v0 x11) - (48 : Int32)).toInt64)) (x11 + (1 : Int32)) X eT Aa0 hz1 (One.val rfl) (((((hs.1 c9).2.2 c10).2 c11).2 c12).2 c13) hK
            · rw [if_pos c13] at hK
              refine o_iload (pc' := 74) X hx (hb hby d4_72) rfl rfl ?_
              refine o_i2l (pc' := 75)  X hx (hb hby d4_74) rfl rfl ?_
              refine o_lload (pc' := 77) X hx (hb hby d4_75) rfl rfl ?_
              refine o_lcmp (pc' := 78) X hx (hb hby d4_77) rfl ?_
              refine o_ifN (P := x7 < ((own_get v0 x11) - (48 : Int32)).toInt64) (pc1 := 85) (pc2 := 81) X hx XT.ll_le_f XT.ll_le_t (hb hby d4_78) (by decide) (by decide) rfl (fun c14 => ?_) (fun c14 => ?_)
              · rw [if_neg c14] at hK
                refine o_lload (pc' := 87) X hx (hb hby d4_85) rfl rfl ?_
                refine o_ldcL (pc' := 90) X hx hZ hown (hw _ (List.mem_of_getElem? (i := 21) rfl)) (hb hby d4_87) rfl ?_
                refine o_lmul (pc' := 91)  X hx (hb hby d4_90) rfl rfl ?_
                refine o_iload (pc' := 93) X hx (hb hby d4_91) rfl rfl ?_
                refine o_i2l (pc' := 94)  X hx (hb hby d4_93) rfl rfl ?_
                refine o_ladd (pc' := 95)  X hx (hb hby d4_94) rfl rfl ?_
                refine o_lstore (pc' := 97) (l' := #[.val (.ref a0), z1, .val (.int x2), .val (.long z3), .second, .val (.long x5), .second, .val (.long x7), .second, .val (.long ((x9 * (10 : Int64)) + (((own_get v0 x11) - (48 : Int32)).toInt64))), .second, .val (.int x11), .val (.int ((own_get v0 x11) - (48 : Int32)))]) X hx (hb hby d4_95) rfl rfl ?_
                refine o_iinc (pc' := 100) (y := (x11 + (1 : Int32))) (l' := #[.val (.ref a0), z1, .val (.int x2), .val (.long z3), .second, .val (.long x5), .second, .val (.long x7), .second, .val (.long ((x9 * (10 : Int64)) + (((own_get v0 x11) - (48 : Int32)).toInt64))), .second, .val (.int (x11 + (1 : Int32))), .val (.int ((own_get v0 x11) - (48 : Int32)))]) X hx (hb hby d4_97) rfl rfl rfl rfl ?_
                refine o_goto (pc' := 29) X hx (hb hby d4_100) (by decide) (by decide) ?_
                exact ih a0 v0 x2 x5 x7 ((x9 * (10 : Int64)) + (((own_get v0 x11) - (48 : Int32)).toInt64)) (x11 + (1 : Int32)) X eT Aa0 hz1 (One.val rfl) ((((((hs.1 c9).2.2 c10).2 c11).2 c12).1 c13).2 c14) hK
              · rw [if_pos c14] at hK
                exact b4_81 C X eT (One.val rfl) hz1 (One.val rfl) (One.val rfl) (One.val rfl) hK

def f4_0 (v0 : List Int32) (p1 : Int32) (p2 : Int32) (q3 : Int64) : Int64 := (if p1 = p2 then (-1 : Int64) else (f4_29 64 v0 p2 (q3 / (10 : Int64)) (own_lrem q3 (10 : Int64)) (0 : Int64) p1))
def s4_0 (v0 : List Int32) (p1 : Int32) (p2 : Int32) (q3 : Int64) : Prop := ((p1 = p2 → True) ∧ (¬ (p1 = p2) → s4_29 64 v0 p2 (q3 / (10 : Int64)) (own_lrem q3 (10 : Int64)) (0 : Int64) p1))
set_option maxRecDepth 65536 in
set_option maxHeartbeats 40000000 in
theorem b4_0 (C : own_Cx p s m meth c Z ag prog_148_method_26_code 13 "com/example/ledgerline/ledgerline/cli/Options" (some .long) "decimalValue") {T : State} {h : Heap} (a0 : Addr) (v0 : List Int32) (p1 : Int32) (p2 : Int32) (q3 : Int64) (X : Stand p l e R4 s m args below meth c T [] 0 0) (eT : T.heap = h) (Aa0 : own_AI Z h a0 .byte v0) (hs : s4_0 v0 p1 p2 q3) (hK : K (some (.long (f4_0 v0 p1 p2 q3))) h []) : own_Go p e below (own_Q s K cc4 ss4) T (mkF m 0 #[.val (.ref a0), .val (.int p1), .val (.int p2), .val (.long q3), .second, .unset, .unset, .unset, .unset, .unset, .unset, .unset, .unset] []) := by
  obtain ⟨hx, hZ, hw, hby, hml, hown, hret, hlk, hnm⟩ := id C
  unfold f4_0 at hK
  unfold s4_0 at hs
  refine o_iloadN (pc' := 1) X hx (hb hby d4_0) rfl rfl ?_
  refine o_iloadN (pc' := 2) X hx (hb hby d4_1) rfl rfl ?_
  refine o_icN (P := p1 = p2) (pc1 := 9) (pc2 := 5) X hx XT.ii_ne_f XT.ii_ne_t (hb hby d4_2) (by decide) (by decide) rfl (fun c8 => ?_) (fun c8 => ?_)
  · rw [if_neg c8] at hK
    refine o_lloadN (pc' := 10) X hx (hb hby d4_9) rfl rfl ?_
    refine o_ldcL (pc' := 13) X hx hZ hown (hw _ (List.mem_of_getElem? (i := 21) rfl)) (hb hby d4_10) rfl ?_
    refine o_ldiv (pc' := 14)  X hx (hb hby d4_13) rfl (by decide) rfl ?_
    refine o_lstore (pc' := 16) (l' := #[.val (.ref a0), .val (.int p1), .val (.int p2), .val (.long q3), .second, .val (.long (q3 / (10 : Int64))), .second, .unset, .unset, .unset, .unset, .unset, .unset]) X hx (hb hby d4_14) rfl rfl ?_
    refine o_lloadN (pc' := 17) X hx (hb hby d4_16) rfl rfl ?_
    refine o_ldcL (pc' := 20) X hx hZ hown (hw _ (List.mem_of_getElem? (i := 21) rfl)) (hb hby d4_17) rfl ?_
    refine o_lrem (pc' := 21)  X hx (hb hby d4_20) rfl (by decide) rfl ?_
    refine o_lstore (pc' := 23) (l' := #[.val (.ref a0), .val (.int p1), .val (.int p2), .val (.long q3), .second, .val (.long (q3 / (10 : Int64))), .second, .val (.long (own_lrem q3 (10 : Int64))), .second, .unset, .unset, .unset, .unset]) X hx (hb hby d4_21) rfl rfl ?_
    refine o_lconst (pc' := 24) (u := (0 : Int64)) X hx (hb hby d4_23) (by decide) rfl ?_
    refine o_lstore (pc' := 26) (l' := #[.val (.ref a0), .val (.int p1), .val (.int p2), .val (.long q3), .second, .val (.long (q3 / (10 : Int64))), .second, .val (.long (own_lrem q3 (10 : Int64))), .second, .val (.long (0 : Int64)), .second, .unset, .unset]) X hx (hb hby d4_24) rfl rfl ?_
    refine o_iloadN (pc' := 27) X hx (hb hby d4_26) rfl rfl ?_
    refine o_istore (pc' := 29) (l' := #[.val (.ref a0), .val (.int p1), .val (.int p2), .val (.long q3), .second, .val (.long (q3 / (10 : Int64))), .second, .val (.long (own_lrem q3 (10 : Int64))), .second, .val (.long (0 : Int64)), .second, .val (.int p1), .unset]) X hx (hb hby d4_27) rfl rfl ?_
    exact b4_29 C 64 a0 v0 p2 (q3 / (10 : Int64)) (own_lrem q3 (10 : Int64)) (0 : Int64) p1 X eT Aa0 (One.val rfl) One.u (hs.2 c8) hK
  · rw [if_pos c8] at hK
    refine o_ldcL (pc' := 8) X hx hZ hown (hw _ (List.mem_of_getElem? (i := 17) rfl)) (hb hby d4_5) rfl ?_
    exact o_retL X hx hret hlk (hb hby d4_8) (by decide) (by decide) eT (hK)

end Body4
theorem pn_Options : plainName "com/example/ledgerline/ledgerline/cli/Options" = true := by first | (simp [plainName, overriddenIn]; done) | decide +kernel
theorem ef_4 (m : MethodId) (a0 : Addr) (p1 : Int32) (p2 : Int32) (q3 : Int64) : entryFrame m #[(.ref a0), (.int p1), (.int p2), (.long q3)] 13 = mkF m 0 #[.val (.ref a0), .val (.int p1), .val (.int p2), .val (.long q3), .second, .unset, .unset, .unset, .unset, .unset, .unset, .unset, .unset] [] := by first | (simp [entryFrame, mkF, argsToLocals, Value.category]; done) | rfl
set_option maxRecDepth 65536 in
set_option maxHeartbeats 40000000 in
theorem rm4 (l : Launch) (Z : State) (ag : Array Value) (hw : ∀ d ∈ tables_1, d.before ag Z = true) (ws : List Jvm.Cond) (a0 : Addr) (v0 : List Int32) (p1 : Int32) (p2 : Int32) (q3 : Int64) (h0 : Heap) (Aa0 : own_AI Z h0 a0 .byte v0) (hs : s4_0 v0 p1 p2 q3) :
    MetFree l (⟨"com/example/ledgerline/ledgerline/cli/Options", "decimalValue", "([BIIJ)J"⟩ : MethodName) (head1 (Jvm.Cond.code (⟨"com/example/ledgerline/ledgerline/cli/Options", "decimalValue", "([BIIJ)J"⟩ : MethodName) prog_148_method_26_code 13 (some .long) :: ws) R4) (fun a U => a = #[(.ref a0), (.int p1), (.int p2), (.long q3)] ∧ Z.Warmed39 U.vm ∧ U.heap = h0) (fun _ _ _ _ _ => True) (fun _ U o U' => ∃ v L, o = .returned v ∧ own_KP (some (.long (f4_0 v0 p1 p2 q3))) h0 v U'.heap L ∧ FrameEnd U o U' L R4.cells R4.slots) := by
  refine MetFree.of_bodySF (plainFor_of_name pn_Options) hisR ?_
  intro p e s m args below meth c s₁ Bd hml0 hP hK
  obtain ⟨rfl, hZ, hh⟩ := hP
  have C : own_Cx p s m meth c Z ag prog_148_method_26_code 13 "com/example/ledgerline/ledgerline/cli/Options" (some .long) "decimalValue" := ⟨Bd.exec, hZ, hw, Bd.bytes, hml0, findClass_of_methodNamed Bd.named, Bd.returns, Bd.notSynchronized, (name_of_methodNamed Bd.named Bd.method).1⟩
  have X0 : Stand p l e R4 s m #[(.ref a0), (.int p1), (.int p2), (.long q3)] below meth c s₁ [] 0 0 := Stand.of_body Bd
  have e0 : s₁.heap = h0 := by rw [← hh, Bd.state]; rfl
  rw [ef_4]
  exact b4_0 (K := own_KP (some (.long (f4_0 v0 p1 p2 q3))) h0) C a0 v0 p1 p2 q3 X0 e0 Aa0 hs ⟨rfl, rfl, rfl⟩

theorem d5_0 : decode jdk_29_method_66_code 0 = .ok (.lload_n 0, 1) := by decide +kernel
theorem d5_1 : decode jdk_29_method_66_code 1 = .ok (.lload_n 2, 1) := by decide +kernel
theorem d5_2 : decode jdk_29_method_66_code 2 = .ok (.lcmp, 1) := by decide +kernel
theorem d5_3 : decode jdk_29_method_66_code 3 = .ok (.ifCond .lt 7, 3) := by decide +kernel
theorem d5_6 : decode jdk_29_method_66_code 6 = .ok (.lload_n 0, 1) := by decide +kernel
theorem d5_7 : decode jdk_29_method_66_code 7 = .ok (.goto 4, 3) := by decide +kernel
theorem d5_10 : decode jdk_29_method_66_code 10 = .ok (.lload_n 2, 1) := by decide +kernel
theorem d5_11 : decode jdk_29_method_66_code 11 = .ok (.lreturn, 1) := by decide +kernel
section Body5
variable {p : Program} {l : Launch} {e : Env} {s : State} {m : MethodId} {args : Array Value} {below : List Frame} {meth : Method} {c : Code} {Z : State} {ag : Array Value} {K : Option Value → Heap → List Loc → Prop}
abbrev R5 : Room := { frames := 0, cells := 0, slots := 0, locals := 0 }
abbrev cc5 : Nat := 0
abbrev ss5 : Nat := 0
def f5_11 (t0 : Int64) : Int64 := t0
set_option maxRecDepth 65536 in
set_option maxHeartbeats 40000000 in
theorem b5_11 (C : own_Cx p s m meth c Z ag jdk_29_method_66_code 4 "java/lang/Math" (some .long) "max") {T : State} {h : Heap} {z0 : Int64} {z2 : Int64} (t0 : Int64) (X : Stand p l e R5 s m args below meth c T [] 0 0) (eT : T.heap = h) (hK : K (some (.long (f5_11 t0))) h []) : own_Go p e below (own_Q s K cc5 ss5) T (mkF m 11 #[.val (.long z0), .second, .val (.long z2), .second] [(.long t0)]) := by
  obtain ⟨hx, hZ, hw, hby, hml, hown, hret, hlk, hnm⟩ := id C
  unfold f5_11 at hK
  exact o_retL X hx hret hlk (hb hby d5_11) (by decide) (by decide) eT (hK)

def f5_0 (q0 : Int64) (q1 : Int64) : Int64 := (if q0 < q1 then (f5_11 q1) else (f5_11 q0))
set_option maxRecDepth 65536 in
set_option maxHeartbeats 40000000 in
theorem b5_0 (C : own_Cx p s m meth c Z ag jdk_29_method_66_code 4 "java/lang/Math" (some .long) "max") {T : State} {h : Heap} (q0 : Int64) (q1 : Int64) (X : Stand p l e R5 s m args below meth c T [] 0 0) (eT : T.heap = h) (hK : K (some (.long (f5_0 q0 q1))) h []) : own_Go p e below (own_Q s K cc5 ss5) T (mkF m 0 #[.val (.long q0), .second, .val (.long q1), .second] []) := by
  obtain ⟨hx, hZ, hw, hby, hml, hown, hret, hlk, hnm⟩ := id C
  unfold f5_0 at hK
  refine o_lloadN (pc' := 1) X hx (hb hby d5_0) rfl rfl ?_
  refine o_lloadN (pc' := 2) X hx (hb hby d5_1) rfl rfl ?_
  refine o_lcmp (pc' := 3) X hx (hb hby d5_2) rfl ?_
  refine o_ifP (P := q0 < q1) (pc1 := 10) (pc2 := 6) X hx XT.ll_lt_t XT.ll_lt_f (hb hby d5_3) (by decide) (by decide) rfl (fun c15 => ?_) (fun c15 => ?_)
  · rw [if_pos c15] at hK
    refine o_lloadN (pc' := 11) X hx (hb hby d5_10) rfl rfl ?_
    exact b5_11 C q1 X eT hK
  · rw [if_neg c15] at hK
    refine o_lloadN (pc' := 7) X hx (hb hby d5_6) rfl rfl ?_
    refine o_goto (pc' := 11) X hx (hb hby d5_7) (by decide) (by decide) ?_
    exact b5_11 C q0 X eT hK

end Body5
theorem ef_5 (m : MethodId) (q0 : Int64) (q1 : Int64) : entryFrame m #[(.long q0), (.long q1)] 4 = mkF m 0 #[.val (.long q0), .second, .val (.long q1), .second] [] := by first | (simp [entryFrame, mkF, argsToLocals, Value.category]; done) | rfl
set_option maxRecDepth 65536 in
set_option maxHeartbeats 40000000 in
theorem rm5 (l : Launch) (Z : State) (ag : Array Value) (hw : ∀ d ∈ tables_1, d.before ag Z = true) (ws : List Jvm.Cond) (q0 : Int64) (q1 : Int64) (h0 : Heap) :
    MetFree l (⟨"java/lang/Math", "max", "(JJ)J"⟩ : MethodName) (head1 (Jvm.Cond.code (⟨"java/lang/Math", "max", "(JJ)J"⟩ : MethodName) jdk_29_method_66_code 4 (some .long) :: ws) R5) (fun a U => a = #[(.long q0), (.long q1)] ∧ Z.Warmed39 U.vm ∧ U.heap = h0) (fun _ _ _ _ _ => True) (fun _ U o U' => ∃ v L, o = .returned v ∧ own_KP (some (.long (f5_0 q0 q1))) h0 v U'.heap L ∧ FrameEnd U o U' L R5.cells R5.slots) := by
  refine MetFree.of_bodySF (Jvm.Free.JP.mathPlain rfl (by decide +kernel)) hisR ?_
  intro p e s m args below meth c s₁ Bd hml0 hP hK
  obtain ⟨rfl, hZ, hh⟩ := hP
  have C : own_Cx p s m meth c Z ag jdk_29_method_66_code 4 "java/lang/Math" (some .long) "max" := ⟨Bd.exec, hZ, hw, Bd.bytes, hml0, findClass_of_methodNamed Bd.named, Bd.returns, Bd.notSynchronized, (name_of_methodNamed Bd.named Bd.method).1⟩
  have X0 : Stand p l e R5 s m #[(.long q0), (.long q1)] below meth c s₁ [] 0 0 := Stand.of_body Bd
  have e0 : s₁.heap = h0 := by rw [← hh, Bd.state]; rfl
  rw [ef_5]
  exact b5_0 (K := own_KP (some (.long (f5_0 q0 q1))) h0) C q0 q1 X0 e0 ⟨rfl, rfl, rfl⟩

section Body0
variable {p : Program} {l : Launch} {e : Env} {s : State} {m : MethodId} {args : Array Value} {below : List Frame} {meth : Method} {c : Code} {Z : State} {ag : Array Value} {K : Option Value → Heap → List Loc → Prop}
abbrev R0 : Room := room_1
abbrev cc0 : Nat := 1
abbrev ss0 : Nat := 4
def f0_312 : Int32 := (0 : Int32)
set_option maxRecDepth 65536 in
set_option maxHeartbeats 40000000 in
theorem b0_312 (C : own_Cx p s m meth c Z ag code maxLocals "com/example/ledgerline/ledgerline/cli/OptionsDecimalValuePinLaw" ret "law") {T : State} {h : Heap} {z2 : Int64} {z8 : Int64} {z11 : Int64} {z13 : Int64} {z0 : Slot} {z1 : Slot} {z4 : Slot} {z5 : Slot} {z6 : Slot} {z7 : Slot} {z10 : Slot} (X : Stand p l e R0 s m args below meth c T [] 1 4) (eT : T.heap = h) (hz0 : One z0) (hz1 : One z1) (hz4 : One z4) (hz5 : One z5) (hz6 : One z6) (hz7 : One z7) (hz10 : One z10) (hK : ∀ h', K (some (.int (f0_312))) h' []) : own_Go p e below (own_Q s K cc0 ss0) T (mkF m 312 #[z0, z1, .val (.long z2), .second, z4, z5, z6, z7, .val (.long z8), .second, z10, .val (.long z11), .second, .val (.long z13), .second] [(.int (0 : Int32))]) := by
  obtain ⟨hx, hZ, hw, hby, hml, hown, hret, hlk, hnm⟩ := id C
  unfold f0_312 at hK
  exact o_retN X hx (t := .boolean) hret (by simp) hlk (hb hby at_312) (by decide) (by decide) eT (hK _)

def f0_312_7 : Int32 := (1 : Int32)
set_option maxRecDepth 65536 in
set_option maxHeartbeats 40000000 in
theorem b0_312_7 (C : own_Cx p s m meth c Z ag code maxLocals "com/example/ledgerline/ledgerline/cli/OptionsDecimalValuePinLaw" ret "law") {T : State} {h : Heap} {z2 : Int64} {z8 : Int64} {z11 : Int64} {z13 : Int64} {z0 : Slot} {z1 : Slot} {z4 : Slot} {z5 : Slot} {z6 : Slot} {z7 : Slot} {z10 : Slot} (X : Stand p l e R0 s m args below meth c T [] 1 4) (eT : T.heap = h) (hz0 : One z0) (hz1 : One z1) (hz4 : One z4) (hz5 : One z5) (hz6 : One z6) (hz7 : One z7) (hz10 : One z10) (hK : ∀ h', K (some (.int (f0_312_7))) h' []) : own_Go p e below (own_Q s K cc0 ss0) T (mkF m 312 #[z0, z1, .val (.long z2), .second, z4, z5, z6, z7, .val (.long z8), .second, z10, .val (.long z11), .second, .val (.long z13), .second] [(.int (1 : Int32))]) := by
  obtain ⟨hx, hZ, hw, hby, hml, hown, hret, hlk, hnm⟩ := id C
  unfold f0_312_7 at hK
  exact o_retN X hx (t := .boolean) hret (by simp) hlk (hb hby at_312) (by decide) (by decide) eT (hK _)

def f0_288 (v0 : List Int32) (x5 : Int32) (x6 : Int32) (x11 : Int64) : Int32 := (if (f4_0 v0 x5 x6 x11) = (-1 : Int64) then f0_312_7 else f0_312)
def s0_288 (v0 : List Int32) (x5 : Int32) (x6 : Int32) (x11 : Int64) : Prop := ((s4_0 v0 x5 x6 x11) ∧ True)
set_option maxRecDepth 65536 in
set_option maxHeartbeats 40000000 in
theorem b0_288 (C : own_Cx p s m meth c Z ag code maxLocals "com/example/ledgerline/ledgerline/cli/OptionsDecimalValuePinLaw" ret "law") {T : State} {h : Heap} {z2 : Int64} {z8 : Int64} {z0 : Slot} {z1 : Slot} {z7 : Slot} {z10 : Slot} (a0 : Addr) (v0 : List Int32) (x5 : Int32) (x6 : Int32) (x11 : Int64) (X : Stand p l e R0 s m args below meth c T [] 1 4) (eT : T.heap = h) (Aa0 : own_AI Z h a0 .byte v0) (ga0 : s.heap.size ≤ a0) (hz0 : One z0) (hz1 : One z1) (hz7 : One z7) (hz10 : One z10) (hs : s0_288 v0 x5 x6 x11) (hK : ∀ h', K (some (.int (f0_288 v0 x5 x6 x11))) h' []) : own_Go p e below (own_Q s K cc0 ss0) T (mkF m 288 #[z0, z1, .val (.long z2), .second, .val (.ref a0), .val (.int x5), .val (.int x6), z7, .val (.long z8), .second, z10, .val (.long x11), .second, .unset, .unset] [(.long (-1 : Int64))]) := by
  obtain ⟨hx, hZ, hw, hby, hml, hown, hret, hlk, hnm⟩ := id C
  unfold f0_288 at hK
  unfold s0_288 at hs
  refine o_lstore (pc' := 290) (l' := #[z0, z1, .val (.long z2), .second, .val (.ref a0), .val (.int x5), .val (.int x6), z7, .val (.long z8), .second, z10, .val (.long x11), .second, .val (.long (-1 : Int64)), .second]) X hx (hb hby at_288) rfl rfl ?_
  refine o_aload (pc' := 292) X hx (hb hby at_290) rfl rfl rfl ?_
  refine o_iload (pc' := 294) X hx (hb hby at_292) rfl rfl ?_
  refine o_iload (pc' := 296) X hx (hb hby at_294) rfl rfl ?_
  refine o_lload (pc' := 298) X hx (hb hby at_296) rfl rfl ?_
  refine o_callP (W := 0) (pc' := 301) (argsL := [(.ref a0), (.int x5), (.int x6), (.long x11)]) (rest := []) (st' := [(.long (f4_0 v0 x5 x6 x11))]) X hx hZ eT hown (hw _ (List.mem_of_getElem? (i := 13) rfl)) (hw _ (List.mem_of_getElem? (i := 14) rfl)) (hw _ (List.mem_of_getElem? (i := 15) rfl)) (hw _ (List.mem_of_getElem? (i := 16) rfl)) (by decide) (rm4 l Z ag hw [] a0 v0 x5 x6 x11 h Aa0 hs.1) (by decide) (by decide) (by rw [hml]; rfl) pd_3 rfl rfl rfl rfl (hb hby at_298) rfl rfl rfl (by decide) (by decide) rfl fun T35 X35 e35 => ?_
  refine o_lload (pc' := 303) X35 hx (hb hby at_301) rfl rfl ?_
  refine o_lcmp (pc' := 304) X35 hx (hb hby at_303) rfl ?_
  refine o_ifN (P := (f4_0 v0 x5 x6 x11) = (-1 : Int64)) (pc1 := 311) (pc2 := 307) X35 hx XT.ll_ne_f XT.ll_ne_t (hb hby at_304) (by decide) (by decide) rfl (fun c36 => ?_) (fun c36 => ?_)
  · rw [if_neg c36] at hK
    refine o_iconst (pc' := 312) (x := (0 : Int32)) X35 hx (hb hby at_311) (by decide) rfl ?_
    exact b0_312 C X35 e35 hz0 hz1 (One.val rfl) (One.val rfl) (One.val rfl) hz7 hz10 hK
  · rw [if_pos c36] at hK
    refine o_iconst (pc' := 308) (x := (1 : Int32)) X35 hx (hb hby at_307) (by decide) rfl ?_
    refine o_goto (pc' := 312) X35 hx (hb hby at_308) (by decide) (by decide) ?_
    exact b0_312_7 C X35 e35 hz0 hz1 (One.val rfl) (One.val rfl) (One.val rfl) hz7 hz10 hK

def f0_285 (v0 : List Int32) (x5 : Int32) (x6 : Int32) (x11 : Int64) : Int32 := (f0_288 v0 x5 x6 x11)
def s0_285 (v0 : List Int32) (x5 : Int32) (x6 : Int32) (x11 : Int64) : Prop := s0_288 v0 x5 x6 x11
set_option maxRecDepth 65536 in
set_option maxHeartbeats 40000000 in
theorem b0_285 (C : own_Cx p s m meth c Z ag code maxLocals "com/example/ledgerline/ledgerline/cli/OptionsDecimalValuePinLaw" ret "law") {T : State} {h : Heap} {z2 : Int64} {z8 : Int64} {z0 : Slot} {z1 : Slot} {z7 : Slot} {z10 : Slot} (a0 : Addr) (v0 : List Int32) (x5 : Int32) (x6 : Int32) (x11 : Int64) (X : Stand p l e R0 s m args below meth c T [] 1 4) (eT : T.heap = h) (Aa0 : own_AI Z h a0 .byte v0) (ga0 : s.heap.size ≤ a0) (hz0 : One z0) (hz1 : One z1) (hz7 : One z7) (hz10 : One z10) (hs : s0_285 v0 x5 x6 x11) (hK : ∀ h', K (some (.int (f0_285 v0 x5 x6 x11))) h' []) : own_Go p e below (own_Q s K cc0 ss0) T (mkF m 285 #[z0, z1, .val (.long z2), .second, .val (.ref a0), .val (.int x5), .val (.int x6), z7, .val (.long z8), .second, z10, .val (.long x11), .second, .unset, .unset] []) := by
  obtain ⟨hx, hZ, hw, hby, hml, hown, hret, hlk, hnm⟩ := id C
  unfold f0_285 at hK
  unfold s0_285 at hs
  refine o_ldcL (pc' := 288) X hx hZ hown (hw _ (List.mem_of_getElem? (i := 12) rfl)) (hb hby at_285) rfl ?_
  exact b0_288 C a0 v0 x5 x6 x11 X eT Aa0 ga0 hz0 hz1 hz7 hz10 hs hK

def f0_260 (v0 : List Int32) (x5 : Int32) (x6 : Int32) (x8 : Int64) (x11 : Int64) : Int32 := (if x5 < x6 then (f0_285 v0 x5 x6 x11) else (f0_285 v0 x5 x6 x11))
def s0_260 (v0 : List Int32) (x5 : Int32) (x6 : Int32) (x8 : Int64) (x11 : Int64) : Prop := ((x5 < x6 → s0_285 v0 x5 x6 x11) ∧ (¬ (x5 < x6) → s0_285 v0 x5 x6 x11))
set_option maxRecDepth 65536 in
set_option maxHeartbeats 40000000 in
theorem b0_260 (C : own_Cx p s m meth c Z ag code maxLocals "com/example/ledgerline/ledgerline/cli/OptionsDecimalValuePinLaw" ret "law") {T : State} {h : Heap} {z2 : Int64} {z0 : Slot} {z1 : Slot} {z10 : Slot} (a0 : Addr) (v0 : List Int32) (x5 : Int32) (x6 : Int32) (x8 : Int64) (x11 : Int64) (X : Stand p l e R0 s m args below meth c T [] 1 4) (eT : T.heap = h) (Aa0 : own_AI Z h a0 .byte v0) (ga0 : s.heap.size ≤ a0) (hz0 : One z0) (hz1 : One z1) (hz10 : One z10) (hs : s0_260 v0 x5 x6 x8 x11) (hK : ∀ h', K (some (.int (f0_260 v0 x5 x6 x8 x11))) h' []) : own_Go p e below (own_Q s K cc0 ss0) T (mkF m 260 #[z0, z1, .val (.long z2), .second, .val (.ref a0), .val (.int x5), .val (.int x6), .val (.int (0 : Int32)), .val (.long x8), .second, z10, .val (.long x11), .second, .unset, .unset] []) := by
  obtain ⟨hx, hZ, hw, hby, hml, hown, hret, hlk, hnm⟩ := id C
  unfold f0_260 at hK
  unfold s0_260 at hs
  refine o_iload (pc' := 262) X hx (hb hby at_260) rfl rfl ?_
  refine o_iload (pc' := 264) X hx (hb hby at_262) rfl rfl ?_
  refine o_icN (P := x5 < x6) (pc1 := 285) (pc2 := 267) X hx XT.ii_ge_f XT.ii_ge_t (hb hby at_264) (by decide) (by decide) rfl (fun c34 => ?_) (fun c34 => ?_)
  · rw [if_neg c34] at hK
    exact b0_285 C a0 v0 x5 x6 x11 X eT Aa0 ga0 hz0 hz1 (One.val rfl) hz10 (hs.2 c34) hK
  · rw [if_pos c34] at hK
    refine o_iload (pc' := 269) X hx (hb hby at_267) rfl rfl ?_
    refine o_ifY (pc' := 285) X hx (by decide) (hb hby at_269) (by decide) (by decide) ?_
    exact b0_285 C a0 v0 x5 x6 x11 X eT Aa0 ga0 hz0 hz1 (One.val rfl) hz10 (hs.1 c34) hK

def f0_126 (x1 : Int32) (x2 : Int64) (v0 : List Int32) (x5 : Int32) (x6 : Int32) : Int32 := (if ((own_ushr x1 (6 : Int32)) &&& (3 : Int32)) = (0 : Int32) then (f0_260 v0 x5 x6 (f3_0 (f3_0 (f3_0 (f3_0 (0 : Int64) v0 (0 : Int32) x5 x6) v0 (1 : Int32) x5 x6) v0 (2 : Int32) x5 x6) v0 (3 : Int32) x5 x6) (x2 &&& (9223372036854775807 : Int64))) else (if ((own_ushr x1 (6 : Int32)) &&& (3 : Int32)) = (1 : Int32) then (f0_260 v0 x5 x6 (f3_0 (f3_0 (f3_0 (f3_0 (0 : Int64) v0 (0 : Int32) x5 x6) v0 (1 : Int32) x5 x6) v0 (2 : Int32) x5 x6) v0 (3 : Int32) x5 x6) (x2 &&& (16383 : Int64))) else (if ((own_ushr x1 (6 : Int32)) &&& (3 : Int32)) = (2 : Int32) then (f0_260 v0 x5 x6 (f3_0 (f3_0 (f3_0 (f3_0 (0 : Int64) v0 (0 : Int32) x5 x6) v0 (1 : Int32) x5 x6) v0 (2 : Int32) x5 x6) v0 (3 : Int32) x5 x6) (f5_0 (0 : Int64) ((f3_0 (f3_0 (f3_0 (f3_0 (0 : Int64) v0 (0 : Int32) x5 x6) v0 (1 : Int32) x5 x6) v0 (2 : Int32) x5 x6) v0 (3 : Int32) x5 x6) + (own_lrem x2 (3 : Int64))))) else (f0_260 v0 x5 x6 (f3_0 (f3_0 (f3_0 (f3_0 (0 : Int64) v0 (0 : Int32) x5 x6) v0 (1 : Int32) x5 x6) v0 (2 : Int32) x5 x6) v0 (3 : Int32) x5 x6) ((9223372036854775807 : Int64) - (x2 &&& (15 : Int64)))))))
def s0_126 (x1 : Int32) (x2 : Int64) (v0 : List Int32) (x5 : Int32) (x6 : Int32) : Prop := ((s3_0 (0 : Int64) v0 (0 : Int32) x5 x6) ∧ (s3_0 (f3_0 (0 : Int64) v0 (0 : Int32) x5 x6) v0 (1 : Int32) x5 x6) ∧ (s3_0 (f3_0 (f3_0 (0 : Int64) v0 (0 : Int32) x5 x6) v0 (1 : Int32) x5 x6) v0 (2 : Int32) x5 x6) ∧ (s3_0 (f3_0 (f3_0 (f3_0 (0 : Int64) v0 (0 : Int32) x5 x6) v0 (1 : Int32) x5 x6) v0 (2 : Int32) x5 x6) v0 (3 : Int32) x5 x6) ∧ ((((own_ushr x1 (6 : Int32)) &&& (3 : Int32)) = (0 : Int32) → s0_260 v0 x5 x6 (f3_0 (f3_0 (f3_0 (f3_0 (0 : Int64) v0 (0 : Int32) x5 x6) v0 (1 : Int32) x5 x6) v0 (2 : Int32) x5 x6) v0 (3 : Int32) x5 x6) (x2 &&& (9223372036854775807 : Int64))) ∧ (¬ (((own_ushr x1 (6 : Int32)) &&& (3 : Int32)) = (0 : Int32)) → ((((own_ushr x1 (6 : Int32)) &&& (3 : Int32)) = (1 : Int32) → s0_260 v0 x5 x6 (f3_0 (f3_0 (f3_0 (f3_0 (0 : Int64) v0 (0 : Int32) x5 x6) v0 (1 : Int32) x5 x6) v0 (2 : Int32) x5 x6) v0 (3 : Int32) x5 x6) (x2 &&& (16383 : Int64))) ∧ (¬ (((own_ushr x1 (6 : Int32)) &&& (3 : Int32)) = (1 : Int32)) → ((((own_ushr x1 (6 : Int32)) &&& (3 : Int32)) = (2 : Int32) → s0_260 v0 x5 x6 (f3_0 (f3_0 (f3_0 (f3_0 (0 : Int64) v0 (0 : Int32) x5 x6) v0 (1 : Int32) x5 x6) v0 (2 : Int32) x5 x6) v0 (3 : Int32) x5 x6) (f5_0 (0 : Int64) ((f3_0 (f3_0 (f3_0 (f3_0 (0 : Int64) v0 (0 : Int32) x5 x6) v0 (1 : Int32) x5 x6) v0 (2 : Int32) x5 x6) v0 (3 : Int32) x5 x6) + (own_lrem x2 (3 : Int64))))) ∧ (¬ (((own_ushr x1 (6 : Int32)) &&& (3 : Int32)) = (2 : Int32)) → s0_260 v0 x5 x6 (f3_0 (f3_0 (f3_0 (f3_0 (0 : Int64) v0 (0 : Int32) x5 x6) v0 (1 : Int32) x5 x6) v0 (2 : Int32) x5 x6) v0 (3 : Int32) x5 x6) ((9223372036854775807 : Int64) - (x2 &&& (15 : Int64))))))))))
set_option maxRecDepth 65536 in
set_option maxHeartbeats 40000000 in
theorem b0_126 (C : own_Cx p s m meth c Z ag code maxLocals "com/example/ledgerline/ledgerline/cli/OptionsDecimalValuePinLaw" ret "law") {T : State} {h : Heap} {z0 : Slot} {z7 : Slot} {z10 : Slot} (x1 : Int32) (x2 : Int64) (a0 : Addr) (v0 : List Int32) (x5 : Int32) (x6 : Int32) (X : Stand p l e R0 s m args below meth c T [] 1 4) (eT : T.heap = h) (Aa0 : own_AI Z h a0 .byte v0) (ga0 : s.heap.size ≤ a0) (hz0 : One z0) (hz7 : One z7) (hz10 : One z10) (hs : s0_126 x1 x2 v0 x5 x6) (hK : ∀ h', K (some (.int (f0_126 x1 x2 v0 x5 x6))) h' []) : own_Go p e below (own_Q s K cc0 ss0) T (mkF m 126 #[z0, .val (.int x1), .val (.long x2), .second, .val (.ref a0), .val (.int x5), .val (.int x6), z7, .unset, .unset, z10, .unset, .unset, .unset, .unset] [(.int (0 : Int32))]) := by
  obtain ⟨hx, hZ, hw, hby, hml, hown, hret, hlk, hnm⟩ := id C
  unfold f0_126 at hK
  unfold s0_126 at hs
  refine o_istoreS (pc' := 128) (l' := #[z0, .val (.int x1), .val (.long x2), .second, .val (.ref a0), .val (.int x5), .val (.int x6), .val (.int (0 : Int32)), .unset, .unset, z10, .unset, .unset, .unset, .unset]) X hx (hb hby at_126) rfl hz7 rfl rfl ?_
  refine o_lconst (pc' := 129) (u := (0 : Int64)) X hx (hb hby at_128) (by decide) rfl ?_
  refine o_lstore (pc' := 131) (l' := #[z0, .val (.int x1), .val (.long x2), .second, .val (.ref a0), .val (.int x5), .val (.int x6), .val (.int (0 : Int32)), .val (.long (0 : Int64)), .second, z10, .unset, .unset, .unset, .unset]) X hx (hb hby at_129) rfl rfl ?_
  refine o_lload (pc' := 133) X hx (hb hby at_131) rfl rfl ?_
  refine o_aload (pc' := 135) X hx (hb hby at_133) rfl rfl rfl ?_
  refine o_iconst (pc' := 136) (x := (0 : Int32)) X hx (hb hby at_135) (by decide) rfl ?_
  refine o_iload (pc' := 138) X hx (hb hby at_136) rfl rfl ?_
  refine o_iload (pc' := 140) X hx (hb hby at_138) rfl rfl ?_
  refine o_callP (W := 0) (pc' := 143) (argsL := [(.long (0 : Int64)), (.ref a0), (.int (0 : Int32)), (.int x5), (.int x6)]) (rest := []) (st' := [(.long (f3_0 (0 : Int64) v0 (0 : Int32) x5 x6))]) X hx hZ eT hown (hw _ (List.mem_of_getElem? (i := 8) rfl)) (hw _ (List.mem_of_getElem? (i := 9) rfl)) (hw _ (List.mem_of_getElem? (i := 3) rfl)) (hw _ (List.mem_of_getElem? (i := 10) rfl)) (by decide) (rm3 l Z ag hw [] (0 : Int64) a0 v0 (0 : Int32) x5 x6 h Aa0 hs.1) (by decide) (by decide) (by rw [hml]; rfl) pd_2 rfl rfl rfl rfl (hb hby at_140) rfl rfl rfl (by decide) (by decide) rfl fun T27 X27 e27 => ?_
  refine o_lstore (pc' := 145) (l' := #[z0, .val (.int x1), .val (.long x2), .second, .val (.ref a0), .val (.int x5), .val (.int x6), .val (.int (0 : Int32)), .val (.long (f3_0 (0 : Int64) v0 (0 : Int32) x5 x6)), .second, z10, .unset, .unset, .unset, .unset]) X27 hx (hb hby at_143) rfl rfl ?_
  refine o_lload (pc' := 147) X27 hx (hb hby at_145) rfl rfl ?_
  refine o_aload (pc' := 149) X27 hx (hb hby at_147) rfl rfl rfl ?_
  refine o_iconst (pc' := 150) (x := (1 : Int32)) X27 hx (hb hby at_149) (by decide) rfl ?_
  refine o_iload (pc' := 152) X27 hx (hb hby at_150) rfl rfl ?_
  refine o_iload (pc' := 154) X27 hx (hb hby at_152) rfl rfl ?_
  refine o_callP (W := 0) (pc' := 157) (argsL := [(.long (f3_0 (0 : Int64) v0 (0 : Int32) x5 x6)), (.ref a0), (.int (1 : Int32)), (.int x5), (.int x6)]) (rest := []) (st' := [(.long (f3_0 (f3_0 (0 : Int64) v0 (0 : Int32) x5 x6) v0 (1 : Int32) x5 x6))]) X27 hx hZ e27 hown (hw _ (List.mem_of_getElem? (i := 8) rfl)) (hw _ (List.mem_of_getElem? (i := 9) rfl)) (hw _ (List.mem_of_getElem? (i := 3) rfl)) (hw _ (List.mem_of_getElem? (i := 10) rfl)) (by decide) (rm3 l Z ag hw [] (f3_0 (0 : Int64) v0 (0 : Int32) x5 x6) a0 v0 (1 : Int32) x5 x6 h Aa0 hs.2.1) (by decide) (by decide) (by rw [hml]; rfl) pd_2 rfl rfl rfl rfl (hb hby at_154) rfl rfl rfl (by decide) (by decide) rfl fun T28 X28 e28 => ?_
  refine o_lstore (pc' := 159) (l' := #[z0, .val (.int x1), .val (.long x2), .second, .val (.ref a0), .val (.int x5), .val (.int x6), .val (.int (0 : Int32)), .val (.long (f3_0 (f3_0 (0 : Int64) v0 (0 : Int32) x5 x6) v0 (1 : Int32) x5 x6)), .second, z10, .unset, .unset, .unset, .unset]) X28 hx (hb hby at_157) rfl rfl ?_
  refine o_lload (pc' := 161) X28 hx (hb hby at_159) rfl rfl ?_
  refine o_aload (pc' := 163) X28 hx (hb hby at_161) rfl rfl rfl ?_
  refine o_iconst (pc' := 164) (x := (2 : Int32)) X28 hx (hb hby at_163) (by decide) rfl ?_
  refine o_iload (pc' := 166) X28 hx (hb hby at_164) rfl rfl ?_
  refine o_iload (pc' := 168) X28 hx (hb hby at_166) rfl rfl ?_
  refine o_callP (W := 0) (pc' := 171) (argsL := [(.long (f3_0 (f3_0 (0 : Int64) v0 (0 : Int32) x5 x6) v0 (1 : Int32) x5 x6)), (.ref a0), (.int (2 : Int32)), (.int x5), (.int x6)]) (rest := []) (st' := [(.long (f3_0 (f3_0 (f3_0 (0 : Int64) v0 (0 : Int32) x5 x6) v0 (1 : Int32) x5 x6) v0 (2 : Int32) x5 x6))]) X28 hx hZ e28 hown (hw _ (List.mem_of_getElem? (i := 8) rfl)) (hw _ (List.mem_of_getElem? (i := 9) rfl)) (hw _ (List.mem_of_getElem? (i := 3) rfl)) (hw _ (List.mem_of_getElem? (i := 10) rfl)) (by decide) (rm3 l Z ag hw [] (f3_0 (f3_0 (0 : Int64) v0 (0 : Int32) x5 x6) v0 (1 : Int32) x5 x6) a0 v0 (2 : Int32) x5 x6 h Aa0 hs.2.2.1) (by decide) (by decide) (by rw [hml]; rfl) pd_2 rfl rfl rfl rfl (hb hby at_168) rfl rfl rfl (by decide) (by decide) rfl fun T29 X29 e29 => ?_
  refine o_lstore (pc' := 173) (l' := #[z0, .val (.int x1), .val (.long x2), .second, .val (.ref a0), .val (.int x5), .val (.int x6), .val (.int (0 : Int32)), .val (.long (f3_0 (f3_0 (f3_0 (0 : Int64) v0 (0 : Int32) x5 x6) v0 (1 : Int32) x5 x6) v0 (2 : Int32) x5 x6)), .second, z10, .unset, .unset, .unset, .unset]) X29 hx (hb hby at_171) rfl rfl ?_
  refine o_lload (pc' := 175) X29 hx (hb hby at_173) rfl rfl ?_
  refine o_aload (pc' := 177) X29 hx (hb hby at_175) rfl rfl rfl ?_
  refine o_iconst (pc' := 178) (x := (3 : Int32)) X29 hx (hb hby at_177) (by decide) rfl ?_
  refine o_iload (pc' := 180) X29 hx (hb hby at_178) rfl rfl ?_
  refine o_iload (pc' := 182) X29 hx (hb hby at_180) rfl rfl ?_
  refine o_callP (W := 0) (pc' := 185) (argsL := [(.long (f3_0 (f3_0 (f3_0 (0 : Int64) v0 (0 : Int32) x5 x6) v0 (1 : Int32) x5 x6) v0 (2 : Int32) x5 x6)), (.ref a0), (.int (3 : Int32)), (.int x5), (.int x6)]) (rest := []) (st' := [(.long (f3_0 (f3_0 (f3_0 (f3_0 (0 : Int64) v0 (0 : Int32) x5 x6) v0 (1 : Int32) x5 x6) v0 (2 : Int32) x5 x6) v0 (3 : Int32) x5 x6))]) X29 hx hZ e29 hown (hw _ (List.mem_of_getElem? (i := 8) rfl)) (hw _ (List.mem_of_getElem? (i := 9) rfl)) (hw _ (List.mem_of_getElem? (i := 3) rfl)) (hw _ (List.mem_of_getElem? (i := 10) rfl)) (by decide) (rm3 l Z ag hw [] (f3_0 (f3_0 (f3_0 (0 : Int64) v0 (0 : Int32) x5 x6) v0 (1 : Int32) x5 x6) v0 (2 : Int32) x5 x6) a0 v0 (3 : Int32) x5 x6 h Aa0 hs.2.2.2.1) (by decide) (by decide) (by rw [hml]; rfl) pd_2 rfl rfl rfl rfl (hb hby at_182) rfl rfl rfl (by decide) (by decide) rfl fun T30 X30 e30 => ?_
  refine o_lstore (pc' := 187) (l' := #[z0, .val (.int x1), .val (.long x2), .second, .val (.ref a0), .val (.int x5), .val (.int x6), .val (.int (0 : Int32)), .val (.long (f3_0 (f3_0 (f3_0 (f3_0 (0 : Int64) v0 (0 : Int32) x5 x6) v0 (1 : Int32) x5 x6) v0 (2 : Int32) x5 x6) v0 (3 : Int32) x5 x6)), .second, z10, .unset, .unset, .unset, .unset]) X30 hx (hb hby at_185) rfl rfl ?_
  refine o_iloadN (pc' := 188) X30 hx (hb hby at_187) rfl rfl ?_
  refine o_bipush (pc' := 190) (x := (6 : Int32)) X30 hx (hb hby at_188) (by decide) rfl ?_
  refine o_iushr (pc' := 191)  X30 hx (hb hby at_190) rfl rfl ?_
  refine o_iconst (pc' := 192) (x := (3 : Int32)) X30 hx (hb hby at_191) (by decide) rfl ?_
  refine o_iand (pc' := 193)  X30 hx (hb hby at_192) rfl rfl ?_
  refine o_istoreS (pc' := 195) (l' := #[z0, .val (.int x1), .val (.long x2), .second, .val (.ref a0), .val (.int x5), .val (.int x6), .val (.int (0 : Int32)), .val (.long (f3_0 (f3_0 (f3_0 (f3_0 (0 : Int64) v0 (0 : Int32) x5 x6) v0 (1 : Int32) x5 x6) v0 (2 : Int32) x5 x6) v0 (3 : Int32) x5 x6)), .second, .val (.int ((own_ushr x1 (6 : Int32)) &&& (3 : Int32))), .unset, .unset, .unset, .unset]) X30 hx (hb hby at_193) rfl hz10 rfl rfl ?_
  refine o_iload (pc' := 197) X30 hx (hb hby at_195) rfl rfl ?_
  refine o_ifN (P := ((own_ushr x1 (6 : Int32)) &&& (3 : Int32)) = (0 : Int32)) (pc1 := 210) (pc2 := 200) X30 hx XT.i0_ne_f XT.i0_ne_t (hb hby at_197) (by decide) (by decide) rfl (fun c31 => ?_) (fun c31 => ?_)
  · rw [if_neg c31] at hK
    refine o_iload (pc' := 212) X30 hx (hb hby at_210) rfl rfl ?_
    refine o_iconst (pc' := 213) (x := (1 : Int32)) X30 hx (hb hby at_212) (by decide) rfl ?_
    refine o_icN (P := ((own_ushr x1 (6 : Int32)) &&& (3 : Int32)) = (1 : Int32)) (pc1 := 226) (pc2 := 216) X30 hx XT.ii_ne_f XT.ii_ne_t (hb hby at_213) (by decide) (by decide) rfl (fun c32 => ?_) (fun c32 => ?_)
    · rw [if_neg c32] at hK
      refine o_iload (pc' := 228) X30 hx (hb hby at_226) rfl rfl ?_
      refine o_iconst (pc' := 229) (x := (2 : Int32)) X30 hx (hb hby at_228) (by decide) rfl ?_
      refine o_icN (P := ((own_ushr x1 (6 : Int32)) &&& (3 : Int32)) = (2 : Int32)) (pc1 := 249) (pc2 := 232) X30 hx XT.ii_ne_f XT.ii_ne_t (hb hby at_229) (by decide) (by decide) rfl (fun c33 => ?_) (fun c33 => ?_)
      · rw [if_neg c33] at hK
        refine o_ldcL (pc' := 252) X30 hx hZ hown (hw _ (List.mem_of_getElem? (i := 11) rfl)) (hb hby at_249) rfl ?_
        refine o_lloadN (pc' := 253) X30 hx (hb hby at_252) rfl rfl ?_
        refine o_ldcL (pc' := 256) X30 hx hZ hown (hw _ (List.mem_of_getElem? (i := 18) rfl)) (hb hby at_253) rfl ?_
        refine o_land (pc' := 257)  X30 hx (hb hby at_256) rfl rfl ?_
        refine o_lsub (pc' := 258)  X30 hx (hb hby at_257) rfl rfl ?_
        refine o_lstore (pc' := 260) (l' := #[z0, .val (.int x1), .val (.long x2), .second, .val (.ref a0), .val (.int x5), .val (.int x6), .val (.int (0 : Int32)), .val (.long (f3_0 (f3_0 (f3_0 (f3_0 (0 : Int64) v0 (0 : Int32) x5 x6) v0 (1 : Int32) x5 x6) v0 (2 : Int32) x5 x6) v0 (3 : Int32) x5 x6)), .second, .val (.int ((own_ushr x1 (6 : Int32)) &&& (3 : Int32))), .val (.long ((9223372036854775807 : Int64) - (x2 &&& (15 : Int64)))), .second, .unset, .unset]) X30 hx (hb hby at_258) rfl rfl ?_
        exact b0_260 C a0 v0 x5 x6 (f3_0 (f3_0 (f3_0 (f3_0 (0 : Int64) v0 (0 : Int32) x5 x6) v0 (1 : Int32) x5 x6) v0 (2 : Int32) x5 x6) v0 (3 : Int32) x5 x6) ((9223372036854775807 : Int64) - (x2 &&& (15 : Int64))) X30 e30 Aa0 ga0 hz0 (One.val rfl) (One.val rfl) (((hs.2.2.2.2.2 c31).2 c32).2 c33) hK
      · rw [if_pos c33] at hK
        refine o_lconst (pc' := 233) (u := (0 : Int64)) X30 hx (hb hby at_232) (by decide) rfl ?_
        refine o_lload (pc' := 235) X30 hx (hb hby at_233) rfl rfl ?_
        refine o_lloadN (pc' := 236) X30 hx (hb hby at_235) rfl rfl ?_
        refine o_ldcL (pc' := 239) X30 hx hZ hown (hw _ (List.mem_of_getElem? (i := 22) rfl)) (hb hby at_236) rfl ?_
        refine o_lrem (pc' := 240)  X30 hx (hb hby at_239) rfl (by decide) rfl ?_
        refine o_ladd (pc' := 241)  X30 hx (hb hby at_240) rfl rfl ?_
        refine o_callP (W := 0) (pc' := 244) (argsL := [(.long (0 : Int64)), (.long ((f3_0 (f3_0 (f3_0 (f3_0 (0 : Int64) v0 (0 : Int32) x5 x6) v0 (1 : Int32) x5 x6) v0 (2 : Int32) x5 x6) v0 (3 : Int32) x5 x6) + (own_lrem x2 (3 : Int64))))]) (rest := []) (st' := [(.long (f5_0 (0 : Int64) ((f3_0 (f3_0 (f3_0 (f3_0 (0 : Int64) v0 (0 : Int32) x5 x6) v0 (1 : Int32) x5 x6) v0 (2 : Int32) x5 x6) v0 (3 : Int32) x5 x6) + (own_lrem x2 (3 : Int64)))))]) X30 hx hZ e30 hown (hw _ (List.mem_of_getElem? (i := 23) rfl)) (hw _ (List.mem_of_getElem? (i := 24) rfl)) (hw _ (List.mem_of_getElem? (i := 25) rfl)) (hw _ (List.mem_of_getElem? (i := 26) rfl)) (by decide) (rm5 l Z ag hw [] (0 : Int64) ((f3_0 (f3_0 (f3_0 (f3_0 (0 : Int64) v0 (0 : Int32) x5 x6) v0 (1 : Int32) x5 x6) v0 (2 : Int32) x5 x6) v0 (3 : Int32) x5 x6) + (own_lrem x2 (3 : Int64))) h) (by decide) (by decide) (by rw [hml]; rfl) pd_4 rfl rfl rfl rfl (hb hby at_241) rfl rfl rfl (by decide) (by decide) rfl fun T37 X37 e37 => ?_
        refine o_lstore (pc' := 246) (l' := #[z0, .val (.int x1), .val (.long x2), .second, .val (.ref a0), .val (.int x5), .val (.int x6), .val (.int (0 : Int32)), .val (.long (f3_0 (f3_0 (f3_0 (f3_0 (0 : Int64) v0 (0 : Int32) x5 x6) v0 (1 : Int32) x5 x6) v0 (2 : Int32) x5 x6) v0 (3 : Int32) x5 x6)), .second, .val (.int ((own_ushr x1 (6 : Int32)) &&& (3 : Int32))), .val (.long (f5_0 (0 : Int64) ((f3_0 (f3_0 (f3_0 (f3_0 (0 : Int64) v0 (0 : Int32) x5 x6) v0 (1 : Int32) x5 x6) v0 (2 : Int32) x5 x6) v0 (3 : Int32) x5 x6) + (own_lrem x2 (3 : Int64))))), .second, .unset, .unset]) X37 hx (hb hby at_244) rfl rfl ?_
        refine o_goto (pc' := 260) X37 hx (hb hby at_246) (by decide) (by decide) ?_
        exact b0_260 C a0 v0 x5 x6 (f3_0 (f3_0 (f3_0 (f3_0 (0 : Int64) v0 (0 : Int32) x5 x6) v0 (1 : Int32) x5 x6) v0 (2 : Int32) x5 x6) v0 (3 : Int32) x5 x6) (f5_0 (0 : Int64) ((f3_0 (f3_0 (f3_0 (f3_0 (0 : Int64) v0 (0 : Int32) x5 x6) v0 (1 : Int32) x5 x6) v0 (2 : Int32) x5 x6) v0 (3 : Int32) x5 x6) + (own_lrem x2 (3 : Int64)))) X37 e37 Aa0 ga0 hz0 (One.val rfl) (One.val rfl) (((hs.2.2.2.2.2 c31).2 c32).1 c33) hK
    · rw [if_pos c32] at hK
      refine o_lloadN (pc' := 217) X30 hx (hb hby at_216) rfl rfl ?_
      refine o_ldcL (pc' := 220) X30 hx hZ hown (hw _ (List.mem_of_getElem? (i := 19) rfl)) (hb hby at_217) rfl ?_
      refine o_land (pc' := 221)  X30 hx (hb hby at_220) rfl rfl ?_
      refine o_lstore (pc' := 223) (l' := #[z0, .val (.int x1), .val (.long x2), .second, .val (.ref a0), .val (.int x5), .val (.int x6), .val (.int (0 : Int32)), .val (.long (f3_0 (f3_0 (f3_0 (f3_0 (0 : Int64) v0 (0 : Int32) x5 x6) v0 (1 : Int32) x5 x6) v0 (2 : Int32) x5 x6) v0 (3 : Int32) x5 x6)), .second, .val (.int ((own_ushr x1 (6 : Int32)) &&& (3 : Int32))), .val (.long (x2 &&& (16383 : Int64))), .second, .unset, .unset]) X30 hx (hb hby at_221) rfl rfl ?_
      refine o_goto (pc' := 260) X30 hx (hb hby at_223) (by decide) (by decide) ?_
      exact b0_260 C a0 v0 x5 x6 (f3_0 (f3_0 (f3_0 (f3_0 (0 : Int64) v0 (0 : Int32) x5 x6) v0 (1 : Int32) x5 x6) v0 (2 : Int32) x5 x6) v0 (3 : Int32) x5 x6) (x2 &&& (16383 : Int64)) X30 e30 Aa0 ga0 hz0 (One.val rfl) (One.val rfl) ((hs.2.2.2.2.2 c31).1 c32) hK
  · rw [if_pos c31] at hK
    refine o_lloadN (pc' := 201) X30 hx (hb hby at_200) rfl rfl ?_
    refine o_ldcL (pc' := 204) X30 hx hZ hown (hw _ (List.mem_of_getElem? (i := 11) rfl)) (hb hby at_201) rfl ?_
    refine o_land (pc' := 205)  X30 hx (hb hby at_204) rfl rfl ?_
    refine o_lstore (pc' := 207) (l' := #[z0, .val (.int x1), .val (.long x2), .second, .val (.ref a0), .val (.int x5), .val (.int x6), .val (.int (0 : Int32)), .val (.long (f3_0 (f3_0 (f3_0 (f3_0 (0 : Int64) v0 (0 : Int32) x5 x6) v0 (1 : Int32) x5 x6) v0 (2 : Int32) x5 x6) v0 (3 : Int32) x5 x6)), .second, .val (.int ((own_ushr x1 (6 : Int32)) &&& (3 : Int32))), .val (.long (x2 &&& (9223372036854775807 : Int64))), .second, .unset, .unset]) X30 hx (hb hby at_205) rfl rfl ?_
    refine o_goto (pc' := 260) X30 hx (hb hby at_207) (by decide) (by decide) ?_
    exact b0_260 C a0 v0 x5 x6 (f3_0 (f3_0 (f3_0 (f3_0 (0 : Int64) v0 (0 : Int32) x5 x6) v0 (1 : Int32) x5 x6) v0 (2 : Int32) x5 x6) v0 (3 : Int32) x5 x6) (x2 &&& (9223372036854775807 : Int64)) X30 e30 Aa0 ga0 hz0 (One.val rfl) (One.val rfl) (hs.2.2.2.2.1 c31) hK

def f0_125 (x1 : Int32) (x2 : Int64) (v0 : List Int32) (x5 : Int32) (x6 : Int32) : Int32 := (f0_126 x1 x2 v0 x5 x6)
def s0_125 (x1 : Int32) (x2 : Int64) (v0 : List Int32) (x5 : Int32) (x6 : Int32) : Prop := s0_126 x1 x2 v0 x5 x6
set_option maxRecDepth 65536 in
set_option maxHeartbeats 40000000 in
theorem b0_125 (C : own_Cx p s m meth c Z ag code maxLocals "com/example/ledgerline/ledgerline/cli/OptionsDecimalValuePinLaw" ret "law") {T : State} {h : Heap} {z0 : Slot} {z7 : Slot} {z10 : Slot} (x1 : Int32) (x2 : Int64) (a0 : Addr) (v0 : List Int32) (x5 : Int32) (x6 : Int32) (X : Stand p l e R0 s m args below meth c T [] 1 4) (eT : T.heap = h) (Aa0 : own_AI Z h a0 .byte v0) (ga0 : s.heap.size ≤ a0) (hz0 : One z0) (hz7 : One z7) (hz10 : One z10) (hs : s0_125 x1 x2 v0 x5 x6) (hK : ∀ h', K (some (.int (f0_125 x1 x2 v0 x5 x6))) h' []) : own_Go p e below (own_Q s K cc0 ss0) T (mkF m 125 #[z0, .val (.int x1), .val (.long x2), .second, .val (.ref a0), .val (.int x5), .val (.int x6), z7, .unset, .unset, z10, .unset, .unset, .unset, .unset] []) := by
  obtain ⟨hx, hZ, hw, hby, hml, hown, hret, hlk, hnm⟩ := id C
  unfold f0_125 at hK
  unfold s0_125 at hs
  refine o_iconst (pc' := 126) (x := (0 : Int32)) X hx (hb hby at_125) (by decide) rfl ?_
  exact b0_126 C x1 x2 a0 v0 x5 x6 X eT Aa0 ga0 hz0 hz7 hz10 hs hK

def f0_288_10 (v0 : List Int32) (x5 : Int32) (x6 : Int32) (x11 : Int64) (t0 : Int64) : Int32 := (if (f4_0 v0 x5 x6 x11) = t0 then f0_312_7 else f0_312)
def s0_288_10 (v0 : List Int32) (x5 : Int32) (x6 : Int32) (x11 : Int64) (t0 : Int64) : Prop := ((s4_0 v0 x5 x6 x11) ∧ True)
set_option maxRecDepth 65536 in
set_option maxHeartbeats 40000000 in
theorem b0_288_10 (C : own_Cx p s m meth c Z ag code maxLocals "com/example/ledgerline/ledgerline/cli/OptionsDecimalValuePinLaw" ret "law") {T : State} {h : Heap} {z2 : Int64} {z8 : Int64} {z0 : Slot} {z1 : Slot} {z7 : Slot} {z10 : Slot} (a0 : Addr) (v0 : List Int32) (x5 : Int32) (x6 : Int32) (x11 : Int64) (t0 : Int64) (X : Stand p l e R0 s m args below meth c T [] 1 4) (eT : T.heap = h) (Aa0 : own_AI Z h a0 .byte v0) (ga0 : s.heap.size ≤ a0) (hz0 : One z0) (hz1 : One z1) (hz7 : One z7) (hz10 : One z10) (hs : s0_288_10 v0 x5 x6 x11 t0) (hK : ∀ h', K (some (.int (f0_288_10 v0 x5 x6 x11 t0))) h' []) : own_Go p e below (own_Q s K cc0 ss0) T (mkF m 288 #[z0, z1, .val (.long z2), .second, .val (.ref a0), .val (.int x5), .val (.int x6), z7, .val (.long z8), .second, z10, .val (.long x11), .second, .unset, .unset] [(.long t0)]) := by
  obtain ⟨hx, hZ, hw, hby, hml, hown, hret, hlk, hnm⟩ := id C
  unfold f0_288_10 at hK
  unfold s0_288_10 at hs
  refine o_lstore (pc' := 290) (l' := #[z0, z1, .val (.long z2), .second, .val (.ref a0), .val (.int x5), .val (.int x6), z7, .val (.long z8), .second, z10, .val (.long x11), .second, .val (.long t0), .second]) X hx (hb hby at_288) rfl rfl ?_
  refine o_aload (pc' := 292) X hx (hb hby at_290) rfl rfl rfl ?_
  refine o_iload (pc' := 294) X hx (hb hby at_292) rfl rfl ?_
  refine o_iload (pc' := 296) X hx (hb hby at_294) rfl rfl ?_
  refine o_lload (pc' := 298) X hx (hb hby at_296) rfl rfl ?_
  refine o_callP (W := 0) (pc' := 301) (argsL := [(.ref a0), (.int x5), (.int x6), (.long x11)]) (rest := []) (st' := [(.long (f4_0 v0 x5 x6 x11))]) X hx hZ eT hown (hw _ (List.mem_of_getElem? (i := 13) rfl)) (hw _ (List.mem_of_getElem? (i := 14) rfl)) (hw _ (List.mem_of_getElem? (i := 15) rfl)) (hw _ (List.mem_of_getElem? (i := 16) rfl)) (by decide) (rm4 l Z ag hw [] a0 v0 x5 x6 x11 h Aa0 hs.1) (by decide) (by decide) (by rw [hml]; rfl) pd_3 rfl rfl rfl rfl (hb hby at_298) rfl rfl rfl (by decide) (by decide) rfl fun T53 X53 e53 => ?_
  refine o_lload (pc' := 303) X53 hx (hb hby at_301) rfl rfl ?_
  refine o_lcmp (pc' := 304) X53 hx (hb hby at_303) rfl ?_
  refine o_ifN (P := (f4_0 v0 x5 x6 x11) = t0) (pc1 := 311) (pc2 := 307) X53 hx XT.ll_ne_f XT.ll_ne_t (hb hby at_304) (by decide) (by decide) rfl (fun c54 => ?_) (fun c54 => ?_)
  · rw [if_neg c54] at hK
    refine o_iconst (pc' := 312) (x := (0 : Int32)) X53 hx (hb hby at_311) (by decide) rfl ?_
    exact b0_312 C X53 e53 hz0 hz1 (One.val rfl) (One.val rfl) (One.val rfl) hz7 hz10 hK
  · rw [if_pos c54] at hK
    refine o_iconst (pc' := 308) (x := (1 : Int32)) X53 hx (hb hby at_307) (by decide) rfl ?_
    refine o_goto (pc' := 312) X53 hx (hb hby at_308) (by decide) (by decide) ?_
    exact b0_312_7 C X53 e53 hz0 hz1 (One.val rfl) (One.val rfl) (One.val rfl) hz7 hz10 hK

def f0_260_9 (v0 : List Int32) (x5 : Int32) (x6 : Int32) (x8 : Int64) (x11 : Int64) : Int32 := (if x5 < x6 then (if x11 < x8 then (f0_285 v0 x5 x6 x11) else (f0_288_10 v0 x5 x6 x11 x8)) else (f0_285 v0 x5 x6 x11))
def s0_260_9 (v0 : List Int32) (x5 : Int32) (x6 : Int32) (x8 : Int64) (x11 : Int64) : Prop := ((x5 < x6 → ((x11 < x8 → s0_285 v0 x5 x6 x11) ∧ (¬ (x11 < x8) → s0_288_10 v0 x5 x6 x11 x8))) ∧ (¬ (x5 < x6) → s0_285 v0 x5 x6 x11))
set_option maxRecDepth 65536 in
set_option maxHeartbeats 40000000 in
theorem b0_260_9 (C : own_Cx p s m meth c Z ag code maxLocals "com/example/ledgerline/ledgerline/cli/OptionsDecimalValuePinLaw" ret "law") {T : State} {h : Heap} {z2 : Int64} {z0 : Slot} {z1 : Slot} {z10 : Slot} (a0 : Addr) (v0 : List Int32) (x5 : Int32) (x6 : Int32) (x8 : Int64) (x11 : Int64) (X : Stand p l e R0 s m args below meth c T [] 1 4) (eT : T.heap = h) (Aa0 : own_AI Z h a0 .byte v0) (ga0 : s.heap.size ≤ a0) (hz0 : One z0) (hz1 : One z1) (hz10 : One z10) (hs : s0_260_9 v0 x5 x6 x8 x11) (hK : ∀ h', K (some (.int (f0_260_9 v0 x5 x6 x8 x11))) h' []) : own_Go p e below (own_Q s K cc0 ss0) T (mkF m 260 #[z0, z1, .val (.long z2), .second, .val (.ref a0), .val (.int x5), .val (.int x6), .val (.int (1 : Int32)), .val (.long x8), .second, z10, .val (.long x11), .second, .unset, .unset] []) := by
  obtain ⟨hx, hZ, hw, hby, hml, hown, hret, hlk, hnm⟩ := id C
  unfold f0_260_9 at hK
  unfold s0_260_9 at hs
  refine o_iload (pc' := 262) X hx (hb hby at_260) rfl rfl ?_
  refine o_iload (pc' := 264) X hx (hb hby at_262) rfl rfl ?_
  refine o_icN (P := x5 < x6) (pc1 := 285) (pc2 := 267) X hx XT.ii_ge_f XT.ii_ge_t (hb hby at_264) (by decide) (by decide) rfl (fun c51 => ?_) (fun c51 => ?_)
  · rw [if_neg c51] at hK
    exact b0_285 C a0 v0 x5 x6 x11 X eT Aa0 ga0 hz0 hz1 (One.val rfl) hz10 (hs.2 c51) hK
  · rw [if_pos c51] at hK
    refine o_iload (pc' := 269) X hx (hb hby at_267) rfl rfl ?_
    refine o_ifX (pc' := 272) X hx (by decide) (hb hby at_269) rfl ?_
    refine o_lload (pc' := 274) X hx (hb hby at_272) rfl rfl ?_
    refine o_lload (pc' := 276) X hx (hb hby at_274) rfl rfl ?_
    refine o_lcmp (pc' := 277) X hx (hb hby at_276) rfl ?_
    refine o_ifP (P := x11 < x8) (pc1 := 285) (pc2 := 280) X hx XT.ll_gt_t XT.ll_gt_f (hb hby at_277) (by decide) (by decide) rfl (fun c52 => ?_) (fun c52 => ?_)
    · rw [if_pos c52] at hK
      exact b0_285 C a0 v0 x5 x6 x11 X eT Aa0 ga0 hz0 hz1 (One.val rfl) hz10 ((hs.1 c51).1 c52) hK
    · rw [if_neg c52] at hK
      refine o_lload (pc' := 282) X hx (hb hby at_280) rfl rfl ?_
      refine o_goto (pc' := 288) X hx (hb hby at_282) (by decide) (by decide) ?_
      exact b0_288_10 C a0 v0 x5 x6 x11 x8 X eT Aa0 ga0 hz0 hz1 (One.val rfl) hz10 ((hs.1 c51).2 c52) hK

def f0_126_8 (x1 : Int32) (x2 : Int64) (v0 : List Int32) (x5 : Int32) (x6 : Int32) : Int32 := (if ((own_ushr x1 (6 : Int32)) &&& (3 : Int32)) = (0 : Int32) then (f0_260_9 v0 x5 x6 (f3_0 (f3_0 (f3_0 (f3_0 (0 : Int64) v0 (0 : Int32) x5 x6) v0 (1 : Int32) x5 x6) v0 (2 : Int32) x5 x6) v0 (3 : Int32) x5 x6) (x2 &&& (9223372036854775807 : Int64))) else (if ((own_ushr x1 (6 : Int32)) &&& (3 : Int32)) = (1 : Int32) then (f0_260_9 v0 x5 x6 (f3_0 (f3_0 (f3_0 (f3_0 (0 : Int64) v0 (0 : Int32) x5 x6) v0 (1 : Int32) x5 x6) v0 (2 : Int32) x5 x6) v0 (3 : Int32) x5 x6) (x2 &&& (16383 : Int64))) else (if ((own_ushr x1 (6 : Int32)) &&& (3 : Int32)) = (2 : Int32) then (f0_260_9 v0 x5 x6 (f3_0 (f3_0 (f3_0 (f3_0 (0 : Int64) v0 (0 : Int32) x5 x6) v0 (1 : Int32) x5 x6) v0 (2 : Int32) x5 x6) v0 (3 : Int32) x5 x6) (f5_0 (0 : Int64) ((f3_0 (f3_0 (f3_0 (f3_0 (0 : Int64) v0 (0 : Int32) x5 x6) v0 (1 : Int32) x5 x6) v0 (2 : Int32) x5 x6) v0 (3 : Int32) x5 x6) + (own_lrem x2 (3 : Int64))))) else (f0_260_9 v0 x5 x6 (f3_0 (f3_0 (f3_0 (f3_0 (0 : Int64) v0 (0 : Int32) x5 x6) v0 (1 : Int32) x5 x6) v0 (2 : Int32) x5 x6) v0 (3 : Int32) x5 x6) ((9223372036854775807 : Int64) - (x2 &&& (15 : Int64)))))))
def s0_126_8 (x1 : Int32) (x2 : Int64) (v0 : List Int32) (x5 : Int32) (x6 : Int32) : Prop := ((s3_0 (0 : Int64) v0 (0 : Int32) x5 x6) ∧ (s3_0 (f3_0 (0 : Int64) v0 (0 : Int32) x5 x6) v0 (1 : Int32) x5 x6) ∧ (s3_0 (f3_0 (f3_0 (0 : Int64) v0 (0 : Int32) x5 x6) v0 (1 : Int32) x5 x6) v0 (2 : Int32) x5 x6) ∧ (s3_0 (f3_0 (f3_0 (f3_0 (0 : Int64) v0 (0 : Int32) x5 x6) v0 (1 : Int32) x5 x6) v0 (2 : Int32) x5 x6) v0 (3 : Int32) x5 x6) ∧ ((((own_ushr x1 (6 : Int32)) &&& (3 : Int32)) = (0 : Int32) → s0_260_9 v0 x5 x6 (f3_0 (f3_0 (f3_0 (f3_0 (0 : Int64) v0 (0 : Int32) x5 x6) v0 (1 : Int32) x5 x6) v0 (2 : Int32) x5 x6) v0 (3 : Int32) x5 x6) (x2 &&& (9223372036854775807 : Int64))) ∧ (¬ (((own_ushr x1 (6 : Int32)) &&& (3 : Int32)) = (0 : Int32)) → ((((own_ushr x1 (6 : Int32)) &&& (3 : Int32)) = (1 : Int32) → s0_260_9 v0 x5 x6 (f3_0 (f3_0 (f3_0 (f3_0 (0 : Int64) v0 (0 : Int32) x5 x6) v0 (1 : Int32) x5 x6) v0 (2 : Int32) x5 x6) v0 (3 : Int32) x5 x6) (x2 &&& (16383 : Int64))) ∧ (¬ (((own_ushr x1 (6 : Int32)) &&& (3 : Int32)) = (1 : Int32)) → ((((own_ushr x1 (6 : Int32)) &&& (3 : Int32)) = (2 : Int32) → s0_260_9 v0 x5 x6 (f3_0 (f3_0 (f3_0 (f3_0 (0 : Int64) v0 (0 : Int32) x5 x6) v0 (1 : Int32) x5 x6) v0 (2 : Int32) x5 x6) v0 (3 : Int32) x5 x6) (f5_0 (0 : Int64) ((f3_0 (f3_0 (f3_0 (f3_0 (0 : Int64) v0 (0 : Int32) x5 x6) v0 (1 : Int32) x5 x6) v0 (2 : Int32) x5 x6) v0 (3 : Int32) x5 x6) + (own_lrem x2 (3 : Int64))))) ∧ (¬ (((own_ushr x1 (6 : Int32)) &&& (3 : Int32)) = (2 : Int32)) → s0_260_9 v0 x5 x6 (f3_0 (f3_0 (f3_0 (f3_0 (0 : Int64) v0 (0 : Int32) x5 x6) v0 (1 : Int32) x5 x6) v0 (2 : Int32) x5 x6) v0 (3 : Int32) x5 x6) ((9223372036854775807 : Int64) - (x2 &&& (15 : Int64))))))))))
set_option maxRecDepth 65536 in
set_option maxHeartbeats 40000000 in
theorem b0_126_8 (C : own_Cx p s m meth c Z ag code maxLocals "com/example/ledgerline/ledgerline/cli/OptionsDecimalValuePinLaw" ret "law") {T : State} {h : Heap} {z0 : Slot} {z7 : Slot} {z10 : Slot} (x1 : Int32) (x2 : Int64) (a0 : Addr) (v0 : List Int32) (x5 : Int32) (x6 : Int32) (X : Stand p l e R0 s m args below meth c T [] 1 4) (eT : T.heap = h) (Aa0 : own_AI Z h a0 .byte v0) (ga0 : s.heap.size ≤ a0) (hz0 : One z0) (hz7 : One z7) (hz10 : One z10) (hs : s0_126_8 x1 x2 v0 x5 x6) (hK : ∀ h', K (some (.int (f0_126_8 x1 x2 v0 x5 x6))) h' []) : own_Go p e below (own_Q s K cc0 ss0) T (mkF m 126 #[z0, .val (.int x1), .val (.long x2), .second, .val (.ref a0), .val (.int x5), .val (.int x6), z7, .unset, .unset, z10, .unset, .unset, .unset, .unset] [(.int (1 : Int32))]) := by
  obtain ⟨hx, hZ, hw, hby, hml, hown, hret, hlk, hnm⟩ := id C
  unfold f0_126_8 at hK
  unfold s0_126_8 at hs
  refine o_istoreS (pc' := 128) (l' := #[z0, .val (.int x1), .val (.long x2), .second, .val (.ref a0), .val (.int x5), .val (.int x6), .val (.int (1 : Int32)), .unset, .unset, z10, .unset, .unset, .unset, .unset]) X hx (hb hby at_126) rfl hz7 rfl rfl ?_
  refine o_lconst (pc' := 129) (u := (0 : Int64)) X hx (hb hby at_128) (by decide) rfl ?_
  refine o_lstore (pc' := 131) (l' := #[z0, .val (.int x1), .val (.long x2), .second, .val (.ref a0), .val (.int x5), .val (.int x6), .val (.int (1 : Int32)), .val (.long (0 : Int64)), .second, z10, .unset, .unset, .unset, .unset]) X hx (hb hby at_129) rfl rfl ?_
  refine o_lload (pc' := 133) X hx (hb hby at_131) rfl rfl ?_
  refine o_aload (pc' := 135) X hx (hb hby at_133) rfl rfl rfl ?_
  refine o_iconst (pc' := 136) (x := (0 : Int32)) X hx (hb hby at_135) (by decide) rfl ?_
  refine o_iload (pc' := 138) X hx (hb hby at_136) rfl rfl ?_
  refine o_iload (pc' := 140) X hx (hb hby at_138) rfl rfl ?_
  refine o_callP (W := 0) (pc' := 143) (argsL := [(.long (0 : Int64)), (.ref a0), (.int (0 : Int32)), (.int x5), (.int x6)]) (rest := []) (st' := [(.long (f3_0 (0 : Int64) v0 (0 : Int32) x5 x6))]) X hx hZ eT hown (hw _ (List.mem_of_getElem? (i := 8) rfl)) (hw _ (List.mem_of_getElem? (i := 9) rfl)) (hw _ (List.mem_of_getElem? (i := 3) rfl)) (hw _ (List.mem_of_getElem? (i := 10) rfl)) (by decide) (rm3 l Z ag hw [] (0 : Int64) a0 v0 (0 : Int32) x5 x6 h Aa0 hs.1) (by decide) (by decide) (by rw [hml]; rfl) pd_2 rfl rfl rfl rfl (hb hby at_140) rfl rfl rfl (by decide) (by decide) rfl fun T44 X44 e44 => ?_
  refine o_lstore (pc' := 145) (l' := #[z0, .val (.int x1), .val (.long x2), .second, .val (.ref a0), .val (.int x5), .val (.int x6), .val (.int (1 : Int32)), .val (.long (f3_0 (0 : Int64) v0 (0 : Int32) x5 x6)), .second, z10, .unset, .unset, .unset, .unset]) X44 hx (hb hby at_143) rfl rfl ?_
  refine o_lload (pc' := 147) X44 hx (hb hby at_145) rfl rfl ?_
  refine o_aload (pc' := 149) X44 hx (hb hby at_147) rfl rfl rfl ?_
  refine o_iconst (pc' := 150) (x := (1 : Int32)) X44 hx (hb hby at_149) (by decide) rfl ?_
  refine o_iload (pc' := 152) X44 hx (hb hby at_150) rfl rfl ?_
  refine o_iload (pc' := 154) X44 hx (hb hby at_152) rfl rfl ?_
  refine o_callP (W := 0) (pc' := 157) (argsL := [(.long (f3_0 (0 : Int64) v0 (0 : Int32) x5 x6)), (.ref a0), (.int (1 : Int32)), (.int x5), (.int x6)]) (rest := []) (st' := [(.long (f3_0 (f3_0 (0 : Int64) v0 (0 : Int32) x5 x6) v0 (1 : Int32) x5 x6))]) X44 hx hZ e44 hown (hw _ (List.mem_of_getElem? (i := 8) rfl)) (hw _ (List.mem_of_getElem? (i := 9) rfl)) (hw _ (List.mem_of_getElem? (i := 3) rfl)) (hw _ (List.mem_of_getElem? (i := 10) rfl)) (by decide) (rm3 l Z ag hw [] (f3_0 (0 : Int64) v0 (0 : Int32) x5 x6) a0 v0 (1 : Int32) x5 x6 h Aa0 hs.2.1) (by decide) (by decide) (by rw [hml]; rfl) pd_2 rfl rfl rfl rfl (hb hby at_154) rfl rfl rfl (by decide) (by decide) rfl fun T45 X45 e45 => ?_
  refine o_lstore (pc' := 159) (l' := #[z0, .val (.int x1), .val (.long x2), .second, .val (.ref a0), .val (.int x5), .val (.int x6), .val (.int (1 : Int32)), .val (.long (f3_0 (f3_0 (0 : Int64) v0 (0 : Int32) x5 x6) v0 (1 : Int32) x5 x6)), .second, z10, .unset, .unset, .unset, .unset]) X45 hx (hb hby at_157) rfl rfl ?_
  refine o_lload (pc' := 161) X45 hx (hb hby at_159) rfl rfl ?_
  refine o_aload (pc' := 163) X45 hx (hb hby at_161) rfl rfl rfl ?_
  refine o_iconst (pc' := 164) (x := (2 : Int32)) X45 hx (hb hby at_163) (by decide) rfl ?_
  refine o_iload (pc' := 166) X45 hx (hb hby at_164) rfl rfl ?_
  refine o_iload (pc' := 168) X45 hx (hb hby at_166) rfl rfl ?_
  refine o_callP (W := 0) (pc' := 171) (argsL := [(.long (f3_0 (f3_0 (0 : Int64) v0 (0 : Int32) x5 x6) v0 (1 : Int32) x5 x6)), (.ref a0), (.int (2 : Int32)), (.int x5), (.int x6)]) (rest := []) (st' := [(.long (f3_0 (f3_0 (f3_0 (0 : Int64) v0 (0 : Int32) x5 x6) v0 (1 : Int32) x5 x6) v0 (2 : Int32) x5 x6))]) X45 hx hZ e45 hown (hw _ (List.mem_of_getElem? (i := 8) rfl)) (hw _ (List.mem_of_getElem? (i := 9) rfl)) (hw _ (List.mem_of_getElem? (i := 3) rfl)) (hw _ (List.mem_of_getElem? (i := 10) rfl)) (by decide) (rm3 l Z ag hw [] (f3_0 (f3_0 (0 : Int64) v0 (0 : Int32) x5 x6) v0 (1 : Int32) x5 x6) a0 v0 (2 : Int32) x5 x6 h Aa0 hs.2.2.1) (by decide) (by decide) (by rw [hml]; rfl) pd_2 rfl rfl rfl rfl (hb hby at_168) rfl rfl rfl (by decide) (by decide) rfl fun T46 X46 e46 => ?_
  refine o_lstore (pc' := 173) (l' := #[z0, .val (.int x1), .val (.long x2), .second, .val (.ref a0), .val (.int x5), .val (.int x6), .val (.int (1 : Int32)), .val (.long (f3_0 (f3_0 (f3_0 (0 : Int64) v0 (0 : Int32) x5 x6) v0 (1 : Int32) x5 x6) v0 (2 : Int32) x5 x6)), .second, z10, .unset, .unset, .unset, .unset]) X46 hx (hb hby at_171) rfl rfl ?_
  refine o_lload (pc' := 175) X46 hx (hb hby at_173) rfl rfl ?_
  refine o_aload (pc' := 177) X46 hx (hb hby at_175) rfl rfl rfl ?_
  refine o_iconst (pc' := 178) (x := (3 : Int32)) X46 hx (hb hby at_177) (by decide) rfl ?_
  refine o_iload (pc' := 180) X46 hx (hb hby at_178) rfl rfl ?_
  refine o_iload (pc' := 182) X46 hx (hb hby at_180) rfl rfl ?_
  refine o_callP (W := 0) (pc' := 185) (argsL := [(.long (f3_0 (f3_0 (f3_0 (0 : Int64) v0 (0 : Int32) x5 x6) v0 (1 : Int32) x5 x6) v0 (2 : Int32) x5 x6)), (.ref a0), (.int (3 : Int32)), (.int x5), (.int x6)]) (rest := []) (st' := [(.long (f3_0 (f3_0 (f3_0 (f3_0 (0 : Int64) v0 (0 : Int32) x5 x6) v0 (1 : Int32) x5 x6) v0 (2 : Int32) x5 x6) v0 (3 : Int32) x5 x6))]) X46 hx hZ e46 hown (hw _ (List.mem_of_getElem? (i := 8) rfl)) (hw _ (List.mem_of_getElem? (i := 9) rfl)) (hw _ (List.mem_of_getElem? (i := 3) rfl)) (hw _ (List.mem_of_getElem? (i := 10) rfl)) (by decide) (rm3 l Z ag hw [] (f3_0 (f3_0 (f3_0 (0 : Int64) v0 (0 : Int32) x5 x6) v0 (1 : Int32) x5 x6) v0 (2 : Int32) x5 x6) a0 v0 (3 : Int32) x5 x6 h Aa0 hs.2.2.2.1) (by decide) (by decide) (by rw [hml]; rfl) pd_2 rfl rfl rfl rfl (hb hby at_182) rfl rfl rfl (by decide) (by decide) rfl fun T47 X47 e47 => ?_
  refine o_lstore (pc' := 187) (l' := #[z0, .val (.int x1), .val (.long x2), .second, .val (.ref a0), .val (.int x5), .val (.int x6), .val (.int (1 : Int32)), .val (.long (f3_0 (f3_0 (f3_0 (f3_0 (0 : Int64) v0 (0 : Int32) x5 x6) v0 (1 : Int32) x5 x6) v0 (2 : Int32) x5 x6) v0 (3 : Int32) x5 x6)), .second, z10, .unset, .unset, .unset, .unset]) X47 hx (hb hby at_185) rfl rfl ?_
  refine o_iloadN (pc' := 188) X47 hx (hb hby at_187) rfl rfl ?_
  refine o_bipush (pc' := 190) (x := (6 : Int32)) X47 hx (hb hby at_188) (by decide) rfl ?_
  refine o_iushr (pc' := 191)  X47 hx (hb hby at_190) rfl rfl ?_
  refine o_iconst (pc' := 192) (x := (3 : Int32)) X47 hx (hb hby at_191) (by decide) rfl ?_
  refine o_iand (pc' := 193)  X47 hx (hb hby at_192) rfl rfl ?_
  refine o_istoreS (pc' := 195) (l' := #[z0, .val (.int x1), .val (.long x2), .second, .val (.ref a0), .val (.int x5), .val (.int x6), .val (.int (1 : Int32)), .val (.long (f3_0 (f3_0 (f3_0 (f3_0 (0 : Int64) v0 (0 : Int32) x5 x6) v0 (1 : Int32) x5 x6) v0 (2 : Int32) x5 x6) v0 (3 : Int32) x5 x6)), .second, .val (.int ((own_ushr x1 (6 : Int32)) &&& (3 : Int32))), .unset, .unset, .unset, .unset]) X47 hx (hb hby at_193) rfl hz10 rfl rfl ?_
  refine o_iload (pc' := 197) X47 hx (hb hby at_195) rfl rfl ?_
  refine o_ifN (P := ((own_ushr x1 (6 : Int32)) &&& (3 : Int32)) = (0 : Int32)) (pc1 := 210) (pc2 := 200) X47 hx XT.i0_ne_f XT.i0_ne_t (hb hby at_197) (by decide) (by decide) rfl (fun c48 => ?_) (fun c48 => ?_)
  · rw [if_neg c48] at hK
    refine o_iload (pc' := 212) X47 hx (hb hby at_210) rfl rfl ?_
    refine o_iconst (pc' := 213) (x := (1 : Int32)) X47 hx (hb hby at_212) (by decide) rfl ?_
    refine o_icN (P := ((own_ushr x1 (6 : Int32)) &&& (3 : Int32)) = (1 : Int32)) (pc1 := 226) (pc2 := 216) X47 hx XT.ii_ne_f XT.ii_ne_t (hb hby at_213) (by decide) (by decide) rfl (fun c49 => ?_) (fun c49 => ?_)
    · rw [if_neg c49] at hK
      refine o_iload (pc' := 228) X47 hx (hb hby at_226) rfl rfl ?_
      refine o_iconst (pc' := 229) (x := (2 : Int32)) X47 hx (hb hby at_228) (by decide) rfl ?_
      refine o_icN (P := ((own_ushr x1 (6 : Int32)) &&& (3 : Int32)) = (2 : Int32)) (pc1 := 249) (pc2 := 232) X47 hx XT.ii_ne_f XT.ii_ne_t (hb hby at_229) (by decide) (by decide) rfl (fun c50 => ?_) (fun c50 => ?_)
      · rw [if_neg c50] at hK
        refine o_ldcL (pc' := 252) X47 hx hZ hown (hw _ (List.mem_of_getElem? (i := 11) rfl)) (hb hby at_249) rfl ?_
        refine o_lloadN (pc' := 253) X47 hx (hb hby at_252) rfl rfl ?_
        refine o_ldcL (pc' := 256) X47 hx hZ hown (hw _ (List.mem_of_getElem? (i := 18) rfl)) (hb hby at_253) rfl ?_
        refine o_land (pc' := 257)  X47 hx (hb hby at_256) rfl rfl ?_
        refine o_lsub (pc' := 258)  X47 hx (hb hby at_257) rfl rfl ?_
        refine o_lstore (pc' := 260) (l' := #[z0, .val (.int x1), .val (.long x2), .second, .val (.ref a0), .val (.int x5), .val (.int x6), .val (.int (1 : Int32)), .val (.long (f3_0 (f3_0 (f3_0 (f3_0 (0 : Int64) v0 (0 : Int32) x5 x6) v0 (1 : Int32) x5 x6) v0 (2 : Int32) x5 x6) v0 (3 : Int32) x5 x6)), .second, .val (.int ((own_ushr x1 (6 : Int32)) &&& (3 : Int32))), .val (.long ((9223372036854775807 : Int64) - (x2 &&& (15 : Int64)))), .second, .unset, .unset]) X47 hx (hb hby at_258) rfl rfl ?_
        exact b0_260_9 C a0 v0 x5 x6 (f3_0 (f3_0 (f3_0 (f3_0 (0 : Int64) v0 (0 : Int32) x5 x6) v0 (1 : Int32) x5 x6) v0 (2 : Int32) x5 x6) v0 (3 : Int32) x5 x6) ((9223372036854775807 : Int64) - (x2 &&& (15 : Int64))) X47 e47 Aa0 ga0 hz0 (One.val rfl) (One.val rfl) (((hs.2.2.2.2.2 c48).2 c49).2 c50) hK
      · rw [if_pos c50] at hK
        refine o_lconst (pc' := 233) (u := (0 : Int64)) X47 hx (hb hby at_232) (by decide) rfl ?_
        refine o_lload (pc' := 235) X47 hx (hb hby at_233) rfl rfl ?_
        refine o_lloadN (pc' := 236) X47 hx (hb hby at_235) rfl rfl ?_
        refine o_ldcL (pc' := 239) X47 hx hZ hown (hw _ (List.mem_of_getElem? (i := 22) rfl)) (hb hby at_236) rfl ?_
        refine o_lrem (pc' := 240)  X47 hx (hb hby at_239) rfl (by decide) rfl ?_
        refine o_ladd (pc' := 241)  X47 hx (hb hby at_240) rfl rfl ?_
        refine o_callP (W := 0) (pc' := 244) (argsL := [(.long (0 : Int64)), (.long ((f3_0 (f3_0 (f3_0 (f3_0 (0 : Int64) v0 (0 : Int32) x5 x6) v0 (1 : Int32) x5 x6) v0 (2 : Int32) x5 x6) v0 (3 : Int32) x5 x6) + (own_lrem x2 (3 : Int64))))]) (rest := []) (st' := [(.long (f5_0 (0 : Int64) ((f3_0 (f3_0 (f3_0 (f3_0 (0 : Int64) v0 (0 : Int32) x5 x6) v0 (1 : Int32) x5 x6) v0 (2 : Int32) x5 x6) v0 (3 : Int32) x5 x6) + (own_lrem x2 (3 : Int64)))))]) X47 hx hZ e47 hown (hw _ (List.mem_of_getElem? (i := 23) rfl)) (hw _ (List.mem_of_getElem? (i := 24) rfl)) (hw _ (List.mem_of_getElem? (i := 25) rfl)) (hw _ (List.mem_of_getElem? (i := 26) rfl)) (by decide) (rm5 l Z ag hw [] (0 : Int64) ((f3_0 (f3_0 (f3_0 (f3_0 (0 : Int64) v0 (0 : Int32) x5 x6) v0 (1 : Int32) x5 x6) v0 (2 : Int32) x5 x6) v0 (3 : Int32) x5 x6) + (own_lrem x2 (3 : Int64))) h) (by decide) (by decide) (by rw [hml]; rfl) pd_4 rfl rfl rfl rfl (hb hby at_241) rfl rfl rfl (by decide) (by decide) rfl fun T55 X55 e55 => ?_
        refine o_lstore (pc' := 246) (l' := #[z0, .val (.int x1), .val (.long x2), .second, .val (.ref a0), .val (.int x5), .val (.int x6), .val (.int (1 : Int32)), .val (.long (f3_0 (f3_0 (f3_0 (f3_0 (0 : Int64) v0 (0 : Int32) x5 x6) v0 (1 : Int32) x5 x6) v0 (2 : Int32) x5 x6) v0 (3 : Int32) x5 x6)), .second, .val (.int ((own_ushr x1 (6 : Int32)) &&& (3 : Int32))), .val (.long (f5_0 (0 : Int64) ((f3_0 (f3_0 (f3_0 (f3_0 (0 : Int64) v0 (0 : Int32) x5 x6) v0 (1 : Int32) x5 x6) v0 (2 : Int32) x5 x6) v0 (3 : Int32) x5 x6) + (own_lrem x2 (3 : Int64))))), .second, .unset, .unset]) X55 hx (hb hby at_244) rfl rfl ?_
        refine o_goto (pc' := 260) X55 hx (hb hby at_246) (by decide) (by decide) ?_
        exact b0_260_9 C a0 v0 x5 x6 (f3_0 (f3_0 (f3_0 (f3_0 (0 : Int64) v0 (0 : Int32) x5 x6) v0 (1 : Int32) x5 x6) v0 (2 : Int32) x5 x6) v0 (3 : Int32) x5 x6) (f5_0 (0 : Int64) ((f3_0 (f3_0 (f3_0 (f3_0 (0 : Int64) v0 (0 : Int32) x5 x6) v0 (1 : Int32) x5 x6) v0 (2 : Int32) x5 x6) v0 (3 : Int32) x5 x6) + (own_lrem x2 (3 : Int64)))) X55 e55 Aa0 ga0 hz0 (One.val rfl) (One.val rfl) (((hs.2.2.2.2.2 c48).2 c49).1 c50) hK
    · rw [if_pos c49] at hK
      refine o_lloadN (pc' := 217) X47 hx (hb hby at_216) rfl rfl ?_
      refine o_ldcL (pc' := 220) X47 hx hZ hown (hw _ (List.mem_of_getElem? (i := 19) rfl)) (hb hby at_217) rfl ?_
      refine o_land (pc' := 221)  X47 hx (hb hby at_220) rfl rfl ?_
      refine o_lstore (pc' := 223) (l' := #[z0, .val (.int x1), .val (.long x2), .second, .val (.ref a0), .val (.int x5), .val (.int x6), .val (.int (1 : Int32)), .val (.long (f3_0 (f3_0 (f3_0 (f3_0 (0 : Int64) v0 (0 : Int32) x5 x6) v0 (1 : Int32) x5 x6) v0 (2 : Int32) x5 x6) v0 (3 : Int32) x5 x6)), .second, .val (.int ((own_ushr x1 (6 : Int32)) &&& (3 : Int32))), .val (.long (x2 &&& (16383 : Int64))), .second, .unset, .unset]) X47 hx (hb hby at_221) rfl rfl ?_
      refine o_goto (pc' := 260) X47 hx (hb hby at_223) (by decide) (by decide) ?_
      exact b0_260_9 C a0 v0 x5 x6 (f3_0 (f3_0 (f3_0 (f3_0 (0 : Int64) v0 (0 : Int32) x5 x6) v0 (1 : Int32) x5 x6) v0 (2 : Int32) x5 x6) v0 (3 : Int32) x5 x6) (x2 &&& (16383 : Int64)) X47 e47 Aa0 ga0 hz0 (One.val rfl) (One.val rfl) ((hs.2.2.2.2.2 c48).1 c49) hK
  · rw [if_pos c48] at hK
    refine o_lloadN (pc' := 201) X47 hx (hb hby at_200) rfl rfl ?_
    refine o_ldcL (pc' := 204) X47 hx hZ hown (hw _ (List.mem_of_getElem? (i := 11) rfl)) (hb hby at_201) rfl ?_
    refine o_land (pc' := 205)  X47 hx (hb hby at_204) rfl rfl ?_
    refine o_lstore (pc' := 207) (l' := #[z0, .val (.int x1), .val (.long x2), .second, .val (.ref a0), .val (.int x5), .val (.int x6), .val (.int (1 : Int32)), .val (.long (f3_0 (f3_0 (f3_0 (f3_0 (0 : Int64) v0 (0 : Int32) x5 x6) v0 (1 : Int32) x5 x6) v0 (2 : Int32) x5 x6) v0 (3 : Int32) x5 x6)), .second, .val (.int ((own_ushr x1 (6 : Int32)) &&& (3 : Int32))), .val (.long (x2 &&& (9223372036854775807 : Int64))), .second, .unset, .unset]) X47 hx (hb hby at_205) rfl rfl ?_
    refine o_goto (pc' := 260) X47 hx (hb hby at_207) (by decide) (by decide) ?_
    exact b0_260_9 C a0 v0 x5 x6 (f3_0 (f3_0 (f3_0 (f3_0 (0 : Int64) v0 (0 : Int32) x5 x6) v0 (1 : Int32) x5 x6) v0 (2 : Int32) x5 x6) v0 (3 : Int32) x5 x6) (x2 &&& (9223372036854775807 : Int64)) X47 e47 Aa0 ga0 hz0 (One.val rfl) (One.val rfl) (hs.2.2.2.2.1 c48) hK

def f0_0 (p0 : Int32) (p1 : Int32) (q2 : Int64) : Int32 := (if (f2_0 [(own_i2b (f1_0 p0 p1 (0 : Int32))), (own_i2b (f1_0 p0 p1 (1 : Int32))), (own_i2b (f1_0 p0 p1 (2 : Int32))), (own_i2b (f1_0 p0 p1 (3 : Int32)))] (0 : Int32) (own_rem (p1 &&& (7 : Int32)) (5 : Int32)) ((own_rem (p1 &&& (7 : Int32)) (5 : Int32)) + (own_rem ((own_ushr p1 (3 : Int32)) &&& (7 : Int32)) ((5 : Int32) - (own_rem (p1 &&& (7 : Int32)) (5 : Int32)))))) = (0 : Int32) then (f0_125 p1 q2 [(own_i2b (f1_0 p0 p1 (0 : Int32))), (own_i2b (f1_0 p0 p1 (1 : Int32))), (own_i2b (f1_0 p0 p1 (2 : Int32))), (own_i2b (f1_0 p0 p1 (3 : Int32)))] (own_rem (p1 &&& (7 : Int32)) (5 : Int32)) ((own_rem (p1 &&& (7 : Int32)) (5 : Int32)) + (own_rem ((own_ushr p1 (3 : Int32)) &&& (7 : Int32)) ((5 : Int32) - (own_rem (p1 &&& (7 : Int32)) (5 : Int32)))))) else (if (f2_0 [(own_i2b (f1_0 p0 p1 (0 : Int32))), (own_i2b (f1_0 p0 p1 (1 : Int32))), (own_i2b (f1_0 p0 p1 (2 : Int32))), (own_i2b (f1_0 p0 p1 (3 : Int32)))] (1 : Int32) (own_rem (p1 &&& (7 : Int32)) (5 : Int32)) ((own_rem (p1 &&& (7 : Int32)) (5 : Int32)) + (own_rem ((own_ushr p1 (3 : Int32)) &&& (7 : Int32)) ((5 : Int32) - (own_rem (p1 &&& (7 : Int32)) (5 : Int32)))))) = (0 : Int32) then (f0_125 p1 q2 [(own_i2b (f1_0 p0 p1 (0 : Int32))), (own_i2b (f1_0 p0 p1 (1 : Int32))), (own_i2b (f1_0 p0 p1 (2 : Int32))), (own_i2b (f1_0 p0 p1 (3 : Int32)))] (own_rem (p1 &&& (7 : Int32)) (5 : Int32)) ((own_rem (p1 &&& (7 : Int32)) (5 : Int32)) + (own_rem ((own_ushr p1 (3 : Int32)) &&& (7 : Int32)) ((5 : Int32) - (own_rem (p1 &&& (7 : Int32)) (5 : Int32)))))) else (if (f2_0 [(own_i2b (f1_0 p0 p1 (0 : Int32))), (own_i2b (f1_0 p0 p1 (1 : Int32))), (own_i2b (f1_0 p0 p1 (2 : Int32))), (own_i2b (f1_0 p0 p1 (3 : Int32)))] (2 : Int32) (own_rem (p1 &&& (7 : Int32)) (5 : Int32)) ((own_rem (p1 &&& (7 : Int32)) (5 : Int32)) + (own_rem ((own_ushr p1 (3 : Int32)) &&& (7 : Int32)) ((5 : Int32) - (own_rem (p1 &&& (7 : Int32)) (5 : Int32)))))) = (0 : Int32) then (f0_125 p1 q2 [(own_i2b (f1_0 p0 p1 (0 : Int32))), (own_i2b (f1_0 p0 p1 (1 : Int32))), (own_i2b (f1_0 p0 p1 (2 : Int32))), (own_i2b (f1_0 p0 p1 (3 : Int32)))] (own_rem (p1 &&& (7 : Int32)) (5 : Int32)) ((own_rem (p1 &&& (7 : Int32)) (5 : Int32)) + (own_rem ((own_ushr p1 (3 : Int32)) &&& (7 : Int32)) ((5 : Int32) - (own_rem (p1 &&& (7 : Int32)) (5 : Int32)))))) else (if (f2_0 [(own_i2b (f1_0 p0 p1 (0 : Int32))), (own_i2b (f1_0 p0 p1 (1 : Int32))), (own_i2b (f1_0 p0 p1 (2 : Int32))), (own_i2b (f1_0 p0 p1 (3 : Int32)))] (3 : Int32) (own_rem (p1 &&& (7 : Int32)) (5 : Int32)) ((own_rem (p1 &&& (7 : Int32)) (5 : Int32)) + (own_rem ((own_ushr p1 (3 : Int32)) &&& (7 : Int32)) ((5 : Int32) - (own_rem (p1 &&& (7 : Int32)) (5 : Int32)))))) = (0 : Int32) then (f0_125 p1 q2 [(own_i2b (f1_0 p0 p1 (0 : Int32))), (own_i2b (f1_0 p0 p1 (1 : Int32))), (own_i2b (f1_0 p0 p1 (2 : Int32))), (own_i2b (f1_0 p0 p1 (3 : Int32)))] (own_rem (p1 &&& (7 : Int32)) (5 : Int32)) ((own_rem (p1 &&& (7 : Int32)) (5 : Int32)) + (own_rem ((own_ushr p1 (3 : Int32)) &&& (7 : Int32)) ((5 : Int32) - (own_rem (p1 &&& (7 : Int32)) (5 : Int32)))))) else (f0_126_8 p1 q2 [(own_i2b (f1_0 p0 p1 (0 : Int32))), (own_i2b (f1_0 p0 p1 (1 : Int32))), (own_i2b (f1_0 p0 p1 (2 : Int32))), (own_i2b (f1_0 p0 p1 (3 : Int32)))] (own_rem (p1 &&& (7 : Int32)) (5 : Int32)) ((own_rem (p1 &&& (7 : Int32)) (5 : Int32)) + (own_rem ((own_ushr p1 (3 : Int32)) &&& (7 : Int32)) ((5 : Int32) - (own_rem (p1 &&& (7 : Int32)) (5 : Int32))))))))))
def s0_0 (p0 : Int32) (p1 : Int32) (q2 : Int64) : Prop := (¬ (((5 : Int32) - (own_rem (p1 &&& (7 : Int32)) (5 : Int32))) = 0) ∧ (s2_0 [(own_i2b (f1_0 p0 p1 (0 : Int32))), (own_i2b (f1_0 p0 p1 (1 : Int32))), (own_i2b (f1_0 p0 p1 (2 : Int32))), (own_i2b (f1_0 p0 p1 (3 : Int32)))] (0 : Int32) (own_rem (p1 &&& (7 : Int32)) (5 : Int32)) ((own_rem (p1 &&& (7 : Int32)) (5 : Int32)) + (own_rem ((own_ushr p1 (3 : Int32)) &&& (7 : Int32)) ((5 : Int32) - (own_rem (p1 &&& (7 : Int32)) (5 : Int32)))))) ∧ (((f2_0 [(own_i2b (f1_0 p0 p1 (0 : Int32))), (own_i2b (f1_0 p0 p1 (1 : Int32))), (own_i2b (f1_0 p0 p1 (2 : Int32))), (own_i2b (f1_0 p0 p1 (3 : Int32)))] (0 : Int32) (own_rem (p1 &&& (7 : Int32)) (5 : Int32)) ((own_rem (p1 &&& (7 : Int32)) (5 : Int32)) + (own_rem ((own_ushr p1 (3 : Int32)) &&& (7 : Int32)) ((5 : Int32) - (own_rem (p1 &&& (7 : Int32)) (5 : Int32)))))) = (0 : Int32) → s0_125 p1 q2 [(own_i2b (f1_0 p0 p1 (0 : Int32))), (own_i2b (f1_0 p0 p1 (1 : Int32))), (own_i2b (f1_0 p0 p1 (2 : Int32))), (own_i2b (f1_0 p0 p1 (3 : Int32)))] (own_rem (p1 &&& (7 : Int32)) (5 : Int32)) ((own_rem (p1 &&& (7 : Int32)) (5 : Int32)) + (own_rem ((own_ushr p1 (3 : Int32)) &&& (7 : Int32)) ((5 : Int32) - (own_rem (p1 &&& (7 : Int32)) (5 : Int32)))))) ∧ (¬ ((f2_0 [(own_i2b (f1_0 p0 p1 (0 : Int32))), (own_i2b (f1_0 p0 p1 (1 : Int32))), (own_i2b (f1_0 p0 p1 (2 : Int32))), (own_i2b (f1_0 p0 p1 (3 : Int32)))] (0 : Int32) (own_rem (p1 &&& (7 : Int32)) (5 : Int32)) ((own_rem (p1 &&& (7 : Int32)) (5 : Int32)) + (own_rem ((own_ushr p1 (3 : Int32)) &&& (7 : Int32)) ((5 : Int32) - (own_rem (p1 &&& (7 : Int32)) (5 : Int32)))))) = (0 : Int32)) → ((s2_0 [(own_i2b (f1_0 p0 p1 (0 : Int32))), (own_i2b (f1_0 p0 p1 (1 : Int32))), (own_i2b (f1_0 p0 p1 (2 : Int32))), (own_i2b (f1_0 p0 p1 (3 : Int32)))] (1 : Int32) (own_rem (p1 &&& (7 : Int32)) (5 : Int32)) ((own_rem (p1 &&& (7 : Int32)) (5 : Int32)) + (own_rem ((own_ushr p1 (3 : Int32)) &&& (7 : Int32)) ((5 : Int32) - (own_rem (p1 &&& (7 : Int32)) (5 : Int32)))))) ∧ (((f2_0 [(own_i2b (f1_0 p0 p1 (0 : Int32))), (own_i2b (f1_0 p0 p1 (1 : Int32))), (own_i2b (f1_0 p0 p1 (2 : Int32))), (own_i2b (f1_0 p0 p1 (3 : Int32)))] (1 : Int32) (own_rem (p1 &&& (7 : Int32)) (5 : Int32)) ((own_rem (p1 &&& (7 : Int32)) (5 : Int32)) + (own_rem ((own_ushr p1 (3 : Int32)) &&& (7 : Int32)) ((5 : Int32) - (own_rem (p1 &&& (7 : Int32)) (5 : Int32)))))) = (0 : Int32) → s0_125 p1 q2 [(own_i2b (f1_0 p0 p1 (0 : Int32))), (own_i2b (f1_0 p0 p1 (1 : Int32))), (own_i2b (f1_0 p0 p1 (2 : Int32))), (own_i2b (f1_0 p0 p1 (3 : Int32)))] (own_rem (p1 &&& (7 : Int32)) (5 : Int32)) ((own_rem (p1 &&& (7 : Int32)) (5 : Int32)) + (own_rem ((own_ushr p1 (3 : Int32)) &&& (7 : Int32)) ((5 : Int32) - (own_rem (p1 &&& (7 : Int32)) (5 : Int32)))))) ∧ (¬ ((f2_0 [(own_i2b (f1_0 p0 p1 (0 : Int32))), (own_i2b (f1_0 p0 p1 (1 : Int32))), (own_i2b (f1_0 p0 p1 (2 : Int32))), (own_i2b (f1_0 p0 p1 (3 : Int32)))] (1 : Int32) (own_rem (p1 &&& (7 : Int32)) (5 : Int32)) ((own_rem (p1 &&& (7 : Int32)) (5 : Int32)) + (own_rem ((own_ushr p1 (3 : Int32)) &&& (7 : Int32)) ((5 : Int32) - (own_rem (p1 &&& (7 : Int32)) (5 : Int32)))))) = (0 : Int32)) → ((s2_0 [(own_i2b (f1_0 p0 p1 (0 : Int32))), (own_i2b (f1_0 p0 p1 (1 : Int32))), (own_i2b (f1_0 p0 p1 (2 : Int32))), (own_i2b (f1_0 p0 p1 (3 : Int32)))] (2 : Int32) (own_rem (p1 &&& (7 : Int32)) (5 : Int32)) ((own_rem (p1 &&& (7 : Int32)) (5 : Int32)) + (own_rem ((own_ushr p1 (3 : Int32)) &&& (7 : Int32)) ((5 : Int32) - (own_rem (p1 &&& (7 : Int32)) (5 : Int32)))))) ∧ (((f2_0 [(own_i2b (f1_0 p0 p1 (0 : Int32))), (own_i2b (f1_0 p0 p1 (1 : Int32))), (own_i2b (f1_0 p0 p1 (2 : Int32))), (own_i2b (f1_0 p0 p1 (3 : Int32)))] (2 : Int32) (own_rem (p1 &&& (7 : Int32)) (5 : Int32)) ((own_rem (p1 &&& (7 : Int32)) (5 : Int32)) + (own_rem ((own_ushr p1 (3 : Int32)) &&& (7 : Int32)) ((5 : Int32) - (own_rem (p1 &&& (7 : Int32)) (5 : Int32)))))) = (0 : Int32) → s0_125 p1 q2 [(own_i2b (f1_0 p0 p1 (0 : Int32))), (own_i2b (f1_0 p0 p1 (1 : Int32))), (own_i2b (f1_0 p0 p1 (2 : Int32))), (own_i2b (f1_0 p0 p1 (3 : Int32)))] (own_rem (p1 &&& (7 : Int32)) (5 : Int32)) ((own_rem (p1 &&& (7 : Int32)) (5 : Int32)) + (own_rem ((own_ushr p1 (3 : Int32)) &&& (7 : Int32)) ((5 : Int32) - (own_rem (p1 &&& (7 : Int32)) (5 : Int32)))))) ∧ (¬ ((f2_0 [(own_i2b (f1_0 p0 p1 (0 : Int32))), (own_i2b (f1_0 p0 p1 (1 : Int32))), (own_i2b (f1_0 p0 p1 (2 : Int32))), (own_i2b (f1_0 p0 p1 (3 : Int32)))] (2 : Int32) (own_rem (p1 &&& (7 : Int32)) (5 : Int32)) ((own_rem (p1 &&& (7 : Int32)) (5 : Int32)) + (own_rem ((own_ushr p1 (3 : Int32)) &&& (7 : Int32)) ((5 : Int32) - (own_rem (p1 &&& (7 : Int32)) (5 : Int32)))))) = (0 : Int32)) → ((s2_0 [(own_i2b (f1_0 p0 p1 (0 : Int32))), (own_i2b (f1_0 p0 p1 (1 : Int32))), (own_i2b (f1_0 p0 p1 (2 : Int32))), (own_i2b (f1_0 p0 p1 (3 : Int32)))] (3 : Int32) (own_rem (p1 &&& (7 : Int32)) (5 : Int32)) ((own_rem (p1 &&& (7 : Int32)) (5 : Int32)) + (own_rem ((own_ushr p1 (3 : Int32)) &&& (7 : Int32)) ((5 : Int32) - (own_rem (p1 &&& (7 : Int32)) (5 : Int32)))))) ∧ (((f2_0 [(own_i2b (f1_0 p0 p1 (0 : Int32))), (own_i2b (f1_0 p0 p1 (1 : Int32))), (own_i2b (f1_0 p0 p1 (2 : Int32))), (own_i2b (f1_0 p0 p1 (3 : Int32)))] (3 : Int32) (own_rem (p1 &&& (7 : Int32)) (5 : Int32)) ((own_rem (p1 &&& (7 : Int32)) (5 : Int32)) + (own_rem ((own_ushr p1 (3 : Int32)) &&& (7 : Int32)) ((5 : Int32) - (own_rem (p1 &&& (7 : Int32)) (5 : Int32)))))) = (0 : Int32) → s0_125 p1 q2 [(own_i2b (f1_0 p0 p1 (0 : Int32))), (own_i2b (f1_0 p0 p1 (1 : Int32))), (own_i2b (f1_0 p0 p1 (2 : Int32))), (own_i2b (f1_0 p0 p1 (3 : Int32)))] (own_rem (p1 &&& (7 : Int32)) (5 : Int32)) ((own_rem (p1 &&& (7 : Int32)) (5 : Int32)) + (own_rem ((own_ushr p1 (3 : Int32)) &&& (7 : Int32)) ((5 : Int32) - (own_rem (p1 &&& (7 : Int32)) (5 : Int32)))))) ∧ (¬ ((f2_0 [(own_i2b (f1_0 p0 p1 (0 : Int32))), (own_i2b (f1_0 p0 p1 (1 : Int32))), (own_i2b (f1_0 p0 p1 (2 : Int32))), (own_i2b (f1_0 p0 p1 (3 : Int32)))] (3 : Int32) (own_rem (p1 &&& (7 : Int32)) (5 : Int32)) ((own_rem (p1 &&& (7 : Int32)) (5 : Int32)) + (own_rem ((own_ushr p1 (3 : Int32)) &&& (7 : Int32)) ((5 : Int32) - (own_rem (p1 &&& (7 : Int32)) (5 : Int32)))))) = (0 : Int32)) → s0_126_8 p1 q2 [(own_i2b (f1_0 p0 p1 (0 : Int32))), (own_i2b (f1_0 p0 p1 (1 : Int32))), (own_i2b (f1_0 p0 p1 (2 : Int32))), (own_i2b (f1_0 p0 p1 (3 : Int32)))] (own_rem (p1 &&& (7 : Int32)) (5 : Int32)) ((own_rem (p1 &&& (7 : Int32)) (5 : Int32)) + (own_rem ((own_ushr p1 (3 : Int32)) &&& (7 : Int32)) ((5 : Int32) - (own_rem (p1 &&& (7 : Int32)) (5 : Int32)))))))))))))))))
set_option maxRecDepth 65536 in
set_option maxHeartbeats 40000000 in
theorem b0_0 (C : own_Cx p s m meth c Z ag code maxLocals "com/example/ledgerline/ledgerline/cli/OptionsDecimalValuePinLaw" ret "law") {T : State} {h : Heap} (p0 : Int32) (p1 : Int32) (q2 : Int64) (X : Stand p l e R0 s m args below meth c T [] 0 0) (eT : T.heap = h) (hs : s0_0 p0 p1 q2) (hK : ∀ h', K (some (.int (f0_0 p0 p1 q2))) h' []) : own_Go p e below (own_Q s K cc0 ss0) T (mkF m 0 #[.val (.int p0), .val (.int p1), .val (.long q2), .second, .unset, .unset, .unset, .unset, .unset, .unset, .unset, .unset, .unset, .unset, .unset] []) := by
  obtain ⟨hx, hZ, hw, hby, hml, hown, hret, hlk, hnm⟩ := id C
  unfold f0_0 at hK
  unfold s0_0 at hs
  refine o_iconst (pc' := 1) (x := (4 : Int32)) X hx (hb hby at_0) (by decide) rfl ?_
  refine o_newI (pc' := 3) (cap := 4) (vs := [(0 : Int32), (0 : Int32), (0 : Int32), (0 : Int32)]) X hx hZ eT (hw _ (List.mem_of_getElem? (i := 0) rfl)) rfl rfl (hb hby at_1) rfl (by decide) (by decide) (by decide) (by decide) (by decide) rfl fun T16 h16 b16 X16 e16 q16 E16 A16 => ?_
  have g16 : s.heap.size ≤ b16 := q16 ▸ own_sz X eT
  refine o_astore (pc' := 5) (l' := #[.val (.int p0), .val (.int p1), .val (.long q2), .second, .val (.ref b16), .unset, .unset, .unset, .unset, .unset, .unset, .unset, .unset, .unset, .unset]) X16 hx (hb hby at_3) rfl rfl rfl ?_
  refine o_aload (pc' := 7) X16 hx (hb hby at_5) rfl rfl rfl ?_
  refine o_iconst (pc' := 8) (x := (0 : Int32)) X16 hx (hb hby at_7) (by decide) rfl ?_
  refine o_iloadN (pc' := 9) X16 hx (hb hby at_8) rfl rfl ?_
  refine o_iloadN (pc' := 10) X16 hx (hb hby at_9) rfl rfl ?_
  refine o_iconst (pc' := 11) (x := (0 : Int32)) X16 hx (hb hby at_10) (by decide) rfl ?_
  refine o_callP (W := 2) (pc' := 14) (argsL := [(.int p0), (.int p1), (.int (0 : Int32))]) (rest := [(.int (0 : Int32)), (.ref b16)]) (st' := [(.int (f1_0 p0 p1 (0 : Int32))), (.int (0 : Int32)), (.ref b16)]) X16 hx hZ e16 hown (hw _ (List.mem_of_getElem? (i := 1) rfl)) (hw _ (List.mem_of_getElem? (i := 2) rfl)) (hw _ (List.mem_of_getElem? (i := 3) rfl)) (hw _ (List.mem_of_getElem? (i := 4) rfl)) (by decide) (rm1 l Z ag hw [] p0 p1 (0 : Int32) h16) (by decide) (by decide) (by rw [hml]; rfl) pd_0 rfl rfl rfl rfl (hb hby at_11) rfl rfl rfl (by decide) (by decide) rfl fun T17 X17 e17 => ?_
  refine o_bastore (pc' := 15) (vs' := [(own_i2b (f1_0 p0 p1 (0 : Int32))), (0 : Int32), (0 : Int32), (0 : Int32)]) X17 hx hZ e17 A16 ⟨by decide, Nat.le_of_ble_eq_true rfl⟩ (hb hby at_14) rfl rfl fun T18 h18 X18 e18 W18 A18 => ?_
  have Y18 := own_drop X18 g16
  refine o_aload (pc' := 17) Y18 hx (hb hby at_15) rfl rfl rfl ?_
  refine o_iconst (pc' := 18) (x := (1 : Int32)) Y18 hx (hb hby at_17) (by decide) rfl ?_
  refine o_iloadN (pc' := 19) Y18 hx (hb hby at_18) rfl rfl ?_
  refine o_iloadN (pc' := 20) Y18 hx (hb hby at_19) rfl rfl ?_
  refine o_iconst (pc' := 21) (x := (1 : Int32)) Y18 hx (hb hby at_20) (by decide) rfl ?_
  refine o_callP (W := 2) (pc' := 24) (argsL := [(.int p0), (.int p1), (.int (1 : Int32))]) (rest := [(.int (1 : Int32)), (.ref b16)]) (st' := [(.int (f1_0 p0 p1 (1 : Int32))), (.int (1 : Int32)), (.ref b16)]) Y18 hx hZ e18 hown (hw _ (List.mem_of_getElem? (i := 1) rfl)) (hw _ (List.mem_of_getElem? (i := 2) rfl)) (hw _ (List.mem_of_getElem? (i := 3) rfl)) (hw _ (List.mem_of_getElem? (i := 4) rfl)) (by decide) (rm1 l Z ag hw [] p0 p1 (1 : Int32) h18) (by decide) (by decide) (by rw [hml]; rfl) pd_0 rfl rfl rfl rfl (hb hby at_21) rfl rfl rfl (by decide) (by decide) rfl fun T19 X19 e19 => ?_
  refine o_bastore (pc' := 25) (vs' := [(own_i2b (f1_0 p0 p1 (0 : Int32))), (own_i2b (f1_0 p0 p1 (1 : Int32))), (0 : Int32), (0 : Int32)]) X19 hx hZ e19 A18 ⟨by decide, Nat.le_of_ble_eq_true rfl⟩ (hb hby at_24) rfl rfl fun T20 h20 X20 e20 W20 A20 => ?_
  have Y20 := own_drop X20 g16
  refine o_aload (pc' := 27) Y20 hx (hb hby at_25) rfl rfl rfl ?_
  refine o_iconst (pc' := 28) (x := (2 : Int32)) Y20 hx (hb hby at_27) (by decide) rfl ?_
  refine o_iloadN (pc' := 29) Y20 hx (hb hby at_28) rfl rfl ?_
  refine o_iloadN (pc' := 30) Y20 hx (hb hby at_29) rfl rfl ?_
  refine o_iconst (pc' := 31) (x := (2 : Int32)) Y20 hx (hb hby at_30) (by decide) rfl ?_
  refine o_callP (W := 2) (pc' := 34) (argsL := [(.int p0), (.int p1), (.int (2 : Int32))]) (rest := [(.int (2 : Int32)), (.ref b16)]) (st' := [(.int (f1_0 p0 p1 (2 : Int32))), (.int (2 : Int32)), (.ref b16)]) Y20 hx hZ e20 hown (hw _ (List.mem_of_getElem? (i := 1) rfl)) (hw _ (List.mem_of_getElem? (i := 2) rfl)) (hw _ (List.mem_of_getElem? (i := 3) rfl)) (hw _ (List.mem_of_getElem? (i := 4) rfl)) (by decide) (rm1 l Z ag hw [] p0 p1 (2 : Int32) h20) (by decide) (by decide) (by rw [hml]; rfl) pd_0 rfl rfl rfl rfl (hb hby at_31) rfl rfl rfl (by decide) (by decide) rfl fun T21 X21 e21 => ?_
  refine o_bastore (pc' := 35) (vs' := [(own_i2b (f1_0 p0 p1 (0 : Int32))), (own_i2b (f1_0 p0 p1 (1 : Int32))), (own_i2b (f1_0 p0 p1 (2 : Int32))), (0 : Int32)]) X21 hx hZ e21 A20 ⟨by decide, Nat.le_of_ble_eq_true rfl⟩ (hb hby at_34) rfl rfl fun T22 h22 X22 e22 W22 A22 => ?_
  have Y22 := own_drop X22 g16
  refine o_aload (pc' := 37) Y22 hx (hb hby at_35) rfl rfl rfl ?_
  refine o_iconst (pc' := 38) (x := (3 : Int32)) Y22 hx (hb hby at_37) (by decide) rfl ?_
  refine o_iloadN (pc' := 39) Y22 hx (hb hby at_38) rfl rfl ?_
  refine o_iloadN (pc' := 40) Y22 hx (hb hby at_39) rfl rfl ?_
  refine o_iconst (pc' := 41) (x := (3 : Int32)) Y22 hx (hb hby at_40) (by decide) rfl ?_
  refine o_callP (W := 2) (pc' := 44) (argsL := [(.int p0), (.int p1), (.int (3 : Int32))]) (rest := [(.int (3 : Int32)), (.ref b16)]) (st' := [(.int (f1_0 p0 p1 (3 : Int32))), (.int (3 : Int32)), (.ref b16)]) Y22 hx hZ e22 hown (hw _ (List.mem_of_getElem? (i := 1) rfl)) (hw _ (List.mem_of_getElem? (i := 2) rfl)) (hw _ (List.mem_of_getElem? (i := 3) rfl)) (hw _ (List.mem_of_getElem? (i := 4) rfl)) (by decide) (rm1 l Z ag hw [] p0 p1 (3 : Int32) h22) (by decide) (by decide) (by rw [hml]; rfl) pd_0 rfl rfl rfl rfl (hb hby at_41) rfl rfl rfl (by decide) (by decide) rfl fun T23 X23 e23 => ?_
  refine o_bastore (pc' := 45) (vs' := [(own_i2b (f1_0 p0 p1 (0 : Int32))), (own_i2b (f1_0 p0 p1 (1 : Int32))), (own_i2b (f1_0 p0 p1 (2 : Int32))), (own_i2b (f1_0 p0 p1 (3 : Int32)))]) X23 hx hZ e23 A22 ⟨by decide, Nat.le_of_ble_eq_true rfl⟩ (hb hby at_44) rfl rfl fun T24 h24 X24 e24 W24 A24 => ?_
  have Y24 := own_drop X24 g16
  refine o_iloadN (pc' := 46) Y24 hx (hb hby at_45) rfl rfl ?_
  refine o_bipush (pc' := 48) (x := (7 : Int32)) Y24 hx (hb hby at_46) (by decide) rfl ?_
  refine o_iand (pc' := 49)  Y24 hx (hb hby at_48) rfl rfl ?_
  refine o_iconst (pc' := 50) (x := (5 : Int32)) Y24 hx (hb hby at_49) (by decide) rfl ?_
  refine o_irem (pc' := 51)  Y24 hx (hb hby at_50) rfl (by decide) rfl ?_
  refine o_istore (pc' := 53) (l' := #[.val (.int p0), .val (.int p1), .val (.long q2), .second, .val (.ref b16), .val (.int (own_rem (p1 &&& (7 : Int32)) (5 : Int32))), .unset, .unset, .unset, .unset, .unset, .unset, .unset, .unset, .unset]) Y24 hx (hb hby at_51) rfl rfl ?_
  refine o_iload (pc' := 55) Y24 hx (hb hby at_53) rfl rfl ?_
  refine o_iloadN (pc' := 56) Y24 hx (hb hby at_55) rfl rfl ?_
  refine o_iconst (pc' := 57) (x := (3 : Int32)) Y24 hx (hb hby at_56) (by decide) rfl ?_
  refine o_iushr (pc' := 58)  Y24 hx (hb hby at_57) rfl rfl ?_
  refine o_bipush (pc' := 60) (x := (7 : Int32)) Y24 hx (hb hby at_58) (by decide) rfl ?_
  refine o_iand (pc' := 61)  Y24 hx (hb hby at_60) rfl rfl ?_
  refine o_iconst (pc' := 62) (x := (5 : Int32)) Y24 hx (hb hby at_61) (by decide) rfl ?_
  refine o_iload (pc' := 64) Y24 hx (hb hby at_62) rfl rfl ?_
  refine o_isub (pc' := 65)  Y24 hx (hb hby at_64) rfl rfl ?_
  refine o_irem (pc' := 66)  Y24 hx (hb hby at_65) rfl hs.1 rfl ?_
  refine o_iadd (pc' := 67)  Y24 hx (hb hby at_66) rfl rfl ?_
  refine o_istore (pc' := 69) (l' := #[.val (.int p0), .val (.int p1), .val (.long q2), .second, .val (.ref b16), .val (.int (own_rem (p1 &&& (7 : Int32)) (5 : Int32))), .val (.int ((own_rem (p1 &&& (7 : Int32)) (5 : Int32)) + (own_rem ((own_ushr p1 (3 : Int32)) &&& (7 : Int32)) ((5 : Int32) - (own_rem (p1 &&& (7 : Int32)) (5 : Int32)))))), .unset, .unset, .unset, .unset, .unset, .unset, .unset, .unset]) Y24 hx (hb hby at_67) rfl rfl ?_
  refine o_aload (pc' := 71) Y24 hx (hb hby at_69) rfl rfl rfl ?_
  refine o_iconst (pc' := 72) (x := (0 : Int32)) Y24 hx (hb hby at_71) (by decide) rfl ?_
  refine o_iload (pc' := 74) Y24 hx (hb hby at_72) rfl rfl ?_
  refine o_iload (pc' := 76) Y24 hx (hb hby at_74) rfl rfl ?_
  refine o_callP (W := 0) (pc' := 79) (argsL := [(.ref b16), (.int (0 : Int32)), (.int (own_rem (p1 &&& (7 : Int32)) (5 : Int32))), (.int ((own_rem (p1 &&& (7 : Int32)) (5 : Int32)) + (own_rem ((own_ushr p1 (3 : Int32)) &&& (7 : Int32)) ((5 : Int32) - (own_rem (p1 &&& (7 : Int32)) (5 : Int32))))))]) (rest := []) (st' := [(.int (f2_0 [(own_i2b (f1_0 p0 p1 (0 : Int32))), (own_i2b (f1_0 p0 p1 (1 : Int32))), (own_i2b (f1_0 p0 p1 (2 : Int32))), (own_i2b (f1_0 p0 p1 (3 : Int32)))] (0 : Int32) (own_rem (p1 &&& (7 : Int32)) (5 : Int32)) ((own_rem (p1 &&& (7 : Int32)) (5 : Int32)) + (own_rem ((own_ushr p1 (3 : Int32)) &&& (7 : Int32)) ((5 : Int32) - (own_rem (p1 &&& (7 : Int32)) (5 : Int32)))))))]) Y24 hx hZ e24 hown (hw _ (List.mem_of_getElem? (i := 5) rfl)) (hw _ (List.mem_of_getElem? (i := 6) rfl)) (hw _ (List.mem_of_getElem? (i := 3) rfl)) (hw _ (List.mem_of_getElem? (i := 7) rfl)) (by decide) (rm2 l Z ag hw [] b16 [(own_i2b (f1_0 p0 p1 (0 : Int32))), (own_i2b (f1_0 p0 p1 (1 : Int32))), (own_i2b (f1_0 p0 p1 (2 : Int32))), (own_i2b (f1_0 p0 p1 (3 : Int32)))] (0 : Int32) (own_rem (p1 &&& (7 : Int32)) (5 : Int32)) ((own_rem (p1 &&& (7 : Int32)) (5 : Int32)) + (own_rem ((own_ushr p1 (3 : Int32)) &&& (7 : Int32)) ((5 : Int32) - (own_rem (p1 &&& (7 : Int32)) (5 : Int32))))) h24 A24 hs.2.1) (by decide) (by decide) (by rw [hml]; rfl) pd_1 rfl rfl rfl rfl (hb hby at_76) rfl rfl rfl (by decide) (by decide) rfl fun T25 X25 e25 => ?_
  refine o_ifP (P := (f2_0 [(own_i2b (f1_0 p0 p1 (0 : Int32))), (own_i2b (f1_0 p0 p1 (1 : Int32))), (own_i2b (f1_0 p0 p1 (2 : Int32))), (own_i2b (f1_0 p0 p1 (3 : Int32)))] (0 : Int32) (own_rem (p1 &&& (7 : Int32)) (5 : Int32)) ((own_rem (p1 &&& (7 : Int32)) (5 : Int32)) + (own_rem ((own_ushr p1 (3 : Int32)) &&& (7 : Int32)) ((5 : Int32) - (own_rem (p1 &&& (7 : Int32)) (5 : Int32)))))) = (0 : Int32)) (pc1 := 125) (pc2 := 82) X25 hx XT.i0_eq_t XT.i0_eq_f (hb hby at_79) (by decide) (by decide) rfl (fun c26 => ?_) (fun c26 => ?_)
  · rw [if_pos c26] at hK
    exact b0_125 C p1 q2 b16 [(own_i2b (f1_0 p0 p1 (0 : Int32))), (own_i2b (f1_0 p0 p1 (1 : Int32))), (own_i2b (f1_0 p0 p1 (2 : Int32))), (own_i2b (f1_0 p0 p1 (3 : Int32)))] (own_rem (p1 &&& (7 : Int32)) (5 : Int32)) ((own_rem (p1 &&& (7 : Int32)) (5 : Int32)) + (own_rem ((own_ushr p1 (3 : Int32)) &&& (7 : Int32)) ((5 : Int32) - (own_rem (p1 &&& (7 : Int32)) (5 : Int32))))) X25 e25 A24 g16 (One.val rfl) One.u One.u (hs.2.2.1 c26) hK
  · rw [if_neg c26] at hK
    refine o_aload (pc' := 84) X25 hx (hb hby at_82) rfl rfl rfl ?_
    refine o_iconst (pc' := 85) (x := (1 : Int32)) X25 hx (hb hby at_84) (by decide) rfl ?_
    refine o_iload (pc' := 87) X25 hx (hb hby at_85) rfl rfl ?_
    refine o_iload (pc' := 89) X25 hx (hb hby at_87) rfl rfl ?_
    refine o_callP (W := 0) (pc' := 92) (argsL := [(.ref b16), (.int (1 : Int32)), (.int (own_rem (p1 &&& (7 : Int32)) (5 : Int32))), (.int ((own_rem (p1 &&& (7 : Int32)) (5 : Int32)) + (own_rem ((own_ushr p1 (3 : Int32)) &&& (7 : Int32)) ((5 : Int32) - (own_rem (p1 &&& (7 : Int32)) (5 : Int32))))))]) (rest := []) (st' := [(.int (f2_0 [(own_i2b (f1_0 p0 p1 (0 : Int32))), (own_i2b (f1_0 p0 p1 (1 : Int32))), (own_i2b (f1_0 p0 p1 (2 : Int32))), (own_i2b (f1_0 p0 p1 (3 : Int32)))] (1 : Int32) (own_rem (p1 &&& (7 : Int32)) (5 : Int32)) ((own_rem (p1 &&& (7 : Int32)) (5 : Int32)) + (own_rem ((own_ushr p1 (3 : Int32)) &&& (7 : Int32)) ((5 : Int32) - (own_rem (p1 &&& (7 : Int32)) (5 : Int32)))))))]) X25 hx hZ e25 hown (hw _ (List.mem_of_getElem? (i := 5) rfl)) (hw _ (List.mem_of_getElem? (i := 6) rfl)) (hw _ (List.mem_of_getElem? (i := 3) rfl)) (hw _ (List.mem_of_getElem? (i := 7) rfl)) (by decide) (rm2 l Z ag hw [] b16 [(own_i2b (f1_0 p0 p1 (0 : Int32))), (own_i2b (f1_0 p0 p1 (1 : Int32))), (own_i2b (f1_0 p0 p1 (2 : Int32))), (own_i2b (f1_0 p0 p1 (3 : Int32)))] (1 : Int32) (own_rem (p1 &&& (7 : Int32)) (5 : Int32)) ((own_rem (p1 &&& (7 : Int32)) (5 : Int32)) + (own_rem ((own_ushr p1 (3 : Int32)) &&& (7 : Int32)) ((5 : Int32) - (own_rem (p1 &&& (7 : Int32)) (5 : Int32))))) h24 A24 (hs.2.2.2 c26).1) (by decide) (by decide) (by rw [hml]; rfl) pd_1 rfl rfl rfl rfl (hb hby at_89) rfl rfl rfl (by decide) (by decide) rfl fun T38 X38 e38 => ?_
    refine o_ifP (P := (f2_0 [(own_i2b (f1_0 p0 p1 (0 : Int32))), (own_i2b (f1_0 p0 p1 (1 : Int32))), (own_i2b (f1_0 p0 p1 (2 : Int32))), (own_i2b (f1_0 p0 p1 (3 : Int32)))] (1 : Int32) (own_rem (p1 &&& (7 : Int32)) (5 : Int32)) ((own_rem (p1 &&& (7 : Int32)) (5 : Int32)) + (own_rem ((own_ushr p1 (3 : Int32)) &&& (7 : Int32)) ((5 : Int32) - (own_rem (p1 &&& (7 : Int32)) (5 : Int32)))))) = (0 : Int32)) (pc1 := 125) (pc2 := 95) X38 hx XT.i0_eq_t XT.i0_eq_f (hb hby at_92) (by decide) (by decide) rfl (fun c39 => ?_) (fun c39 => ?_)
    · rw [if_pos c39] at hK
      exact b0_125 C p1 q2 b16 [(own_i2b (f1_0 p0 p1 (0 : Int32))), (own_i2b (f1_0 p0 p1 (1 : Int32))), (own_i2b (f1_0 p0 p1 (2 : Int32))), (own_i2b (f1_0 p0 p1 (3 : Int32)))] (own_rem (p1 &&& (7 : Int32)) (5 : Int32)) ((own_rem (p1 &&& (7 : Int32)) (5 : Int32)) + (own_rem ((own_ushr p1 (3 : Int32)) &&& (7 : Int32)) ((5 : Int32) - (own_rem (p1 &&& (7 : Int32)) (5 : Int32))))) X38 e38 A24 g16 (One.val rfl) One.u One.u ((hs.2.2.2 c26).2.1 c39) hK
    · rw [if_neg c39] at hK
      refine o_aload (pc' := 97) X38 hx (hb hby at_95) rfl rfl rfl ?_
      refine o_iconst (pc' := 98) (x := (2 : Int32)) X38 hx (hb hby at_97) (by decide) rfl ?_
      refine o_iload (pc' := 100) X38 hx (hb hby at_98) rfl rfl ?_
      refine o_iload (pc' := 102) X38 hx (hb hby at_100) rfl rfl ?_
      refine o_callP (W := 0) (pc' := 105) (argsL := [(.ref b16), (.int (2 : Int32)), (.int (own_rem (p1 &&& (7 : Int32)) (5 : Int32))), (.int ((own_rem (p1 &&& (7 : Int32)) (5 : Int32)) + (own_rem ((own_ushr p1 (3 : Int32)) &&& (7 : Int32)) ((5 : Int32) - (own_rem (p1 &&& (7 : Int32)) (5 : Int32))))))]) (rest := []) (st' := [(.int (f2_0 [(own_i2b (f1_0 p0 p1 (0 : Int32))), (own_i2b (f1_0 p0 p1 (1 : Int32))), (own_i2b (f1_0 p0 p1 (2 : Int32))), (own_i2b (f1_0 p0 p1 (3 : Int32)))] (2 : Int32) (own_rem (p1 &&& (7 : Int32)) (5 : Int32)) ((own_rem (p1 &&& (7 : Int32)) (5 : Int32)) + (own_rem ((own_ushr p1 (3 : Int32)) &&& (7 : Int32)) ((5 : Int32) - (own_rem (p1 &&& (7 : Int32)) (5 : Int32)))))))]) X38 hx hZ e38 hown (hw _ (List.mem_of_getElem? (i := 5) rfl)) (hw _ (List.mem_of_getElem? (i := 6) rfl)) (hw _ (List.mem_of_getElem? (i := 3) rfl)) (hw _ (List.mem_of_getElem? (i := 7) rfl)) (by decide) (rm2 l Z ag hw [] b16 [(own_i2b (f1_0 p0 p1 (0 : Int32))), (own_i2b (f1_0 p0 p1 (1 : Int32))), (own_i2b (f1_0 p0 p1 (2 : Int32))), (own_i2b (f1_0 p0 p1 (3 : Int32)))] (2 : Int32) (own_rem (p1 &&& (7 : Int32)) (5 : Int32)) ((own_rem (p1 &&& (7 : Int32)) (5 : Int32)) + (own_rem ((own_ushr p1 (3 : Int32)) &&& (7 : Int32)) ((5 : Int32) - (own_rem (p1 &&& (7 : Int32)) (5 : Int32))))) h24 A24 ((hs.2.2.2 c26).2.2 c39).1) (by decide) (by decide) (by rw [hml]; rfl) pd_1 rfl rfl rfl rfl (hb hby at_102) rfl rfl rfl (by decide) (by decide) rfl fun T40 X40 e40 => ?_
      refine o_ifP (P := (f2_0 [(own_i2b (f1_0 p0 p1 (0 : Int32))), (own_i2b (f1_0 p0 p1 (1 : Int32))), (own_i2b (f1_0 p0 p1 (2 : Int32))), (own_i2b (f1_0 p0 p1 (3 : Int32)))] (2 : Int32) (own_rem (p1 &&& (7 : Int32)) (5 : Int32)) ((own_rem (p1 &&& (7 : Int32)) (5 : Int32)) + (own_rem ((own_ushr p1 (3 : Int32)) &&& (7 : Int32)) ((5 : Int32) - (own_rem (p1 &&& (7 : Int32)) (5 : Int32)))))) = (0 : Int32)) (pc1 := 125) (pc2 := 108) X40 hx XT.i0_eq_t XT.i0_eq_f (hb hby at_105) (by decide) (by decide) rfl (fun c41 => ?_) (fun c41 => ?_)
      · rw [if_pos c41] at hK
        exact b0_125 C p1 q2 b16 [(own_i2b (f1_0 p0 p1 (0 : Int32))), (own_i2b (f1_0 p0 p1 (1 : Int32))), (own_i2b (f1_0 p0 p1 (2 : Int32))), (own_i2b (f1_0 p0 p1 (3 : Int32)))] (own_rem (p1 &&& (7 : Int32)) (5 : Int32)) ((own_rem (p1 &&& (7 : Int32)) (5 : Int32)) + (own_rem ((own_ushr p1 (3 : Int32)) &&& (7 : Int32)) ((5 : Int32) - (own_rem (p1 &&& (7 : Int32)) (5 : Int32))))) X40 e40 A24 g16 (One.val rfl) One.u One.u (((hs.2.2.2 c26).2.2 c39).2.1 c41) hK
      · rw [if_neg c41] at hK
        refine o_aload (pc' := 110) X40 hx (hb hby at_108) rfl rfl rfl ?_
        refine o_iconst (pc' := 111) (x := (3 : Int32)) X40 hx (hb hby at_110) (by decide) rfl ?_
        refine o_iload (pc' := 113) X40 hx (hb hby at_111) rfl rfl ?_
        refine o_iload (pc' := 115) X40 hx (hb hby at_113) rfl rfl ?_
        refine o_callP (W := 0) (pc' := 118) (argsL := [(.ref b16), (.int (3 : Int32)), (.int (own_rem (p1 &&& (7 : Int32)) (5 : Int32))), (.int ((own_rem (p1 &&& (7 : Int32)) (5 : Int32)) + (own_rem ((own_ushr p1 (3 : Int32)) &&& (7 : Int32)) ((5 : Int32) - (own_rem (p1 &&& (7 : Int32)) (5 : Int32))))))]) (rest := []) (st' := [(.int (f2_0 [(own_i2b (f1_0 p0 p1 (0 : Int32))), (own_i2b (f1_0 p0 p1 (1 : Int32))), (own_i2b (f1_0 p0 p1 (2 : Int32))), (own_i2b (f1_0 p0 p1 (3 : Int32)))] (3 : Int32) (own_rem (p1 &&& (7 : Int32)) (5 : Int32)) ((own_rem (p1 &&& (7 : Int32)) (5 : Int32)) + (own_rem ((own_ushr p1 (3 : Int32)) &&& (7 : Int32)) ((5 : Int32) - (own_rem (p1 &&& (7 : Int32)) (5 : Int32)))))))]) X40 hx hZ e40 hown (hw _ (List.mem_of_getElem? (i := 5) rfl)) (hw _ (List.mem_of_getElem? (i := 6) rfl)) (hw _ (List.mem_of_getElem? (i := 3) rfl)) (hw _ (List.mem_of_getElem? (i := 7) rfl)) (by decide) (rm2 l Z ag hw [] b16 [(own_i2b (f1_0 p0 p1 (0 : Int32))), (own_i2b (f1_0 p0 p1 (1 : Int32))), (own_i2b (f1_0 p0 p1 (2 : Int32))), (own_i2b (f1_0 p0 p1 (3 : Int32)))] (3 : Int32) (own_rem (p1 &&& (7 : Int32)) (5 : Int32)) ((own_rem (p1 &&& (7 : Int32)) (5 : Int32)) + (own_rem ((own_ushr p1 (3 : Int32)) &&& (7 : Int32)) ((5 : Int32) - (own_rem (p1 &&& (7 : Int32)) (5 : Int32))))) h24 A24 (((hs.2.2.2 c26).2.2 c39).2.2 c41).1) (by decide) (by decide) (by rw [hml]; rfl) pd_1 rfl rfl rfl rfl (hb hby at_115) rfl rfl rfl (by decide) (by decide) rfl fun T42 X42 e42 => ?_
        refine o_ifP (P := (f2_0 [(own_i2b (f1_0 p0 p1 (0 : Int32))), (own_i2b (f1_0 p0 p1 (1 : Int32))), (own_i2b (f1_0 p0 p1 (2 : Int32))), (own_i2b (f1_0 p0 p1 (3 : Int32)))] (3 : Int32) (own_rem (p1 &&& (7 : Int32)) (5 : Int32)) ((own_rem (p1 &&& (7 : Int32)) (5 : Int32)) + (own_rem ((own_ushr p1 (3 : Int32)) &&& (7 : Int32)) ((5 : Int32) - (own_rem (p1 &&& (7 : Int32)) (5 : Int32)))))) = (0 : Int32)) (pc1 := 125) (pc2 := 121) X42 hx XT.i0_eq_t XT.i0_eq_f (hb hby at_118) (by decide) (by decide) rfl (fun c43 => ?_) (fun c43 => ?_)
        · rw [if_pos c43] at hK
          exact b0_125 C p1 q2 b16 [(own_i2b (f1_0 p0 p1 (0 : Int32))), (own_i2b (f1_0 p0 p1 (1 : Int32))), (own_i2b (f1_0 p0 p1 (2 : Int32))), (own_i2b (f1_0 p0 p1 (3 : Int32)))] (own_rem (p1 &&& (7 : Int32)) (5 : Int32)) ((own_rem (p1 &&& (7 : Int32)) (5 : Int32)) + (own_rem ((own_ushr p1 (3 : Int32)) &&& (7 : Int32)) ((5 : Int32) - (own_rem (p1 &&& (7 : Int32)) (5 : Int32))))) X42 e42 A24 g16 (One.val rfl) One.u One.u ((((hs.2.2.2 c26).2.2 c39).2.2 c41).2.1 c43) hK
        · rw [if_neg c43] at hK
          refine o_iconst (pc' := 122) (x := (1 : Int32)) X42 hx (hb hby at_121) (by decide) rfl ?_
          refine o_goto (pc' := 126) X42 hx (hb hby at_122) (by decide) (by decide) ?_
          exact b0_126_8 C p1 q2 b16 [(own_i2b (f1_0 p0 p1 (0 : Int32))), (own_i2b (f1_0 p0 p1 (1 : Int32))), (own_i2b (f1_0 p0 p1 (2 : Int32))), (own_i2b (f1_0 p0 p1 (3 : Int32)))] (own_rem (p1 &&& (7 : Int32)) (5 : Int32)) ((own_rem (p1 &&& (7 : Int32)) (5 : Int32)) + (own_rem ((own_ushr p1 (3 : Int32)) &&& (7 : Int32)) ((5 : Int32) - (own_rem (p1 &&& (7 : Int32)) (5 : Int32))))) X42 e42 A24 g16 (One.val rfl) One.u One.u ((((hs.2.2.2 c26).2.2 c39).2.2 c41).2.2 c43) hK

end Body0
theorem ef_0 (m : MethodId) (p0 : Int32) (p1 : Int32) (q2 : Int64) : entryFrame m #[(.int p0), (.int p1), (.long q2)] maxLocals = mkF m 0 #[.val (.int p0), .val (.int p1), .val (.long q2), .second, .unset, .unset, .unset, .unset, .unset, .unset, .unset, .unset, .unset, .unset, .unset] [] := by first | (simp [entryFrame, mkF, argsToLocals, Value.category, maxLocals]; done) | rfl
set_option maxRecDepth 65536 in
set_option maxHeartbeats 40000000 in
theorem rm0 (l : Launch) (Z : State) (ag : Array Value) (hw : ∀ d ∈ tables_1, d.before ag Z = true) (ws : List Jvm.Cond) (p0 : Int32) (p1 : Int32) (q2 : Int64) (h0 : Heap) (hs : s0_0 p0 p1 q2) :
    MetFree l x (head1 (Jvm.Cond.code x code maxLocals ret :: ws) R0) (fun a U => a = #[(.int p0), (.int p1), (.long q2)] ∧ Z.Warmed39 U.vm ∧ U.heap = h0) (fun _ _ _ _ _ => True) (fun _ U o U' => ∃ v L, o = .returned v ∧ own_KL (some (.int (f0_0 p0 p1 q2))) v U'.heap L ∧ FrameEnd U o U' L cc0 ss0) := by
  refine MetFree.of_bodySF (plainFor_of_name pn_OptionsDecimalValuePinLaw) hisR ?_
  intro p e s m args below meth c s₁ Bd hml0 hP hK
  obtain ⟨rfl, hZ, hh⟩ := hP
  have C : own_Cx p s m meth c Z ag code maxLocals "com/example/ledgerline/ledgerline/cli/OptionsDecimalValuePinLaw" ret "law" := ⟨Bd.exec, hZ, hw, Bd.bytes, hml0, findClass_of_methodNamed Bd.named, Bd.returns, Bd.notSynchronized, (name_of_methodNamed Bd.named Bd.method).1⟩
  have X0 : Stand p l e R0 s m #[(.int p0), (.int p1), (.long q2)] below meth c s₁ [] 0 0 := Stand.of_body Bd
  have e0 : s₁.heap = h0 := by rw [← hh, Bd.state]; rfl
  rw [ef_0]
  exact b0_0 (K := own_KL (some (.int (f0_0 p0 p1 q2)))) C p0 p1 q2 X0 e0 hs (fun _ => ⟨rfl, rfl⟩)

def own_dg (v : List Int32) (i : Nat) : Prop := ¬ (v.getD i 0 < 48) ∧ ¬ (57 < v.getD i 0)
def own_dig (v : List Int32) (i c : Nat) : Prop := ∀ j, i ≤ j → j < i + c → own_dg v j
def own_fold (v : List Int32) : Int64 → Nat → Nat → Int64
  | a, _, 0 => a
  | a, i, c + 1 => own_fold v (a * 10 + (v.getD i 0 - 48).toInt64) (i + 1) c
def own_bd (v : List Int32) : Prop := ∀ j, -128 ≤ (v.getD j 0).toInt ∧ (v.getD j 0).toInt ≤ 127
theorem own_sub48 {b : Int32} (h : -128 ≤ b.toInt ∧ b.toInt ≤ 127) : (b - 48).toInt = b.toInt - 48 := by
  have e : (48 : Int32).toInt = 48 := rfl
  rw [Jvm.Kit.i32_sub (by rw [e]; omega) (by rw [e]; omega), e]
theorem own_pow {i : Nat} (h : i < 4) : (10 : Int) ^ (i + 1) = 10 * 10 ^ i ∧ (10 : Int) ^ i ≤ 1000 := by
  have : i = 0 ∨ i = 1 ∨ i = 2 ∨ i = 3 := by omega
  rcases this with rfl | rfl | rfl | rfl <;> exact ⟨by decide, by decide⟩
theorem own_step {v : List Int32} {i : Nat} {a : Int64} (hb : own_bd v) (hi : i < 4) (h0 : 0 ≤ a.toInt) (h1 : a.toInt < 10 ^ i) (hd : own_dg v i) :
    (a * 10 + (v.getD i 0 - 48).toInt64).toInt = a.toInt * 10 + ((v.getD i 0).toInt - 48) ∧ 48 ≤ (v.getD i 0).toInt ∧ (v.getD i 0).toInt ≤ 57 ∧ a.toInt * 10 + ((v.getD i 0).toInt - 48) < 10 ^ (i + 1) := by
  obtain ⟨d0, d1⟩ := hd
  rw [own_lt] at d0 d1
  have e1 : (48 : Int32).toInt = 48 := rfl
  have e2 : (57 : Int32).toInt = 57 := rfl
  have e3 : (10 : Int64).toInt = 10 := rfl
  rw [e1] at d0; rw [e2] at d1
  obtain ⟨p1, p2⟩ := own_pow hi
  have m : (a * 10).toInt = a.toInt * 10 := by rw [Jvm.Kit.i64_mul (by rw [e3]; omega) (by rw [e3]; omega), e3]
  have s : ((v.getD i 0 - 48).toInt64).toInt = (v.getD i 0).toInt - 48 := by rw [Jvm.Kit.i64_of_i32, own_sub48 (hb i)]
  refine ⟨?_, by omega, by omega, by omega⟩
  rw [Jvm.Kit.i64_add (by rw [m, s]; omega) (by rw [m, s]; omega), m, s]
theorem own_mono {v : List Int32} (hb : own_bd v) : ∀ (c i : Nat) (a : Int64), i + c ≤ 4 → 0 ≤ a.toInt → a.toInt < 10 ^ i → own_dig v i c → a.toInt ≤ (own_fold v a i c).toInt := by
  intro c
  induction c with
  | zero => intro i a _ _ _ _; exact Int.le_refl _
  | succ c ih =>
    intro i a hi h0 h1 hd
    have d := hd i (Nat.le_refl _) (by omega)
    obtain ⟨e, g0, g1, g2⟩ := own_step hb (by omega) h0 h1 d
    have r := ih (i + 1) (a * 10 + (v.getD i 0 - 48).toInt64) (by omega) (by rw [e]; omega) (by rw [e]; omega) (fun j a b => hd j (by omega) (by omega))
    rw [own_fold]
    rw [e] at r
    omega
def own_ok (v : List Int32) (M r : Int64) (a : Int64) (i c : Nat) : Prop :=
  (¬ own_dig v i c → r = -1) ∧ (own_dig v i c → M < own_fold v a i c → r = -1) ∧ (own_dig v i c → ¬ M < own_fold v a i c → r = own_fold v a i c)
theorem own_ok_bad {v : List Int32} {M a : Int64} {i c : Nat} (h : ¬ own_dig v i c ∨ M < own_fold v a i c) : own_ok v M (-1) a i c :=
  ⟨fun _ => rfl, fun _ _ => rfl, fun p q => absurd h (by intro k; cases k with | inl k => exact k p | inr k => exact q k)⟩
theorem own_loop {v : List Int32} (hb : own_bd v) (hl : v.length = 4) (M : Int64) (hM : 0 ≤ M.toInt) (t : Nat) (ht : t ≤ 4) :
    ∀ (c i n : Nat) (a : Int64), i + c = t → c < n → 0 ≤ a.toInt → a.toInt < 10 ^ i → a.toInt ≤ M.toInt →
      s4_29 n v (Int32.ofNat t) (M / 10) (own_lrem M 10) a (Int32.ofNat i) ∧ own_ok v M (f4_29 n v (Int32.ofNat t) (M / 10) (own_lrem M 10) a (Int32.ofNat i)) a i c := by
  have eQ : (M / 10).toInt = M.toInt / 10 := by
    have e3 : (10 : Int64).toInt = 10 := rfl
    rw [Jvm.Kit.i64_div (by rw [e3]; omega), e3, Int.tdiv_eq_ediv_of_nonneg hM]
  have eR : (own_lrem M 10).toInt = M.toInt % 10 := own_lemod hM
  intro c
  induction c with
  | zero =>
    intro i n a hi hn h0 h1 h2
    obtain ⟨n, rfl⟩ : ∃ k, n = k + 1 := ⟨n - 1, by omega⟩
    have q : ¬ Int32.ofNat i < Int32.ofNat t := by rw [own_nat_lt (by omega) (by omega)]; omega
    refine ⟨⟨fun k => absurd k q, fun _ => trivial⟩, ?_⟩
    rw [f4_29, if_neg q]
    refine ⟨fun k => absurd (fun j a b => absurd b (by omega)) k, fun _ k => ?_, fun _ _ => rfl⟩
    rw [own_fold, own_ltL] at k
    omega
  | succ c ih =>
    intro i n a hi hn h0 h1 h2
    obtain ⟨n, rfl⟩ : ∃ k, n = k + 1 := ⟨n - 1, by omega⟩
    have q : Int32.ofNat i < Int32.ofNat t := by rw [own_nat_lt (by omega) (by omega)]; omega
    have g : own_get v (Int32.ofNat i) = v.getD i 0 := own_nat_get v (by omega)
    have b := hb i
    have s := own_sub48 b
    have k48 : (48 : Int32).toInt = 48 := rfl
    have k57 : (57 : Int32).toInt = 57 := rfl
    have k0 : (0 : Int32).toInt = 0 := rfl
    have k9 : (9 : Int32).toInt = 9 := rfl
    have ein : own_in v.length (Int32.ofNat i) := own_nat_in (by omega) (by omega)
    rw [s4_29, f4_29, g, if_pos q, own_nat_one]
    by_cases c1 : v.getD i 0 - 48 < 0
    · rw [if_pos c1]
      refine ⟨⟨fun _ => ⟨ein, fun _ => trivial, fun k => absurd c1 k⟩, fun k => absurd q k⟩, own_ok_bad (Or.inl fun k => ?_)⟩
      have := (k i (by omega) (by omega)).1
      rw [own_lt] at this c1
      omega
    rw [if_neg c1]
    by_cases c2 : 9 < v.getD i 0 - 48
    · rw [if_pos c2]
      refine ⟨⟨fun _ => ⟨ein, fun k => absurd k c1, fun _ => ⟨fun _ => trivial, fun k => absurd c2 k⟩⟩, fun k => absurd q k⟩, own_ok_bad (Or.inl fun k => ?_)⟩
      have := (k i (by omega) (by omega)).2
      rw [own_lt] at this c2
      omega
    rw [if_neg c2]
    have hd : own_dg v i := by
      rw [own_lt] at c1 c2
      exact ⟨by rw [own_lt]; omega, by rw [own_lt]; omega⟩
    obtain ⟨e, g0, g1, g2⟩ := own_step hb (by omega) h0 h1 hd
    have s64 : ((v.getD i 0 - 48).toInt64).toInt = (v.getD i 0).toInt - 48 := by rw [Jvm.Kit.i64_of_i32, s]
    have split : own_dig v i (c + 1) ↔ own_dig v (i + 1) c := by
      constructor
      · intro k j x y; exact k j (by omega) (by omega)
      · intro k j x y
        by_cases z : j = i
        · rw [z]; exact hd
        · exact k j (by omega) (by omega)
    have big : M.toInt < a.toInt * 10 + ((v.getD i 0).toInt - 48) → own_ok v M (-1) a i (c + 1) := by
      intro k
      by_cases z : own_dig v i (c + 1)
      · refine own_ok_bad (Or.inr ?_)
        have := own_mono hb c (i + 1) (a * 10 + (v.getD i 0 - 48).toInt64) (by omega) (by rw [e]; omega) (by rw [e]; omega) (split.mp z)
        rw [own_fold, own_ltL]
        omega
      · exact own_ok_bad (Or.inl z)
    have sm : ¬ M.toInt < a.toInt * 10 + ((v.getD i 0).toInt - 48) →
        s4_29 n v (Int32.ofNat t) (M / 10) (own_lrem M 10) (a * 10 + (v.getD i 0 - 48).toInt64) (Int32.ofNat (i + 1)) ∧ own_ok v M (f4_29 n v (Int32.ofNat t) (M / 10) (own_lrem M 10) (a * 10 + (v.getD i 0 - 48).toInt64) (Int32.ofNat (i + 1))) a i (c + 1) := by
      intro k
      obtain ⟨r1, r2⟩ := ih (i + 1) n (a * 10 + (v.getD i 0 - 48).toInt64) (by omega) (by omega) (by rw [e]; omega) (by rw [e]; omega) (by rw [e]; omega)
      refine ⟨r1, ?_⟩
      unfold own_ok
      rw [split, own_fold]
      exact r2
    by_cases c3 : M / 10 < a
    · rw [if_pos c3]
      refine ⟨⟨fun _ => ⟨ein, fun k => absurd k c1, fun _ => ⟨fun k => absurd k c2, fun _ => ⟨fun _ => trivial, fun k => absurd c3 k⟩⟩⟩, fun k => absurd q k⟩, big ?_⟩
      rw [own_ltL, eQ] at c3
      omega
    rw [if_neg c3]
    have c3' := c3
    rw [own_ltL, eQ] at c3'
    by_cases c4 : a = M / 10
    · rw [if_pos c4]
      have c4' := own_eqL.mp c4
      rw [eQ] at c4'
      by_cases c5 : own_lrem M 10 < (v.getD i 0 - 48).toInt64
      · rw [if_pos c5]
        refine ⟨⟨fun _ => ⟨ein, fun k => absurd k c1, fun _ => ⟨fun k => absurd k c2, fun _ => ⟨fun k => absurd k c3, fun _ => ⟨fun _ => ⟨fun _ => trivial, fun k => absurd c5 k⟩, fun k => absurd c4 k⟩⟩⟩⟩, fun k => absurd q k⟩, big ?_⟩
        rw [own_ltL, eR, s64] at c5
        omega
      · rw [if_neg c5]
        have c5' := c5
        rw [own_ltL, eR, s64] at c5'
        obtain ⟨r1, r2⟩ := sm (by omega)
        exact ⟨⟨fun _ => ⟨ein, fun k => absurd k c1, fun _ => ⟨fun k => absurd k c2, fun _ => ⟨fun k => absurd k c3, fun _ => ⟨fun _ => ⟨fun k => absurd k c5, fun _ => r1⟩, fun k => absurd c4 k⟩⟩⟩⟩, fun k => absurd q k⟩, r2⟩
    · rw [if_neg c4]
      have c4' : ¬ a.toInt = M.toInt / 10 := fun k => c4 (own_eqL.mpr (by rw [eQ]; exact k))
      obtain ⟨r1, r2⟩ := sm (by omega)
      exact ⟨⟨fun _ => ⟨ein, fun k => absurd k c1, fun _ => ⟨fun k => absurd k c2, fun _ => ⟨fun k => absurd k c3, fun _ => ⟨fun k => absurd k c4, fun _ => r1⟩⟩⟩⟩, fun k => absurd q k⟩, r2⟩
theorem own_f4 {v : List Int32} (hb : own_bd v) (hl : v.length = 4) (M : Int64) (hM : 0 ≤ M.toInt) {f t : Nat} (hf : f ≤ t) (ht : t ≤ 4) :
    s4_0 v (Int32.ofNat f) (Int32.ofNat t) M ∧ (f = t → f4_0 v (Int32.ofNat f) (Int32.ofNat t) M = -1) ∧ (f < t → own_ok v M (f4_0 v (Int32.ofNat f) (Int32.ofNat t) M) 0 f (t - f)) := by
  have eq : Int32.ofNat f = Int32.ofNat t ↔ f = t := by rw [own_eq, own_nat_toInt (by omega), own_nat_toInt (by omega)]; omega
  have p : (0 : Int) < 10 ^ f := by
    have : f = 0 ∨ f = 1 ∨ f = 2 ∨ f = 3 ∨ f = 4 := by omega
    rcases this with rfl | rfl | rfl | rfl | rfl <;> decide
  have z : (0 : Int64).toInt = 0 := rfl
  obtain ⟨r1, r2⟩ := own_loop hb hl M hM t ht (t - f) f 64 0 (by omega) (by omega) (by decide) (by rw [z]; exact p) (by rw [z]; exact hM)
  refine ⟨⟨fun _ => trivial, fun _ => r1⟩, fun k => ?_, fun k => ?_⟩
  · rw [f4_0, if_pos (eq.mpr k)]
  · rw [f4_0, if_neg (fun q => by have := eq.mp q; omega)]
    exact r2
theorem own_f2 (v : List Int32) {i f t : Nat} (hi : i < 4) (hf : f ≤ 4) (ht : t ≤ 4) : f2_0 v (Int32.ofNat i) (Int32.ofNat f) (Int32.ofNat t) = 0 ↔ (f ≤ i ∧ i < t ∧ ¬ own_dg v i) := by
  unfold f2_0 own_dg
  rw [own_nat_get v (by omega)]
  simp only [own_nat_lt (show i < 2 ^ 31 by omega) (show f < 2 ^ 31 by omega), own_nat_lt (show i < 2 ^ 31 by omega) (show t < 2 ^ 31 by omega)]
  have o : ¬ (1 : Int32) = 0 := by decide
  by_cases c1 : i < f
  · rw [if_pos c1]; exact ⟨fun k => absurd k o, fun k => by omega⟩
  rw [if_neg c1]
  by_cases c2 : i < t
  · rw [if_pos c2]
    by_cases c3 : v.getD i 0 < 48
    · rw [if_pos c3]; exact ⟨fun _ => ⟨by omega, c2, fun k => k.1 c3⟩, fun _ => rfl⟩
    rw [if_neg c3]
    by_cases c4 : 57 < v.getD i 0
    · rw [if_pos c4]; exact ⟨fun _ => ⟨by omega, c2, fun k => k.2 c4⟩, fun _ => rfl⟩
    rw [if_neg c4]
    exact ⟨fun k => absurd k o, fun k => absurd ⟨c3, c4⟩ k.2.2⟩
  · rw [if_neg c2]; exact ⟨fun k => absurd k o, fun k => absurd k.2.1 c2⟩
theorem own_s2 {v : List Int32} (hl : v.length = 4) {i : Nat} (F T : Int32) (hi : i < 4) : s2_0 v (Int32.ofNat i) F T := by
  have ein : own_in v.length (Int32.ofNat i) := own_nat_in (by omega) (by omega)
  exact ⟨fun _ => trivial, fun _ => ⟨fun _ => ⟨ein, fun _ => trivial, fun _ => ⟨ein, trivial⟩⟩, fun _ => trivial⟩⟩
theorem own_s3 {v : List Int32} (hl : v.length = 4) {i : Nat} (q : Int64) (F T : Int32) (hi : i < 4) : s3_0 q v (Int32.ofNat i) F T := by
  have ein : own_in v.length (Int32.ofNat i) := own_nat_in (by omega) (by omega)
  exact ⟨fun _ => trivial, fun _ => ⟨fun _ => ⟨ein, trivial⟩, fun _ => trivial⟩⟩
theorem own_f3 (v : List Int32) (q : Int64) {i f t : Nat} (hi : i < 4) (hf : f ≤ 4) (ht : t ≤ 4) : f3_0 q v (Int32.ofNat i) (Int32.ofNat f) (Int32.ofNat t) = if f ≤ i ∧ i < t then q * 10 + (v.getD i 0 - 48).toInt64 else q := by
  unfold f3_0 f3_12
  rw [own_nat_get v (by omega)]
  simp only [own_nat_lt (show i < 2 ^ 31 by omega) (show f < 2 ^ 31 by omega), own_nat_lt (show i < 2 ^ 31 by omega) (show t < 2 ^ 31 by omega)]
  by_cases c1 : i < f
  · rw [if_pos c1, if_neg (by omega)]
  rw [if_neg c1]
  by_cases c2 : i < t
  · rw [if_pos c2, if_pos (by omega)]
  · rw [if_neg c2, if_neg (by omega)]
theorem own_tot (v : List Int32) {f t : Nat} (hf : f ≤ t) (ht : t ≤ 4) :
    f3_0 (f3_0 (f3_0 (f3_0 0 v (Int32.ofNat 0) (Int32.ofNat f) (Int32.ofNat t)) v (Int32.ofNat 1) (Int32.ofNat f) (Int32.ofNat t)) v (Int32.ofNat 2) (Int32.ofNat f) (Int32.ofNat t)) v (Int32.ofNat 3) (Int32.ofNat f) (Int32.ofNat t) = own_fold v 0 f (t - f) := by
  rw [own_f3 v _ (by omega) (by omega) ht, own_f3 v _ (by omega) (by omega) ht, own_f3 v _ (by omega) (by omega) ht, own_f3 v _ (by omega) (by omega) ht]
  have h1 : f = 0 ∨ f = 1 ∨ f = 2 ∨ f = 3 ∨ f = 4 := by omega
  have h2 : t = 0 ∨ t = 1 ∨ t = 2 ∨ t = 3 ∨ t = 4 := by omega
  rcases h1 with rfl | rfl | rfl | rfl | rfl <;> rcases h2 with rfl | rfl | rfl | rfl | rfl <;> first | rfl | omega
theorem own_mid {v : List Int32} (hb : own_bd v) (hl : v.length = 4) (p1 : Int32) (q2 : Int64) {f t : Nat} (hf : f ≤ t) (ht : t ≤ 4) :
    (¬ own_dig v f (t - f) → s0_125 p1 q2 v (Int32.ofNat f) (Int32.ofNat t) ∧ f0_125 p1 q2 v (Int32.ofNat f) (Int32.ofNat t) = 1) ∧
    (own_dig v f (t - f) → s0_126_8 p1 q2 v (Int32.ofNat f) (Int32.ofNat t) ∧ f0_126_8 p1 q2 v (Int32.ofNat f) (Int32.ofNat t) = 1) := by
  have lt : Int32.ofNat f < Int32.ofNat t ↔ f < t := own_nat_lt (by omega) (by omega)
  have A : ∀ (x M : Int64), 0 ≤ M.toInt → ¬ own_dig v f (t - f) → s0_260 v (Int32.ofNat f) (Int32.ofNat t) x M ∧ f0_260 v (Int32.ofNat f) (Int32.ofNat t) x M = 1 := by
    intro x M hM nd
    obtain ⟨r1, r2, r3⟩ := own_f4 hb hl M hM hf ht
    have e : f4_0 v (Int32.ofNat f) (Int32.ofNat t) M = -1 := by
      by_cases c : f = t
      · exact r2 c
      · exact (r3 (by omega)).1 nd
    refine ⟨⟨fun _ => ⟨r1, trivial⟩, fun _ => ⟨r1, trivial⟩⟩, ?_⟩
    rw [f0_260, f0_285, f0_288, if_pos e, ite_self]; rfl
  have B : ∀ (M : Int64), 0 ≤ M.toInt → own_dig v f (t - f) → s0_260_9 v (Int32.ofNat f) (Int32.ofNat t) (own_fold v 0 f (t - f)) M ∧ f0_260_9 v (Int32.ofNat f) (Int32.ofNat t) (own_fold v 0 f (t - f)) M = 1 := by
    intro M hM nd
    obtain ⟨r1, r2, r3⟩ := own_f4 hb hl M hM hf ht
    refine ⟨⟨fun _ => ⟨fun _ => ⟨r1, trivial⟩, fun _ => ⟨r1, trivial⟩⟩, fun _ => ⟨r1, trivial⟩⟩, ?_⟩
    rw [f0_260_9]
    by_cases c : f < t
    · rw [if_pos (lt.mpr c)]
      by_cases d : M < own_fold v 0 f (t - f)
      · rw [if_pos d, f0_285, f0_288, if_pos ((r3 c).2.1 nd d)]; rfl
      · rw [if_neg d, f0_288_10, if_pos ((r3 c).2.2 nd d)]; rfl
    · rw [if_neg (fun k => c (lt.mp k)), f0_285, f0_288, if_pos (r2 (by omega))]; rfl
  have M1 : 0 ≤ (q2 &&& (9223372036854775807 : Int64)).toInt := by
    rw [Jvm.Kit.i64_mask q2 9223372036854775807 (k := 63) (by decide) (by decide)]; exact Int.emod_nonneg _ (by decide)
  have M2 : 0 ≤ (q2 &&& (16383 : Int64)).toInt := by
    rw [Jvm.Kit.i64_mask q2 16383 (k := 14) (by decide) (by decide)]; exact Int.emod_nonneg _ (by decide)
  have M3 : ∀ y : Int64, 0 ≤ (f5_0 0 y).toInt := by
    intro y
    unfold f5_0 f5_11
    by_cases c : 0 < y
    · rw [if_pos c]
      rw [own_ltL, show (0 : Int64).toInt = 0 from rfl] at c
      omega
    · rw [if_neg c]; decide
  have M4 : 0 ≤ ((9223372036854775807 : Int64) - (q2 &&& (15 : Int64))).toInt := by
    have e := Jvm.Kit.i64_mask q2 15 (k := 4) (by decide) (by decide)
    have m : (9223372036854775807 : Int64).toInt = 9223372036854775807 := by decide
    have b1 := Int.emod_nonneg q2.toInt (b := 2 ^ 4) (by decide)
    have b2 := Int.emod_lt_of_pos q2.toInt (b := 2 ^ 4) (by decide)
    rw [← e] at b1 b2
    rw [Jvm.Kit.i64_sub (by rw [m]; omega) (by rw [m]; omega), m]
    omega
  have g0 := fun q => own_s3 (i := 0) hl q (Int32.ofNat f) (Int32.ofNat t) (by decide)
  have g1 := fun q => own_s3 (i := 1) hl q (Int32.ofNat f) (Int32.ofNat t) (by decide)
  have g2 := fun q => own_s3 (i := 2) hl q (Int32.ofNat f) (Int32.ofNat t) (by decide)
  have g3 := fun q => own_s3 (i := 3) hl q (Int32.ofNat f) (Int32.ofNat t) (by decide)
  have tot := own_tot v hf ht
  refine ⟨fun nd => ⟨⟨g0 _, g1 _, g2 _, g3 _, ?_⟩, ?_⟩, fun nd => ⟨⟨g0 _, g1 _, g2 _, g3 _, ?_⟩, ?_⟩⟩
  · exact ⟨fun _ => (A _ _ M1 nd).1, fun _ => ⟨fun _ => (A _ _ M2 nd).1, fun _ => ⟨fun _ => (A _ _ (M3 _) nd).1, fun _ => (A _ _ M4 nd).1⟩⟩⟩
  · rw [f0_125, f0_126, (A _ _ M1 nd).2, (A _ _ M2 nd).2, (A _ _ (M3 _) nd).2, (A _ _ M4 nd).2, ite_self, ite_self, ite_self]
  · rw [← tot] at B
    exact ⟨fun _ => (B _ M1 nd).1, fun _ => ⟨fun _ => (B _ M2 nd).1, fun _ => ⟨fun _ => (B _ (M3 _) nd).1, fun _ => (B _ M4 nd).1⟩⟩⟩
  · rw [← tot] at B
    have b1 := (B _ M1 nd).2
    have b2 := (B _ M2 nd).2
    have b3 := fun y => (B _ (M3 y) nd).2
    have b4 := (B _ M4 nd).2
    unfold f0_126_8
    by_cases c1 : own_ushr p1 6 &&& 3 = 0
    · rw [if_pos c1]; exact b1
    by_cases c2 : own_ushr p1 6 &&& 3 = 1
    · rw [if_neg c1, if_pos c2]; exact b2
    by_cases c3 : own_ushr p1 6 &&& 3 = 2
    · rw [if_neg c1, if_neg c2, if_pos c3]; exact b3 _
    rw [if_neg c1, if_neg c2, if_neg c3]; exact b4
theorem own_top {v : List Int32} (hb : own_bd v) (hl : v.length = 4) (p1 : Int32) (q2 : Int64) {f t : Nat} (hf : f ≤ t) (ht : t ≤ 4) :
    ∃ F T, F = Int32.ofNat f ∧ T = Int32.ofNat t ∧ 
    (((s2_0 v (0 : Int32) F T) ∧ (((f2_0 v (0 : Int32) F T) = (0 : Int32) → s0_125 p1 q2 v F T) ∧ (¬ ((f2_0 v (0 : Int32) F T) = (0 : Int32)) → ((s2_0 v (1 : Int32) F T) ∧ (((f2_0 v (1 : Int32) F T) = (0 : Int32) → s0_125 p1 q2 v F T) ∧ (¬ ((f2_0 v (1 : Int32) F T) = (0 : Int32)) → ((s2_0 v (2 : Int32) F T) ∧ (((f2_0 v (2 : Int32) F T) = (0 : Int32) → s0_125 p1 q2 v F T) ∧ (¬ ((f2_0 v (2 : Int32) F T) = (0 : Int32)) → ((s2_0 v (3 : Int32) F T) ∧ (((f2_0 v (3 : Int32) F T) = (0 : Int32) → s0_125 p1 q2 v F T) ∧ (¬ ((f2_0 v (3 : Int32) F T) = (0 : Int32)) → s0_126_8 p1 q2 v F T)))))))))))) ∧
    (if (f2_0 v (0 : Int32) F T) = (0 : Int32) then (f0_125 p1 q2 v F T) else (if (f2_0 v (1 : Int32) F T) = (0 : Int32) then (f0_125 p1 q2 v F T) else (if (f2_0 v (2 : Int32) F T) = (0 : Int32) then (f0_125 p1 q2 v F T) else (if (f2_0 v (3 : Int32) F T) = (0 : Int32) then (f0_125 p1 q2 v F T) else (f0_126_8 p1 q2 v F T))))) = 1) := by
  refine ⟨_, _, rfl, rfl, ?_⟩
  obtain ⟨A, B⟩ := own_mid hb hl p1 q2 hf ht
  have i0 := own_f2 v (i := 0) (f := f) (t := t) (by omega) (by omega) ht
  have i1 := own_f2 v (i := 1) (f := f) (t := t) (by omega) (by omega) ht
  have i2 := own_f2 v (i := 2) (f := f) (t := t) (by omega) (by omega) ht
  have i3 := own_f2 v (i := 3) (f := f) (t := t) (by omega) (by omega) ht
  rw [show Int32.ofNat 0 = (0 : Int32) from rfl] at i0
  rw [show Int32.ofNat 1 = (1 : Int32) from rfl] at i1
  rw [show Int32.ofNat 2 = (2 : Int32) from rfl] at i2
  rw [show Int32.ofNat 3 = (3 : Int32) from rfl] at i3
  have bad : ∀ i, (f ≤ i ∧ i < t ∧ ¬ own_dg v i) → ¬ own_dig v f (t - f) := fun i h k => h.2.2 (k i h.1 (by omega))
  have g0 := own_s2 (i := 0) hl (Int32.ofNat f) (Int32.ofNat t) (by decide)
  have g1 := own_s2 (i := 1) hl (Int32.ofNat f) (Int32.ofNat t) (by decide)
  have g2 := own_s2 (i := 2) hl (Int32.ofNat f) (Int32.ofNat t) (by decide)
  have g3 := own_s2 (i := 3) hl (Int32.ofNat f) (Int32.ofNat t) (by decide)
  by_cases c0 : f2_0 v (0 : Int32) (Int32.ofNat f) (Int32.ofNat t) = 0
  · have r := A (bad _ (i0.mp c0))
    rw [if_pos c0]
    exact ⟨⟨g0, fun _ => r.1, fun k => absurd c0 k⟩, r.2⟩
  by_cases c1 : f2_0 v (1 : Int32) (Int32.ofNat f) (Int32.ofNat t) = 0
  · have r := A (bad _ (i1.mp c1))
    rw [if_neg c0, if_pos c1]
    exact ⟨⟨g0, fun _ => r.1, fun _ => ⟨g1, fun _ => r.1, fun k => absurd c1 k⟩⟩, r.2⟩
  by_cases c2 : f2_0 v (2 : Int32) (Int32.ofNat f) (Int32.ofNat t) = 0
  · have r := A (bad _ (i2.mp c2))
    rw [if_neg c0, if_neg c1, if_pos c2]
    exact ⟨⟨g0, fun _ => r.1, fun _ => ⟨g1, fun _ => r.1, fun _ => ⟨g2, fun _ => r.1, fun k => absurd c2 k⟩⟩⟩, r.2⟩
  by_cases c3 : f2_0 v (3 : Int32) (Int32.ofNat f) (Int32.ofNat t) = 0
  · have r := A (bad _ (i3.mp c3))
    rw [if_neg c0, if_neg c1, if_neg c2, if_pos c3]
    exact ⟨⟨g0, fun _ => r.1, fun _ => ⟨g1, fun _ => r.1, fun _ => ⟨g2, fun _ => r.1, fun _ => ⟨g3, fun _ => r.1, fun k => absurd c3 k⟩⟩⟩⟩, r.2⟩
  have all : own_dig v f (t - f) := by
    intro j h1 h2
    apply Classical.byContradiction
    intro k
    have : j = 0 ∨ j = 1 ∨ j = 2 ∨ j = 3 := by omega
    rcases this with rfl | rfl | rfl | rfl
    · exact c0 (i0.mpr ⟨h1, by omega, k⟩)
    · exact c1 (i1.mpr ⟨h1, by omega, k⟩)
    · exact c2 (i2.mpr ⟨h1, by omega, k⟩)
    · exact c3 (i3.mpr ⟨h1, by omega, k⟩)
  have r := B all
  rw [if_neg c0, if_neg c1, if_neg c2, if_neg c3]
  exact ⟨⟨g0, fun k => absurd k c0, fun _ => ⟨g1, fun k => absurd k c1, fun _ => ⟨g2, fun k => absurd k c2, fun _ => ⟨g3, fun k => absurd k c3, fun _ => r.1⟩⟩⟩⟩, r.2⟩
theorem own_i2b_bd (x : Int32) : -128 ≤ (own_i2b x).toInt ∧ (own_i2b x).toInt ≤ 127 := by
  have a := x.toInt8.toInt_lt; have b := x.toInt8.le_toInt
  have e : (own_i2b x).toInt = x.toInt8.toInt := Int8.toInt_toInt32 x.toInt8
  rw [e]; omega
theorem own_both (p0 p1 : Int32) (q2 : Int64) : s0_0 p0 p1 q2 ∧ f0_0 p0 p1 q2 = 1 := by
  unfold s0_0 f0_0
  have hb : own_bd [(own_i2b (f1_0 p0 p1 (0 : Int32))), (own_i2b (f1_0 p0 p1 (1 : Int32))), (own_i2b (f1_0 p0 p1 (2 : Int32))), (own_i2b (f1_0 p0 p1 (3 : Int32)))] := by
    intro j
    match j with
    | 0 => exact own_i2b_bd _
    | 1 => exact own_i2b_bd _
    | 2 => exact own_i2b_bd _
    | 3 => exact own_i2b_bd _
    | n + 4 =>
      show -128 ≤ (0 : Int32).toInt ∧ (0 : Int32).toInt ≤ 127
      exact ⟨by decide, by decide⟩
  have hl : [(own_i2b (f1_0 p0 p1 (0 : Int32))), (own_i2b (f1_0 p0 p1 (1 : Int32))), (own_i2b (f1_0 p0 p1 (2 : Int32))), (own_i2b (f1_0 p0 p1 (3 : Int32)))].length = 4 := rfl
  generalize [(own_i2b (f1_0 p0 p1 (0 : Int32))), (own_i2b (f1_0 p0 p1 (1 : Int32))), (own_i2b (f1_0 p0 p1 (2 : Int32))), (own_i2b (f1_0 p0 p1 (3 : Int32)))] = v at *
  have e5 : (5 : Int32).toInt = 5 := rfl
  have a1 := Jvm.Kit.i32_mask p1 7 (k := 3) (by decide) (by decide)
  have hF : (own_rem (p1 &&& 7) 5).toInt = (p1.toInt % 2 ^ 3) % 5 := by rw [own_emod (by rw [a1]; omega), a1, e5]
  have a2 := Jvm.Kit.i32_mask (own_ushr p1 3) 7 (k := 3) (by decide) (by decide)
  have hF0 : 0 ≤ (own_rem (p1 &&& 7) 5).toInt := by omega
  have hF1 : (own_rem (p1 &&& 7) 5).toInt ≤ 4 := by omega
  generalize own_rem (p1 &&& 7) 5 = F at *
  have hS : ((5 : Int32) - F).toInt = 5 - F.toInt := by rw [Jvm.Kit.i32_sub (by rw [e5]; omega) (by rw [e5]; omega), e5]
  have hR : (own_rem (own_ushr p1 3 &&& 7) (5 - F)).toInt = ((own_ushr p1 3).toInt % 2 ^ 3) % (5 - F.toInt) := by rw [own_emod (by rw [a2]; omega), a2, hS]
  have b1 := Int.emod_nonneg ((own_ushr p1 3).toInt % 2 ^ 3) (b := 5 - F.toInt) (by omega)
  have b2 := Int.emod_lt_of_pos ((own_ushr p1 3).toInt % 2 ^ 3) (b := 5 - F.toInt) (by omega)
  rw [← hR] at b1 b2
  have hT : (F + own_rem (own_ushr p1 3 &&& 7) (5 - F)).toInt = F.toInt + (own_rem (own_ushr p1 3 &&& 7) (5 - F)).toInt := Jvm.Kit.i32_add (by omega) (by omega)
  have hT0 : F.toInt ≤ (F + own_rem (own_ushr p1 3 &&& 7) (5 - F)).toInt := by omega
  have hT1 : (F + own_rem (own_ushr p1 3 &&& 7) (5 - F)).toInt ≤ 4 := by omega
  generalize F + own_rem (own_ushr p1 3 &&& 7) (5 - F) = T at *
  obtain ⟨f, rfl, f1, _⟩ := own_nat_of hF0
  obtain ⟨t, rfl, t1, _⟩ := own_nat_of (x := T) (by omega)
  obtain ⟨_, _, rfl, rfl, r⟩ := own_top hb hl p1 q2 (f := f) (t := t) (by omega) (by omega)
  refine ⟨⟨fun k => ?_, r.1⟩, r.2⟩
  have k' := own_eq.mp k
  rw [hS, show (0 : Int32).toInt = 0 from rfl] at k'
  omega
theorem own_law (p0 p1 : Int32) (q2 : Int64) : f0_0 p0 p1 q2 = 1 := (own_both p0 p1 q2).2
theorem own_safe (p0 p1 : Int32) (q2 : Int64) : s0_0 p0 p1 q2 := (own_both p0 p1 q2).1

set_option maxRecDepth 65536 in
set_option maxHeartbeats 40000000 in
theorem comes_1 {Post : Tables → Env → Array Value → State → Outcome → State → Prop} (hpost : ∀ tb e args s v u, (limb_1_1.after args s (.returned v) u = true ∧ limb_1_2.after args s (.returned v) u = true) → FrameEnd s (.returned v) u (Jvm.fieldLocs frame_1_writes args s ++ Jvm.arrayLocs frame_1_arrays args s ++ Jvm.staticLocs frame_1_statics s) 16 128 → Post tb e args s (.returned v) u) :
    ArmFor flags0 classFile x code maxLocals ret World_1 tables_1 room_1 Calls_1 rest_1 Pre_1 Post := by
  intro l hfl _ _ p e ha hc hk s m args below hf hA hF happ hP
  obtain ⟨hcalls, hrest, hpre⟩ := hP
  obtain ⟨-, -, -, hnamed, -, -, -, hat⟩ := (Spec.applies_iff hf).mp happ
  obtain ⟨hg, hn⟩ := and_e (Cond.before_iff.mp (show (Jvm.Cond.and given_1 narrow_1).before args s = true from hpre))
  obtain ⟨g1a, g1b⟩ := and_e hg
  obtain ⟨g2a, g2b⟩ := and_e g1b
  obtain ⟨g3a, g3b⟩ := and_e g2b
  obtain ⟨w0, w1, w2, rfl⟩ : ∃ w0 w1 w2 : Value, args = #[w0, w1, w2] := by
    have hs : args.size = 3 := by simpa [Cond.value, given_1] using g1a
    obtain ⟨L⟩ := args
    match L, hs with
    | [w0, w1, w2], _ => exact ⟨w0, w1, w2, rfl⟩
  have hw := fun d (hd : d ∈ tables_1) => atoms_spec (ws := Jvm.Cond.code x code maxLocals ret :: tables_1) hat d (List.mem_cons_of_mem _ hd)
  obtain ⟨i0, ei0⟩ := is_v g2a
  obtain rfl : w0 = (.int i0) := Option.some.inj ei0
  obtain ⟨i1, ei1⟩ := is_v g3a
  obtain rfl : w1 = (.int i1) := Option.some.inj ei1
  obtain ⟨i2, ei2⟩ := isL_v g3b
  obtain rfl : w2 = (.long i2) := Option.some.inj ei2
  obtain ⟨n, o, h1, h2, h3, v, L, rfl, ⟨rfl, rfl⟩, hq⟩ := rm0 l s _ hw tables_1 i0 i1 i2 s.heap (own_safe i0 i1 i2) p e ha hc hk s m _ below hf ((Spec.applies_iff_loose hf).mp happ).1 ⟨rfl, State.Warmed39.refl s, rfl⟩ trivial
  have hv1 := own_law i0 i1 i2
  refine ⟨n, _, h1, h2, h3, hpost _ _ _ _ _ _ ⟨Cond.after_iff.mpr rfl, Cond.after_iff.mpr (eq_i res_at (Term.int_eval (1)) (by rw [hv1]) rfl)⟩ ⟨hq.1, hq.2.1, (hq.2.2.sift fun y hy => nomatch hy).mono (by decide) (by decide)⟩⟩
theorem main_1_1 : Claimed_1_1 := comes_1 fun _ _ _ _ _ _ h hF => ⟨h.1, hF⟩
theorem main_1_2 : Claimed_1_2 := comes_1 fun _ _ _ _ _ _ h hF => ⟨h.2, hF⟩
end Jvm.Pilot.@@N@@
namespace Jvm.Pilot.@@N@@
open Jvm Jvm.ClassFile Sem Op Lib Jvm.Free Jvm.Stand Jvm.Pilot.@@N@@.Jvm.D
/-! MADE BY PROGRAM (witnessworld.py) out of the Statement's table words and the real class files: 10 classes; the members and pool entries that the words name. The judged class is class 1, her method 1. -/
namespace start1
open Jvm.ClassFile
def u (s : String) : CpInfo := .utf8 (stringToUtf16 s)
/-- a pool by its gaps: so many unusable entries, then the entry; so many at the end -/
def gap : Nat → List CpInfo → List CpInfo
  | 0, r => r
  | n + 1, r => .unusable :: gap n r
def poolList (es : List (Nat × CpInfo)) (last : Nat) : List CpInfo := es.foldr (fun e r => gap e.1 (e.2 :: r)) (gap last [])
def pool (es : List (Nat × CpInfo)) (last : Nat) : Array CpInfo := ⟨poolList es last⟩
def fileOf (pool : Array CpInfo) (this : Nat) (attrs : Array Attribute := #[]) (ms : Array MethodInfo := #[]) (fl : Nat := 33) (sup : Nat := 0) (ifs : Array Nat := #[]) (fds : Array FieldInfo := #[]) : ClassFile where
  minorVersion := 0
  majorVersion := 65
  constantPool := pool
  accessFlags := fl
  thisClass := this
  superClass := sup
  interfaces := ifs
  fields := fds
  methods := ms
  attributes := attrs
def plain (name : String) (sup : Option ClassId) : Class where
  name := name
  kind := .ordinary
  loader := none
  accessFlags := 33
  super := sup
  interfaces := #[]
  cf := none
  fields := #[]
  methods := #[]
  instanceTypes := #[]
  staticTypes := #[]
  resolved := #[]
  callSites := []
  init := .initialized
  statics := none
  mirror := none

def pool0 : Array CpInfo := pool [(5, u "<init>"), (0, u "()V"), (1, .class_ 10), (1, u "java/lang/Object")] 113

def k0m0 : Method := { name := "<init>", desc := "()V", sig := { parameters := [], returnType := none }, accessFlags := 1, code := none }
/-- java/lang/Object -/
def k0 : Class := { plain "java/lang/Object" none with
  accessFlags := 33
  interfaces := #[]
  cf := some (fileOf pool0 8 #[] #[{ accessFlags := 1, nameIndex := 5, descriptorIndex := 6, attributes := #[] }] 33 0 #[] #[])
  fields := #[]
  methods := #[k0m0]
  instanceTypes := #[]
  staticTypes := #[]
  resolved := Array.replicate 124 none
  statics := none }

def pool1 : Array CpInfo := pool [(2, .class_ 4), (1, u "java/lang/Object"), (0, u "<init>"), (0, u "()V"), (0, .methodref 8 9), (0, .class_ 10), (0, .nameAndType 11 12), (0, u "com/example/ledgerline/ledgerline/cli/OptionsDecimalValuePinLaw"), (0, u "pick"), (0, u "(III)B"), (0, .methodref 8 14), (0, .nameAndType 15 16), (0, u "digitIn"), (0, u "([BIII)Z"), (0, .methodref 8 18), (0, .nameAndType 19 20), (0, u "step"), (0, u "(J[BIII)J"), (2, .long 9223372036854775807), (1, .long 16383), (1, .long 3), (1, .methodref 30 31), (0, .class_ 32), (0, .nameAndType 33 34), (0, u "java/lang/Math"), (0, u "max"), (0, u "(JJ)J"), (0, .long 15), (1, .long 18446744073709551615), (1, .methodref 40 41), (0, .class_ 42), (0, .nameAndType 43 44), (0, u "com/example/ledgerline/ledgerline/cli/Options"), (0, u "decimalValue"), (0, u "([BIIJ)J"), (0, .long 10), (3, u "law"), (0, u "(IIJ)Z")] 5

def k1m0 : Method := { name := "<init>", desc := "()V", sig := { parameters := [], returnType := none }, accessFlags := 1, code := none }
def k1c1 : Code := { maxStack := 8, maxLocals := 15, code := code, exceptionTable := #[], attributes := #[] }
def k1m1 : Method := { name := "law", desc := "(IIJ)Z", sig := { parameters := [.int, .int, .long], returnType := some .boolean }, accessFlags := 9, code := some k1c1 }
def k1c2 : Code := { maxStack := 3, maxLocals := 4, code := method_3_code, exceptionTable := #[], attributes := #[] }
def k1m2 : Method := { name := "pick", desc := "(III)B", sig := { parameters := [.int, .int, .int], returnType := some .byte }, accessFlags := 10, code := some k1c2 }
def k1c3 : Code := { maxStack := 2, maxLocals := 4, code := method_4_code, exceptionTable := #[], attributes := #[] }
def k1m3 : Method := { name := "digitIn", desc := "([BIII)Z", sig := { parameters := [(.array .byte), .int, .int, .int], returnType := some .boolean }, accessFlags := 10, code := some k1c3 }
def k1c4 : Code := { maxStack := 4, maxLocals := 6, code := method_5_code, exceptionTable := #[], attributes := #[] }
def k1m4 : Method := { name := "step", desc := "(J[BIII)J", sig := { parameters := [.long, (.array .byte), .int, .int, .int], returnType := some .long }, accessFlags := 10, code := some k1c4 }
/-- com/example/ledgerline/ledgerline/cli/OptionsDecimalValuePinLaw -/
def k1 : Class := { plain "com/example/ledgerline/ledgerline/cli/OptionsDecimalValuePinLaw" (some 0) with
  accessFlags := 49
  interfaces := #[]
  cf := some (fileOf pool1 8 #[] #[{ accessFlags := 1, nameIndex := 5, descriptorIndex := 6, attributes := #[] }, { accessFlags := 9, nameIndex := 49, descriptorIndex := 50, attributes := #[] }, { accessFlags := 10, nameIndex := 11, descriptorIndex := 12, attributes := #[] }, { accessFlags := 10, nameIndex := 15, descriptorIndex := 16, attributes := #[] }, { accessFlags := 10, nameIndex := 19, descriptorIndex := 20, attributes := #[] }] 49 2 #[] #[])
  fields := #[]
  methods := #[k1m0, k1m1, k1m2, k1m3, k1m4]
  instanceTypes := #[]
  staticTypes := #[]
  resolved := Array.replicate 56 none
  statics := none }

def pool2 : Array CpInfo := pool [(2, .class_ 4), (1, u "java/lang/Object"), (3, .class_ 10), (1, u "com/example/ledgerline/ledgerline/cli/Options"), (0, u "command"), (0, u "Ljava/lang/String;"), (2, u "values"), (0, u "Ljava/util/Map;"), (2, u "operand"), (326, u "decimalValue"), (0, u "([BIIJ)J"), (0, .long 18446744073709551615), (1, .long 10), (1, u "NONE")] 69

def k2c0 : Code := { maxStack := 4, maxLocals := 13, code := prog_148_method_26_code, exceptionTable := #[], attributes := #[] }
def k2m0 : Method := { name := "decimalValue", desc := "([BIIJ)J", sig := { parameters := [(.array .byte), .int, .int, .long], returnType := some .long }, accessFlags := 8, code := some k2c0 }
/-- com/example/ledgerline/ledgerline/cli/Options -/
def k2 : Class := { plain "com/example/ledgerline/ledgerline/cli/Options" (some 0) with
  accessFlags := 48
  interfaces := #[]
  cf := some (fileOf pool2 8 #[] #[{ accessFlags := 8, nameIndex := 346, descriptorIndex := 347, attributes := #[] }] 48 2 #[] #[{ accessFlags := 24, nameIndex := 352, descriptorIndex := 12, attributes := #[] }, { accessFlags := 18, nameIndex := 11, descriptorIndex := 12, attributes := #[] }, { accessFlags := 18, nameIndex := 15, descriptorIndex := 16, attributes := #[] }, { accessFlags := 18, nameIndex := 19, descriptorIndex := 12, attributes := #[] }])
  fields := #[{ name := "NONE", type := (.object "java/lang/String"), accessFlags := 24, slot := 0, constantValue := 0 }, { name := "command", type := (.object "java/lang/String"), accessFlags := 18, slot := 0, constantValue := 0 }, { name := "values", type := (.object "java/util/Map"), accessFlags := 18, slot := 1, constantValue := 0 }, { name := "operand", type := (.object "java/lang/String"), accessFlags := 18, slot := 2, constantValue := 0 }]
  methods := #[k2m0]
  instanceTypes := #[(.object "java/lang/String"), (.object "java/util/Map"), (.object "java/lang/String")]
  staticTypes := #[(.object "java/lang/String")]
  resolved := Array.replicate 422 none
  statics := none }

def pool3 : Array CpInfo := pool [(1, .class_ 2), (0, u "java/lang/Math"), (1, .class_ 6), (1, u "java/lang/Object"), (0, u "<init>"), (0, u "()V"), (89, .class_ 100), (1, u "java/lang/Math$RandomNumberGeneratorHolder"), (20, u "(JJ)J"), (50, u "negativeZeroFloatBits"), (0, u "J"), (2, u "negativeZeroDoubleBits"), (21, u "max"), (46, u "$assertionsDisabled"), (0, u "Z"), (91, u "twoToTheDoubleScaleDown"), (0, u "D"), (4, u "twoToTheDoubleScaleUp"), (9, u "E"), (3, u "PI"), (2, u "TAU"), (2, u "DEGREES_TO_RADIANS"), (0, u "RADIANS_TO_DEGREES")] 94

def k3m0 : Method := { name := "<init>", desc := "()V", sig := { parameters := [], returnType := none }, accessFlags := 2, code := none }
def k3c1 : Code := { maxStack := 4, maxLocals := 4, code := jdk_29_method_66_code, exceptionTable := #[], attributes := #[] }
def k3m1 : Method := { name := "max", desc := "(JJ)J", sig := { parameters := [.long, .long], returnType := some .long }, accessFlags := 9, code := some k3c1 }
/-- java/lang/Math -/
def k3 : Class := { plain "java/lang/Math" (some 0) with
  accessFlags := 49
  interfaces := #[]
  cf := some (fileOf pool3 1 #[.nestMembers #[98]] #[{ accessFlags := 2, nameIndex := 7, descriptorIndex := 8, attributes := #[] }, { accessFlags := 9, nameIndex := 198, descriptorIndex := 121, attributes := #[] }] 49 4 #[] #[{ accessFlags := 25, nameIndex := 354, descriptorIndex := 339, attributes := #[] }, { accessFlags := 25, nameIndex := 358, descriptorIndex := 339, attributes := #[] }, { accessFlags := 25, nameIndex := 361, descriptorIndex := 339, attributes := #[] }, { accessFlags := 26, nameIndex := 364, descriptorIndex := 339, attributes := #[] }, { accessFlags := 26, nameIndex := 365, descriptorIndex := 339, attributes := #[] }, { accessFlags := 26, nameIndex := 172, descriptorIndex := 173, attributes := #[] }, { accessFlags := 26, nameIndex := 176, descriptorIndex := 173, attributes := #[] }, { accessFlags := 8, nameIndex := 344, descriptorIndex := 339, attributes := #[] }, { accessFlags := 8, nameIndex := 338, descriptorIndex := 339, attributes := #[] }, { accessFlags := 4120, nameIndex := 245, descriptorIndex := 246, attributes := #[] }])
  fields := #[{ name := "E", type := .double, accessFlags := 25, slot := 0, constantValue := 0 }, { name := "PI", type := .double, accessFlags := 25, slot := 1, constantValue := 0 }, { name := "TAU", type := .double, accessFlags := 25, slot := 2, constantValue := 0 }, { name := "DEGREES_TO_RADIANS", type := .double, accessFlags := 26, slot := 3, constantValue := 0 }, { name := "RADIANS_TO_DEGREES", type := .double, accessFlags := 26, slot := 4, constantValue := 0 }, { name := "negativeZeroFloatBits", type := .long, accessFlags := 26, slot := 5, constantValue := 0 }, { name := "negativeZeroDoubleBits", type := .long, accessFlags := 26, slot := 6, constantValue := 0 }, { name := "twoToTheDoubleScaleUp", type := .double, accessFlags := 8, slot := 7, constantValue := 0 }, { name := "twoToTheDoubleScaleDown", type := .double, accessFlags := 8, slot := 8, constantValue := 0 }, { name := "$assertionsDisabled", type := .boolean, accessFlags := 4120, slot := 9, constantValue := 0 }]
  methods := #[k3m0, k3m1]
  instanceTypes := #[]
  staticTypes := #[.double, .double, .double, .double, .double, .long, .long, .double, .double, .boolean]
  resolved := Array.replicate 460 none
  statics := none }

def pool4 : Array CpInfo := pool [(1, u "java/lang/Cloneable"), (0, .class_ 1), (0, u "java/lang/Object"), (0, .class_ 3)] 3

/-- java/lang/Cloneable -/
def k4 : Class := { plain "java/lang/Cloneable" (some 0) with
  accessFlags := 1537
  interfaces := #[]
  cf := some (fileOf pool4 2 #[] #[] 1537 4 #[] #[])
  fields := #[]
  methods := #[]
  instanceTypes := #[]
  staticTypes := #[]
  resolved := Array.replicate 8 none
  statics := none }

def pool5 : Array CpInfo := pool [(1, u "java/io/Serializable"), (0, .class_ 1), (0, u "java/lang/Object"), (0, .class_ 3)] 3

/-- java/io/Serializable -/
def k5 : Class := { plain "java/io/Serializable" (some 0) with
  accessFlags := 1537
  interfaces := #[]
  cf := some (fileOf pool5 2 #[] #[] 1537 4 #[] #[])
  fields := #[]
  methods := #[]
  instanceTypes := #[]
  staticTypes := #[]
  resolved := Array.replicate 8 none
  statics := none }

/-- the primitive byte -/
def k6 : Class := { plain "byte" none with kind := .primitive 'B', accessFlags := 0x411 }
/-- [B -/
def k7 : Class := { plain "[B" (some 0) with kind := .array 6 .byte, interfaces := #[4, 5], accessFlags := 1041 }

/-- the primitive int -/
def k8 : Class := { plain "int" none with kind := .primitive 'I', accessFlags := 0x411 }
/-- [I -/
def k9 : Class := { plain "[I" (some 0) with kind := .array 8 .int, interfaces := #[4, 5], accessFlags := 1041 }

def heap : Heap := #[]
def classes : Array Class := #[k0, k1, k2, k3, k4, k5, k6, k7, k8, k9]
def interned : List (Array UInt16 × Addr) := []
def slotsUsed : Nat := 0
def theMethod : MethodId := ⟨1, 1⟩
def args0 : Array Value := #[.int 5, .int 5, .long 5]
def aboutOver (below : List Frame) : State where
  vm := { classes := classes, interned := interned.toArray }
  heap := heap
  slotsUsed := slotsUsed
  threads := #[{ frames := .invoking theMethod args0 :: below }]
def below0 : List Frame := [.native { method := ⟨0, 0⟩, args := #[] }]
def about1 : State := aboutOver below0
def p0 : Program := .bare "" "" ""
def e0 : Env := launch0.env 0 0 0
theorem w_frames : about1.frames = Frame.invoking theMethod args0 :: below0 := rfl
set_option maxRecDepth 65536 in
theorem w_args : argsFit about1.vm theMethod args0 = true := by decide +kernel
set_option maxRecDepth 65536 in
theorem w_heap : heapFits about1 = true := by decide +kernel
set_option maxRecDepth 65536 in
theorem w_runnable : about1.curStatus? = some .runnable := by decide +kernel
set_option maxRecDepth 65536 in
theorem w_alone : about1.alone = true := by decide +kernel
set_option maxRecDepth 65536 in
theorem w_named : about1.methodNamed? x = some theMethod := by decide +kernel
set_option maxRecDepth 65536 in
theorem w_hears : about1.hears theMethod below0 = true := by decide +kernel
set_option maxRecDepth 65536 in
theorem w_ripe : about1.ripe theMethod args0 below0 = true := by decide +kernel
theorem w_running : about1.status = .running := rfl
set_option maxRecDepth 65536 in
theorem w_room : about1.hasRoom e0.platform room_1 = true :=
  launch0.hasRoom_least _ room_1 (by decide +kernel) (by decide +kernel) (by decide +kernel) (by decide +kernel) (by decide +kernel) (by decide +kernel)
theorem allAtoms_all (ts : List Jvm.Cond) (a : Array Jvm.Value) (st : Jvm.State) : (allAtoms ts).before a st = ts.all (fun c => c.before a st) := by
  induction ts with
  | nil => rfl
  | cons c t ih =>
    show (Jvm.Cond.and c (allAtoms t)).before a st = _
    rw [Jvm.Cond.before_and, ih, List.all_cons]
def words1 : List Jvm.Cond := Jvm.Cond.code x code maxLocals ret :: tables_1
/-- a 'code' word, met by the world's own term for the bytes: nothing is compared byte by byte -/
theorem code_word {y : MethodName} {bytes : ByteArray} {mx : Nat} {rt : Option FieldType} {a : Array Value} {s : State} {m : MethodId} {meth : Method} {c : Code} (h1 : s.methodNamed? y = some m) (h2 : s.vm.method? m = some meth) (h3 : meth.code = some c) (h4 : c.code = bytes)
    (h5 : (c.maxLocals == mx && c.exceptionTable.isEmpty && decide (c.maxStack ≤ mostOperands) && decide (meth.sig.returnType = rt) && !meth.locks && decide (parseMethodDescriptor y.desc = some meth.sig)) = true) : (Jvm.Cond.code y bytes mx rt).before a s = true := by
  simp only [Bool.and_eq_true, beq_iff_eq, Bool.not_eq_true', decide_eq_true_eq] at h5
  obtain ⟨⟨⟨⟨⟨g1, g2⟩, g3⟩, g4⟩, g5⟩, g6⟩ := h5
  simp [Cond.before, Cond.holds, Cond.value, h1, h2, h3, h4, g1, g2, g3, g4, g5, g6]
def isCode : Jvm.Cond → Bool
  | .code _ _ _ _ => true
  | _ => false
theorem all_split {L : List Jvm.Cond} {P : Jvm.Cond → Bool} (h1 : L.all (fun c => isCode c || P c) = true) (h2 : ∀ c ∈ L.filter isCode, P c = true) : L.all P = true := by
  refine List.all_eq_true.mpr fun c hc => ?_
  have h := List.all_eq_true.mp h1 c hc
  rcases Bool.eq_false_or_eq_true (isCode c) with hi | hi
  · exact h2 c (List.mem_filter.mpr ⟨hc, hi⟩)
  · simpa [hi] using h
set_option maxRecDepth 65536 in
theorem w_c0 : (Jvm.Cond.code x code maxLocals ret).before args0 about1 = true := code_word (m := ⟨1, 1⟩) (meth := k1m1) (c := k1c1) (by decide +kernel) rfl rfl rfl (by decide +kernel)
set_option maxRecDepth 65536 in
theorem w_c1 : (Jvm.Cond.code ({ cls := "com/example/ledgerline/ledgerline/cli/OptionsDecimalValuePinLaw", name := "pick", desc := "(III)B" } : Jvm.MethodName) method_3_code (4 : Nat) (Option.some Jvm.ClassFile.FieldType.byte)).before args0 about1 = true := code_word (m := ⟨1, 2⟩) (meth := k1m2) (c := k1c2) (by decide +kernel) rfl rfl rfl (by decide +kernel)
set_option maxRecDepth 65536 in
theorem w_c2 : (Jvm.Cond.code ({ cls := "com/example/ledgerline/ledgerline/cli/OptionsDecimalValuePinLaw", name := "digitIn", desc := "([BIII)Z" } : Jvm.MethodName) method_4_code (4 : Nat) (Option.some Jvm.ClassFile.FieldType.boolean)).before args0 about1 = true := code_word (m := ⟨1, 3⟩) (meth := k1m3) (c := k1c3) (by decide +kernel) rfl rfl rfl (by decide +kernel)
set_option maxRecDepth 65536 in
theorem w_c3 : (Jvm.Cond.code ({ cls := "com/example/ledgerline/ledgerline/cli/OptionsDecimalValuePinLaw", name := "step", desc := "(J[BIII)J" } : Jvm.MethodName) method_5_code (6 : Nat) (Option.some Jvm.ClassFile.FieldType.long)).before args0 about1 = true := code_word (m := ⟨1, 4⟩) (meth := k1m4) (c := k1c4) (by decide +kernel) rfl rfl rfl (by decide +kernel)
set_option maxRecDepth 65536 in
theorem w_c4 : (Jvm.Cond.code ({ cls := "com/example/ledgerline/ledgerline/cli/Options", name := "decimalValue", desc := "([BIIJ)J" } : Jvm.MethodName) prog_148_method_26_code (13 : Nat) (Option.some Jvm.ClassFile.FieldType.long)).before args0 about1 = true := code_word (m := ⟨2, 0⟩) (meth := k2m0) (c := k2c0) (by decide +kernel) rfl rfl rfl (by decide +kernel)
set_option maxRecDepth 65536 in
theorem w_c5 : (Jvm.Cond.code ({ cls := "java/lang/Math", name := "max", desc := "(JJ)J" } : Jvm.MethodName) jdk_29_method_66_code (4 : Nat) (Option.some Jvm.ClassFile.FieldType.long)).before args0 about1 = true := code_word (m := ⟨3, 1⟩) (meth := k3m1) (c := k3c1) (by decide +kernel) rfl rfl rfl (by decide +kernel)
def codes1 : List Jvm.Cond := [Jvm.Cond.code x code maxLocals ret, Jvm.Cond.code ({ cls := "com/example/ledgerline/ledgerline/cli/OptionsDecimalValuePinLaw", name := "pick", desc := "(III)B" } : Jvm.MethodName) method_3_code (4 : Nat) (Option.some Jvm.ClassFile.FieldType.byte), Jvm.Cond.code ({ cls := "com/example/ledgerline/ledgerline/cli/OptionsDecimalValuePinLaw", name := "digitIn", desc := "([BIII)Z" } : Jvm.MethodName) method_4_code (4 : Nat) (Option.some Jvm.ClassFile.FieldType.boolean), Jvm.Cond.code ({ cls := "com/example/ledgerline/ledgerline/cli/OptionsDecimalValuePinLaw", name := "step", desc := "(J[BIII)J" } : Jvm.MethodName) method_5_code (6 : Nat) (Option.some Jvm.ClassFile.FieldType.long), Jvm.Cond.code ({ cls := "com/example/ledgerline/ledgerline/cli/Options", name := "decimalValue", desc := "([BIIJ)J" } : Jvm.MethodName) prog_148_method_26_code (13 : Nat) (Option.some Jvm.ClassFile.FieldType.long), Jvm.Cond.code ({ cls := "java/lang/Math", name := "max", desc := "(JJ)J" } : Jvm.MethodName) jdk_29_method_66_code (4 : Nat) (Option.some Jvm.ClassFile.FieldType.long)]
set_option maxRecDepth 65536 in
theorem codes_eq : words1.filter isCode = codes1 := rfl
theorem w_codes : ∀ c ∈ words1.filter isCode, c.before args0 about1 = true := by
  rw [codes_eq]
  intro c hc
  simp only [codes1, List.mem_cons, List.not_mem_nil, or_false] at hc
  rcases hc with rfl | rfl | rfl | rfl | rfl | rfl
  · exact w_c0
  · exact w_c1
  · exact w_c2
  · exact w_c3
  · exact w_c4
  · exact w_c5
set_option maxRecDepth 65536 in
theorem w_t1 : (words1.take 24).all (fun c => isCode c || c.before args0 about1) = true := by decide +kernel
set_option maxRecDepth 65536 in
theorem w_t2 : (words1.drop 24).all (fun c => isCode c || c.before args0 about1) = true := by decide +kernel
theorem w_tables : (allAtoms (Jvm.Cond.code x code maxLocals ret :: tables_1)).before args0 about1 = true := by
  rw [allAtoms_all]
  show words1.all (fun c => c.before args0 about1) = true
  refine all_split ?_ w_codes
  rw [← List.take_append_drop 24 words1, List.all_append, w_t1, w_t2]
  rfl
set_option maxRecDepth 65536 in
theorem w_case : (Jvm.Cond.and given_1 narrow_1).before args0 about1 = true := by decide +kernel
theorem w_applies : (headSpec (Jvm.Cond.code x code maxLocals ret :: tables_1) room_1).applies x e0.platform about1 = true :=
  (Spec.applies_iff w_frames).mpr ⟨w_running, w_runnable, w_alone, w_named, w_hears, w_ripe, w_room, w_tables⟩
theorem atStart : AtStart classFile x code maxLocals ret World_1 tables_1 room_1 Calls_1 rest_1 Pre_1 launch0 p0 e0 about1 theMethod args0 below0 :=
  ⟨lists_1, trivial, launch0.admits_env _ _ _, launch0.least_env, fairChoices_fair.cas, fairChoices_fair.clock, w_frames, w_args, w_heap, w_applies, trivial, trivial, w_case⟩
end start1
theorem witness_1 : WitnessClaimed_1 := ⟨start1.p0, start1.e0, start1.about1, start1.theMethod, start1.args0, start1.below0, start1.atStart⟩
end Jvm.Pilot.@@N@@
