import JvmDerived
import JvmDerived.Pilot.@@N@@Statement
import JvmDerived.Pilot.@@N@@Code
set_option linter.unusedVariables false
set_option linter.unusedSimpArgs false
@@BLOCK:NumsL.lean.txt@@
namespace Jvm.RoadKit
open Sem ClassFile Op Lib Jvm.Stand Jvm.Free Jvm.LawKit
section New
variable {p : Program} {l : Launch} {e : Env} {R : Room} {s : State} {m : MethodId} {args : Array Value} {below : List Frame} {meth : Method} {c : Code} {T : State} {locs : List Loc} {cells slots : Nat}
theorem retI (X : Stand p l e R s m args below meth c T locs cells slots) (hx : p.tables.exec = Jvm.exec) {pc : Nat} {Ls : Array Slot} {z : Int32} {rest : List Value} (hret : meth.sig.returnType = some .int) (hd : decode c.code pc = .ok (.ireturn, 1)) {fs : List Frame}
    (hl : ∀ (f : JFrame) (acts : List Action), f.method = m → f.locked = none → f.entered = [] → (doReturn e (T.setTop f) acts (some (.int z))).1 = T.setFrames fs) : Steps p.tables e below (T.setTop (mkF m pc Ls (.int z :: rest))) (T.setFrames fs) := by
  have hm' : T.vm.method? m = some meth := X.method'
  have hn : narrow .int (.int z) = .int z := rfl
  show Steps p.tables e below (T.setTop { method := m, pc := pc, locals := Ls, stack := _ :: rest, locked := none }) _
  jvm_step X.here [X.here.top, hx, hd, hm', hret, hn]
  first | (intro acts; rw [hl _ acts rfl rfl rfl]) | rw [hl _ _ rfl rfl rfl]
  exact Steps.refl _
end New
end Jvm.RoadKit
namespace Jvm.Pilot.@@N@@
open Jvm Jvm.ClassFile Sem Op Lib Jvm.Free Jvm.Stand Jvm.LawKit Jvm.RoadKit Bundle Jvm.Pilot.@@N@@.Jvm.D
/-! OWN KIT: a run that comes to an end, one law an instruction, arrays as lists (written once, pasted by wip/gen/lawgen.py) -/
section OwnKit
variable {p : Program} {l : Launch} {e : Env} {R : Room} {s : State} {m : MethodId} {args : Array Value} {below : List Frame} {meth : Method} {c : Code} {T T' : State} {locs : List Loc} {cells slots : Nat} {Z : State} {a0 : Array Value} {h h' : Heap}
variable {Q : Outcome → State → Prop} {K : Option Value → Heap → List Loc → Prop} {cc ss : Nat}
variable {pc pc' pc1 pc2 : Nat} {Ls l' : Array Slot} {rest : List Value} {x y : Int32} {u w : Int64}
/-- from T, with g on top, the run comes to an end of which Q holds -/
def own_Go (p : Program) (e : Env) (below : List Frame) (Q : Outcome → State → Prop) (T : State) (g : JFrame) : Prop :=
  ∃ s₂ o, Steps p.tables e below (T.setTop g) s₂ ∧ s₂.status = .running ∧ Ended s₂ below o ∧ Q o s₂
/-- what a body's end says: it returned, K holds of the value, the heap and the old places written -/
def own_Q (s : State) (K : Option Value → Heap → List Loc → Prop) (cc ss : Nat) : Outcome → State → Prop := fun o t => ∃ v L, o = .returned v ∧ K v t.heap L ∧ FrameEnd s o t L cc ss
/-- what stands fast in one body -/
def own_Cx (p : Program) (s : State) (m : MethodId) (meth : Method) (c : Code) (Z : State) (a0 : Array Value) (bytes : ByteArray) (ml : Nat) (own : String) (rt : Option FieldType) (nm : String) : Prop :=
  p.tables.exec = Jvm.exec ∧ Z.Warmed39 s.vm ∧ (∀ d ∈ tables_1, d.before a0 Z = true) ∧ c.code = bytes ∧ c.maxLocals = ml ∧ s.vm.findClass own = some m.cls ∧ meth.sig.returnType = rt ∧ meth.locks = false ∧ meth.name = nm
theorem own_go {g g' : JFrame} (st : ∀ t, Steps p.tables e below (T'.setTop g') t → Steps p.tables e below (T.setTop g) t) (k : own_Go p e below Q T' g') : own_Go p e below Q T g := by
  obtain ⟨s₂, o, h1, h2⟩ := k
  exact ⟨s₂, o, st _ h1, h2⟩
theorem o_iloadN (X : Stand p l e R s m args below meth c T locs cells slots) (hx : p.tables.exec = Jvm.exec) {k : Fin 4} {v : Int32} (hd : decode c.code pc = .ok (.iload_n k, 1)) (hl : Ls[k.val]? = some (.val (.int v))) (hp : pc + 1 = pc') (q : own_Go p e below Q T (mkF m pc' Ls (.int v :: rest))) : own_Go p e below Q T (mkF m pc Ls rest) := by
  subst hp; exact own_go (fun t k' => XS.iloadN X.here hx rfl hd hl k') q
theorem o_iload (X : Stand p l e R s m args below meth c T locs cells slots) (hx : p.tables.exec = Jvm.exec) {k : Nat} {v : Int32} (hd : decode c.code pc = .ok (.iload k, 2)) (hl : Ls[k]? = some (.val (.int v))) (hp : pc + 2 = pc') (q : own_Go p e below Q T (mkF m pc' Ls (.int v :: rest))) : own_Go p e below Q T (mkF m pc Ls rest) := by
  subst hp; exact own_go (fun t k' => XS.iload X.here hx rfl hd hl k') q
theorem o_lloadN (X : Stand p l e R s m args below meth c T locs cells slots) (hx : p.tables.exec = Jvm.exec) {k : Fin 4} {v : Int64} (hd : decode c.code pc = .ok (.lload_n k, 1)) (hl : Ls[k.val]? = some (.val (.long v))) (hp : pc + 1 = pc') (q : own_Go p e below Q T (mkF m pc' Ls (.long v :: rest))) : own_Go p e below Q T (mkF m pc Ls rest) := by
  subst hp; exact own_go (fun t k' => XS.lloadN X.here hx rfl hd hl k') q
theorem o_lload (X : Stand p l e R s m args below meth c T locs cells slots) (hx : p.tables.exec = Jvm.exec) {k : Nat} {v : Int64} (hd : decode c.code pc = .ok (.lload k, 2)) (hl : Ls[k]? = some (.val (.long v))) (hp : pc + 2 = pc') (q : own_Go p e below Q T (mkF m pc' Ls (.long v :: rest))) : own_Go p e below Q T (mkF m pc Ls rest) := by
  subst hp; exact own_go (fun t k' => XS.lload X.here hx rfl hd hl k') q
theorem o_aloadN (X : Stand p l e R s m args below meth c T locs cells slots) (hx : p.tables.exec = Jvm.exec) {k : Fin 4} {v : Value} (hd : decode c.code pc = .ok (.aload_n k, 1)) (hl : Ls[k.val]? = some (.val v)) (hv : v.isRef = true) (hp : pc + 1 = pc') (q : own_Go p e below Q T (mkF m pc' Ls (v :: rest))) : own_Go p e below Q T (mkF m pc Ls rest) := by
  subst hp; exact own_go (fun t k' => XS.aloadN X.here hx rfl hd hl hv k') q
theorem o_aload (X : Stand p l e R s m args below meth c T locs cells slots) (hx : p.tables.exec = Jvm.exec) {k : Nat} {v : Value} (hd : decode c.code pc = .ok (.aload k, 2)) (hl : Ls[k]? = some (.val v)) (hv : v.isRef = true) (hp : pc + 2 = pc') (q : own_Go p e below Q T (mkF m pc' Ls (v :: rest))) : own_Go p e below Q T (mkF m pc Ls rest) := by
  subst hp; exact own_go (fun t k' => XS.aload X.here hx rfl hd hl hv k') q
theorem o_istoreN (X : Stand p l e R s m args below meth c T locs cells slots) (hx : p.tables.exec = Jvm.exec) {k : Fin 4} (hd : decode c.code pc = .ok (.istore_n k, 1)) (hl : storeLocals Ls k.val (.int x) = some l') (hp : pc + 1 = pc') (q : own_Go p e below Q T (mkF m pc' l' rest)) : own_Go p e below Q T (mkF m pc Ls (.int x :: rest)) := by
  subst hp; exact own_go (fun t k' => XS.istoreN X.here hx rfl hd rfl hl k') q
theorem o_istore (X : Stand p l e R s m args below meth c T locs cells slots) (hx : p.tables.exec = Jvm.exec) {k : Nat} (hd : decode c.code pc = .ok (.istore k, 2)) (hl : storeLocals Ls k (.int x) = some l') (hp : pc + 2 = pc') (q : own_Go p e below Q T (mkF m pc' l' rest)) : own_Go p e below Q T (mkF m pc Ls (.int x :: rest)) := by
  subst hp; exact own_go (fun t k' => XS.istore X.here hx rfl hd rfl hl k') q
theorem o_lstoreN (X : Stand p l e R s m args below meth c T locs cells slots) (hx : p.tables.exec = Jvm.exec) {k : Fin 4} (hd : decode c.code pc = .ok (.lstore_n k, 1)) (hl : storeLocals Ls k.val (.long u) = some l') (hp : pc + 1 = pc') (q : own_Go p e below Q T (mkF m pc' l' rest)) : own_Go p e below Q T (mkF m pc Ls (.long u :: rest)) := by
  subst hp; exact own_go (fun t k' => XS.lstoreN X.here hx rfl hd rfl hl k') q
theorem o_lstore (X : Stand p l e R s m args below meth c T locs cells slots) (hx : p.tables.exec = Jvm.exec) {k : Nat} (hd : decode c.code pc = .ok (.lstore k, 2)) (hl : storeLocals Ls k (.long u) = some l') (hp : pc + 2 = pc') (q : own_Go p e below Q T (mkF m pc' l' rest)) : own_Go p e below Q T (mkF m pc Ls (.long u :: rest)) := by
  subst hp; exact own_go (fun t k' => XS.lstore X.here hx rfl hd rfl hl k') q
theorem o_astoreN (X : Stand p l e R s m args below meth c T locs cells slots) (hx : p.tables.exec = Jvm.exec) {k : Fin 4} {v : Value} (hd : decode c.code pc = .ok (.astore_n k, 1)) (hv : v.isRef = true) (hl : storeLocals Ls k.val v = some l') (hp : pc + 1 = pc') (q : own_Go p e below Q T (mkF m pc' l' rest)) : own_Go p e below Q T (mkF m pc Ls (v :: rest)) := by
  subst hp; exact own_go (fun t k' => XS.astoreN X.here hx rfl hd rfl hv hl k') q
theorem o_astore (X : Stand p l e R s m args below meth c T locs cells slots) (hx : p.tables.exec = Jvm.exec) {k : Nat} {v : Value} (hd : decode c.code pc = .ok (.astore k, 2)) (hv : v.isRef = true) (hl : storeLocals Ls k v = some l') (hp : pc + 2 = pc') (q : own_Go p e below Q T (mkF m pc' l' rest)) : own_Go p e below Q T (mkF m pc Ls (v :: rest)) := by
  subst hp; exact own_go (fun t k' => XS.astore X.here hx rfl hd rfl hv hl k') q
theorem o_iconst (X : Stand p l e R s m args below meth c T locs cells slots) (hx : p.tables.exec = Jvm.exec) {i : Int} (hd : decode c.code pc = .ok (.iconst i, 1)) (hv : Int32.ofInt i = x) (hp : pc + 1 = pc') (q : own_Go p e below Q T (mkF m pc' Ls (.int x :: rest))) : own_Go p e below Q T (mkF m pc Ls rest) := by
  subst hp hv; exact own_go (fun t k' => XS.iconst X.here hx rfl hd k') q
theorem o_bipush (X : Stand p l e R s m args below meth c T locs cells slots) (hx : p.tables.exec = Jvm.exec) {i : Int} (hd : decode c.code pc = .ok (.bipush i, 2)) (hv : (Int8.ofInt i).toInt32 = x) (hp : pc + 2 = pc') (q : own_Go p e below Q T (mkF m pc' Ls (.int x :: rest))) : own_Go p e below Q T (mkF m pc Ls rest) := by
  subst hp hv; exact own_go (fun t k' => XS.bipush X.here hx rfl hd k') q
theorem o_sipush (X : Stand p l e R s m args below meth c T locs cells slots) (hx : p.tables.exec = Jvm.exec) {i : Int} (hd : decode c.code pc = .ok (.sipush i, 3)) (hv : (Int16.ofInt i).toInt32 = x) (hp : pc + 3 = pc') (q : own_Go p e below Q T (mkF m pc' Ls (.int x :: rest))) : own_Go p e below Q T (mkF m pc Ls rest) := by
  subst hp hv; exact own_go (fun t k' => XS.sipush X.here hx rfl hd k') q
theorem o_lconst (X : Stand p l e R s m args below meth c T locs cells slots) (hx : p.tables.exec = Jvm.exec) {k : Fin 2} (hd : decode c.code pc = .ok (.lconst k, 1)) (hv : Int64.ofNat k = u) (hp : pc + 1 = pc') (q : own_Go p e below Q T (mkF m pc' Ls (.long u :: rest))) : own_Go p e below Q T (mkF m pc Ls rest) := by
  subst hp hv; exact own_go (fun t k' => XS.lconst X.here hx rfl hd k') q
theorem o_ldcI (X : Stand p l e R s m args below meth c T locs cells slots) (hx : p.tables.exec = Jvm.exec) (hZ : Z.Warmed39 s.vm) {own : String} {index : Nat} (hown : s.vm.findClass own = some m.cls) (w1 : (Cond.constant own index x).before a0 Z = true) (hd : decode c.code pc = .ok (.ldc index, 2)) (hp : pc + 2 = pc') (q : own_Go p e below Q T (mkF m pc' Ls (.int x :: rest))) : own_Go p e below Q T (mkF m pc Ls rest) := by
  subst hp; exact own_go (fun t k' => X.ldcInt hx hown (mvT hZ w1) (g := mkF m pc Ls rest) rfl hd t k') q
theorem o_ldcL (X : Stand p l e R s m args below meth c T locs cells slots) (hx : p.tables.exec = Jvm.exec) (hZ : Z.Warmed39 s.vm) {own : String} {index : Nat} (hown : s.vm.findClass own = some m.cls) (w1 : (Cond.constantLong own index u).before a0 Z = true) (hd : decode c.code pc = .ok (.ldc2_w index, 3)) (hp : pc + 3 = pc') (q : own_Go p e below Q T (mkF m pc' Ls (.long u :: rest))) : own_Go p e below Q T (mkF m pc Ls rest) := by
  subst hp; exact own_go (fun t k' => X.ldc2Long hx hown (mvT hZ w1) (g := mkF m pc Ls rest) rfl hd t k') q
theorem o_iadd (X : Stand p l e R s m args below meth c T locs cells slots) (hx : p.tables.exec = Jvm.exec) (hd : decode c.code pc = .ok (.iadd, 1)) (hp : pc + 1 = pc') {z : Int32} (hz : x + y = z) (q : own_Go p e below Q T (mkF m pc' Ls (.int z :: rest))) : own_Go p e below Q T (mkF m pc Ls (.int y :: .int x :: rest)) := by
  subst hp hz; exact own_go (fun t k' => XS.iadd X.here hx rfl hd rfl k') q
theorem o_isub (X : Stand p l e R s m args below meth c T locs cells slots) (hx : p.tables.exec = Jvm.exec) (hd : decode c.code pc = .ok (.isub, 1)) (hp : pc + 1 = pc') {z : Int32} (hz : x - y = z) (q : own_Go p e below Q T (mkF m pc' Ls (.int z :: rest))) : own_Go p e below Q T (mkF m pc Ls (.int y :: .int x :: rest)) := by
  subst hp hz; exact own_go (fun t k' => XS.isub X.here hx rfl hd rfl k') q
theorem o_imul (X : Stand p l e R s m args below meth c T locs cells slots) (hx : p.tables.exec = Jvm.exec) (hd : decode c.code pc = .ok (.imul, 1)) (hp : pc + 1 = pc') {z : Int32} (hz : x * y = z) (q : own_Go p e below Q T (mkF m pc' Ls (.int z :: rest))) : own_Go p e below Q T (mkF m pc Ls (.int y :: .int x :: rest)) := by
  subst hp hz; exact own_go (fun t k' => XS.imul X.here hx rfl hd rfl k') q
theorem o_iand (X : Stand p l e R s m args below meth c T locs cells slots) (hx : p.tables.exec = Jvm.exec) (hd : decode c.code pc = .ok (.iand, 1)) (hp : pc + 1 = pc') {z : Int32} (hz : x &&& y = z) (q : own_Go p e below Q T (mkF m pc' Ls (.int z :: rest))) : own_Go p e below Q T (mkF m pc Ls (.int y :: .int x :: rest)) := by
  subst hp hz; exact own_go (fun t k' => XS.iand X.here hx rfl hd rfl k') q
theorem o_ior (X : Stand p l e R s m args below meth c T locs cells slots) (hx : p.tables.exec = Jvm.exec) (hd : decode c.code pc = .ok (.ior, 1)) (hp : pc + 1 = pc') {z : Int32} (hz : x ||| y = z) (q : own_Go p e below Q T (mkF m pc' Ls (.int z :: rest))) : own_Go p e below Q T (mkF m pc Ls (.int y :: .int x :: rest)) := by
  subst hp hz; exact own_go (fun t k' => XS.ior X.here hx rfl hd rfl k') q
theorem o_ixor (X : Stand p l e R s m args below meth c T locs cells slots) (hx : p.tables.exec = Jvm.exec) (hd : decode c.code pc = .ok (.ixor, 1)) (hp : pc + 1 = pc') {z : Int32} (hz : x ^^^ y = z) (q : own_Go p e below Q T (mkF m pc' Ls (.int z :: rest))) : own_Go p e below Q T (mkF m pc Ls (.int y :: .int x :: rest)) := by
  subst hp hz; exact own_go (fun t k' => XS.ixor X.here hx rfl hd rfl k') q
/-- Java's shifts, remainders: under names of our own -/
def own_shl (x y : Int32) : Int32 := x <<< (y &&& 31)
def own_shr (x y : Int32) : Int32 := x >>> (y &&& 31)
def own_ushr (x y : Int32) : Int32 := (x.toUInt32 >>> (y &&& 31).toUInt32).toInt32
def own_rem (x y : Int32) : Int32 := x - (x / y) * y
def own_lshl (u : Int64) (y : Int32) : Int64 := u <<< (y &&& 0x3f).toInt64
def own_lushr (u : Int64) (y : Int32) : Int64 := (u.toUInt64 >>> (y &&& 0x3f).toInt64.toUInt64).toInt64
def own_lrem (u w : Int64) : Int64 := u - (u / w) * w
theorem o_ishl (X : Stand p l e R s m args below meth c T locs cells slots) (hx : p.tables.exec = Jvm.exec) (hd : decode c.code pc = .ok (.ishl, 1)) (hp : pc + 1 = pc') {z : Int32} (hz : own_shl x y = z) (q : own_Go p e below Q T (mkF m pc' Ls (.int z :: rest))) : own_Go p e below Q T (mkF m pc Ls (.int y :: .int x :: rest)) := by
  subst hp hz; exact own_go (fun t k' => XS.ishl X.here hx rfl hd rfl k') q
theorem o_ishr (X : Stand p l e R s m args below meth c T locs cells slots) (hx : p.tables.exec = Jvm.exec) (hd : decode c.code pc = .ok (.ishr, 1)) (hp : pc + 1 = pc') {z : Int32} (hz : own_shr x y = z) (q : own_Go p e below Q T (mkF m pc' Ls (.int z :: rest))) : own_Go p e below Q T (mkF m pc Ls (.int y :: .int x :: rest)) := by
  subst hp hz; exact own_go (fun t k' => XS.ishr X.here hx rfl hd rfl k') q
theorem o_iushr (X : Stand p l e R s m args below meth c T locs cells slots) (hx : p.tables.exec = Jvm.exec) (hd : decode c.code pc = .ok (.iushr, 1)) (hp : pc + 1 = pc') {z : Int32} (hz : own_ushr x y = z) (q : own_Go p e below Q T (mkF m pc' Ls (.int z :: rest))) : own_Go p e below Q T (mkF m pc Ls (.int y :: .int x :: rest)) := by
  subst hp hz; exact own_go (fun t k' => XS.iushr X.here hx rfl hd rfl k') q
theorem o_irem (X : Stand p l e R s m args below meth c T locs cells slots) (hx : p.tables.exec = Jvm.exec) (hd : decode c.code pc = .ok (.irem, 1)) (hp : pc + 1 = pc') (hy : y ≠ 0) {z : Int32} (hz : own_rem x y = z) (q : own_Go p e below Q T (mkF m pc' Ls (.int z :: rest))) : own_Go p e below Q T (mkF m pc Ls (.int y :: .int x :: rest)) := by
  subst hp hz; exact own_go (fun t k' => XS.irem X.here hx rfl hd rfl hy k') q
theorem o_idiv (X : Stand p l e R s m args below meth c T locs cells slots) (hx : p.tables.exec = Jvm.exec) (hd : decode c.code pc = .ok (.idiv, 1)) (hp : pc + 1 = pc') (hy : y ≠ 0) {z : Int32} (hz : x / y = z) (q : own_Go p e below Q T (mkF m pc' Ls (.int z :: rest))) : own_Go p e below Q T (mkF m pc Ls (.int y :: .int x :: rest)) := by
  subst hp hz; exact own_go (fun t k' => XS.idiv X.here hx rfl hd rfl hy k') q
theorem o_ineg (X : Stand p l e R s m args below meth c T locs cells slots) (hx : p.tables.exec = Jvm.exec) (hd : decode c.code pc = .ok (.ineg, 1)) (hp : pc + 1 = pc') {z : Int32} (hz : -x = z) (q : own_Go p e below Q T (mkF m pc' Ls (.int z :: rest))) : own_Go p e below Q T (mkF m pc Ls (.int x :: rest)) := by
  subst hp hz; exact own_go (fun t k' => XS.ineg X.here hx rfl hd rfl k') q
theorem o_ladd (X : Stand p l e R s m args below meth c T locs cells slots) (hx : p.tables.exec = Jvm.exec) (hd : decode c.code pc = .ok (.ladd, 1)) (hp : pc + 1 = pc') {z : Int64} (hz : u + w = z) (q : own_Go p e below Q T (mkF m pc' Ls (.long z :: rest))) : own_Go p e below Q T (mkF m pc Ls (.long w :: .long u :: rest)) := by
  subst hp hz; exact own_go (fun t k' => XS.ladd X.here hx rfl hd rfl k') q
theorem o_lsub (X : Stand p l e R s m args below meth c T locs cells slots) (hx : p.tables.exec = Jvm.exec) (hd : decode c.code pc = .ok (.lsub, 1)) (hp : pc + 1 = pc') {z : Int64} (hz : u - w = z) (q : own_Go p e below Q T (mkF m pc' Ls (.long z :: rest))) : own_Go p e below Q T (mkF m pc Ls (.long w :: .long u :: rest)) := by
  subst hp hz; exact own_go (fun t k' => XS.lsub X.here hx rfl hd rfl k') q
theorem o_lmul (X : Stand p l e R s m args below meth c T locs cells slots) (hx : p.tables.exec = Jvm.exec) (hd : decode c.code pc = .ok (.lmul, 1)) (hp : pc + 1 = pc') {z : Int64} (hz : u * w = z) (q : own_Go p e below Q T (mkF m pc' Ls (.long z :: rest))) : own_Go p e below Q T (mkF m pc Ls (.long w :: .long u :: rest)) := by
  subst hp hz; exact own_go (fun t k' => XS.lmul X.here hx rfl hd rfl k') q
theorem o_land (X : Stand p l e R s m args below meth c T locs cells slots) (hx : p.tables.exec = Jvm.exec) (hd : decode c.code pc = .ok (.land, 1)) (hp : pc + 1 = pc') {z : Int64} (hz : u &&& w = z) (q : own_Go p e below Q T (mkF m pc' Ls (.long z :: rest))) : own_Go p e below Q T (mkF m pc Ls (.long w :: .long u :: rest)) := by
  subst hp hz; exact own_go (fun t k' => XS.land X.here hx rfl hd rfl k') q
theorem o_lor (X : Stand p l e R s m args below meth c T locs cells slots) (hx : p.tables.exec = Jvm.exec) (hd : decode c.code pc = .ok (.lor, 1)) (hp : pc + 1 = pc') {z : Int64} (hz : u ||| w = z) (q : own_Go p e below Q T (mkF m pc' Ls (.long z :: rest))) : own_Go p e below Q T (mkF m pc Ls (.long w :: .long u :: rest)) := by
  subst hp hz; exact own_go (fun t k' => XS.lor X.here hx rfl hd rfl k') q
theorem o_lxor (X : Stand p l e R s m args below meth c T locs cells slots) (hx : p.tables.exec = Jvm.exec) (hd : decode c.code pc = .ok (.lxor, 1)) (hp : pc + 1 = pc') {z : Int64} (hz : u ^^^ w = z) (q : own_Go p e below Q T (mkF m pc' Ls (.long z :: rest))) : own_Go p e below Q T (mkF m pc Ls (.long w :: .long u :: rest)) := by
  subst hp hz; exact own_go (fun t k' => XS.lxor X.here hx rfl hd rfl k') q
theorem o_lshl (X : Stand p l e R s m args below meth c T locs cells slots) (hx : p.tables.exec = Jvm.exec) (hd : decode c.code pc = .ok (.lshl, 1)) (hp : pc + 1 = pc') {z : Int64} (hz : own_lshl u y = z) (q : own_Go p e below Q T (mkF m pc' Ls (.long z :: rest))) : own_Go p e below Q T (mkF m pc Ls (.int y :: .long u :: rest)) := by
  subst hp hz; exact own_go (fun t k' => XS.lshl X.here hx rfl hd rfl k') q
theorem o_lushr (X : Stand p l e R s m args below meth c T locs cells slots) (hx : p.tables.exec = Jvm.exec) (hd : decode c.code pc = .ok (.lushr, 1)) (hp : pc + 1 = pc') {z : Int64} (hz : own_lushr u y = z) (q : own_Go p e below Q T (mkF m pc' Ls (.long z :: rest))) : own_Go p e below Q T (mkF m pc Ls (.int y :: .long u :: rest)) := by
  subst hp hz; exact own_go (fun t k' => XS.lushr X.here hx rfl hd rfl k') q
theorem o_ldiv (X : Stand p l e R s m args below meth c T locs cells slots) (hx : p.tables.exec = Jvm.exec) (hd : decode c.code pc = .ok (.ldiv, 1)) (hp : pc + 1 = pc') (hy : w ≠ 0) {z : Int64} (hz : u / w = z) (q : own_Go p e below Q T (mkF m pc' Ls (.long z :: rest))) : own_Go p e below Q T (mkF m pc Ls (.long w :: .long u :: rest)) := by
  subst hp hz; exact own_go (fun t k' => XS.ldiv X.here hx rfl hd rfl hy k') q
theorem o_lrem (X : Stand p l e R s m args below meth c T locs cells slots) (hx : p.tables.exec = Jvm.exec) (hd : decode c.code pc = .ok (.lrem, 1)) (hp : pc + 1 = pc') (hy : w ≠ 0) {z : Int64} (hz : own_lrem u w = z) (q : own_Go p e below Q T (mkF m pc' Ls (.long z :: rest))) : own_Go p e below Q T (mkF m pc Ls (.long w :: .long u :: rest)) := by
  subst hp hz; exact own_go (fun t k' => XS.lrem X.here hx rfl hd rfl hy k') q
theorem o_i2l (X : Stand p l e R s m args below meth c T locs cells slots) (hx : p.tables.exec = Jvm.exec) (hd : decode c.code pc = .ok (.i2l, 1)) (hp : pc + 1 = pc') {z : Int64} (hz : x.toInt64 = z) (q : own_Go p e below Q T (mkF m pc' Ls (.long z :: rest))) : own_Go p e below Q T (mkF m pc Ls (.int x :: rest)) := by
  subst hp hz; exact own_go (fun t k' => XS.i2l X.here hx rfl hd rfl k') q
theorem o_l2i (X : Stand p l e R s m args below meth c T locs cells slots) (hx : p.tables.exec = Jvm.exec) (hd : decode c.code pc = .ok (.l2i, 1)) (hp : pc + 1 = pc') {z : Int32} (hz : u.toInt32 = z) (q : own_Go p e below Q T (mkF m pc' Ls (.int z :: rest))) : own_Go p e below Q T (mkF m pc Ls (.long u :: rest)) := by
  subst hp hz; exact own_go (fun t k' => XS.l2i X.here hx rfl hd rfl k') q
def own_i2b (x : Int32) : Int32 := x.toInt8.toInt32
def own_i2c (x : Int32) : Int32 := x.toUInt32.toUInt16.toUInt32.toInt32
theorem o_i2b (X : Stand p l e R s m args below meth c T locs cells slots) (hx : p.tables.exec = Jvm.exec) (hd : decode c.code pc = .ok (.i2b, 1)) (hp : pc + 1 = pc') {z : Int32} (hz : own_i2b x = z) (q : own_Go p e below Q T (mkF m pc' Ls (.int z :: rest))) : own_Go p e below Q T (mkF m pc Ls (.int x :: rest)) := by
  subst hp hz; exact own_go (fun t k' => XS.i2b X.here hx rfl hd rfl k') q
theorem o_i2c (X : Stand p l e R s m args below meth c T locs cells slots) (hx : p.tables.exec = Jvm.exec) (hd : decode c.code pc = .ok (.i2c, 1)) (hp : pc + 1 = pc') {z : Int32} (hz : own_i2c x = z) (q : own_Go p e below Q T (mkF m pc' Ls (.int z :: rest))) : own_Go p e below Q T (mkF m pc Ls (.int x :: rest)) := by
  subst hp hz; exact own_go (fun t k' => XS.i2c X.here hx rfl hd rfl k') q
theorem o_iinc (X : Stand p l e R s m args below meth c T locs cells slots) (hx : p.tables.exec = Jvm.exec) {k : Nat} {i : Int} (hd : decode c.code pc = .ok (.iinc k i, 3)) (hl : Ls[k]? = some (.val (.int x))) (hz : x + Int32.ofInt i = y) (hl' : storeLocals Ls k (.int y) = some l') (hp : pc + 3 = pc') (q : own_Go p e below Q T (mkF m pc' l' rest)) : own_Go p e below Q T (mkF m pc Ls rest) := by
  subst hp hz; exact own_go (fun t k' => XS.iinc X.here hx rfl hd hl hl' k') q
theorem o_dup (X : Stand p l e R s m args below meth c T locs cells slots) (hx : p.tables.exec = Jvm.exec) {v : Value} (hd : decode c.code pc = .ok (.dup, 1)) (hv : v.category = 1) (hp : pc + 1 = pc') (q : own_Go p e below Q T (mkF m pc' Ls (v :: v :: rest))) : own_Go p e below Q T (mkF m pc Ls (v :: rest)) := by
  subst hp; exact own_go (fun t k' => XS.dup X.here hx rfl hd rfl hv k') q
theorem o_pop (X : Stand p l e R s m args below meth c T locs cells slots) (hx : p.tables.exec = Jvm.exec) {v : Value} (hd : decode c.code pc = .ok (.pop, 1)) (hv : v.category = 1) (hp : pc + 1 = pc') (q : own_Go p e below Q T (mkF m pc' Ls rest)) : own_Go p e below Q T (mkF m pc Ls (v :: rest)) := by
  subst hp; exact own_go (fun t k' => XS.pop X.here hx rfl hd rfl hv k') q
theorem o_goto (X : Stand p l e R s m args below meth c T locs cells slots) (hx : p.tables.exec = Jvm.exec) {o : Int} (hd : decode c.code pc = .ok (.goto o, 3)) (ho : 0 ≤ (pc : Int) + o) (hp : ((pc : Int) + o).toNat = pc') (q : own_Go p e below Q T (mkF m pc' Ls rest)) : own_Go p e below Q T (mkF m pc Ls rest) :=
  own_go (fun t k' => XS.goto X.here hx rfl rfl hd ho hp k') q
theorem o_ifP (X : Stand p l e R s m args below meth c T locs cells slots) (hx : p.tables.exec = Jvm.exec) {cd : ClassFile.Cond} {o : Int} {P : Prop} [Decidable P] (hP : P → ifCond.holds cd x = true) (hN : ¬ P → ifCond.holds cd x = false) (hd : decode c.code pc = .ok (.ifCond cd o, 3)) (ho : 0 ≤ (pc : Int) + o) (hp : ((pc : Int) + o).toNat = pc1) (hp2 : pc + 3 = pc2)
    (kt : P → own_Go p e below Q T (mkF m pc1 Ls rest)) (kf : ¬ P → own_Go p e below Q T (mkF m pc2 Ls rest)) : own_Go p e below Q T (mkF m pc Ls (.int x :: rest)) := by
  subst hp2
  by_cases q : P
  · exact own_go (fun t k' => XS.ifYes X.here hx rfl rfl hd rfl (hP q) ho hp k') (kt q)
  · exact own_go (fun t k' => XS.ifNo X.here hx rfl hd rfl (hN q) k') (kf q)
theorem o_ifN (X : Stand p l e R s m args below meth c T locs cells slots) (hx : p.tables.exec = Jvm.exec) {cd : ClassFile.Cond} {o : Int} {P : Prop} [Decidable P] (hP : P → ifCond.holds cd x = false) (hN : ¬ P → ifCond.holds cd x = true) (hd : decode c.code pc = .ok (.ifCond cd o, 3)) (ho : 0 ≤ (pc : Int) + o) (hp : ((pc : Int) + o).toNat = pc1) (hp2 : pc + 3 = pc2)
    (kt : ¬ P → own_Go p e below Q T (mkF m pc1 Ls rest)) (kf : P → own_Go p e below Q T (mkF m pc2 Ls rest)) : own_Go p e below Q T (mkF m pc Ls (.int x :: rest)) := by
  subst hp2
  by_cases q : P
  · exact own_go (fun t k' => XS.ifNo X.here hx rfl hd rfl (hP q) k') (kf q)
  · exact own_go (fun t k' => XS.ifYes X.here hx rfl rfl hd rfl (hN q) ho hp k') (kt q)
theorem o_icP (X : Stand p l e R s m args below meth c T locs cells slots) (hx : p.tables.exec = Jvm.exec) {cd : ClassFile.Cond} {o : Int} {P : Prop} [Decidable P] (hP : P → if_icmp.holds cd x y = true) (hN : ¬ P → if_icmp.holds cd x y = false) (hd : decode c.code pc = .ok (.if_icmp cd o, 3)) (ho : 0 ≤ (pc : Int) + o) (hp : ((pc : Int) + o).toNat = pc1) (hp2 : pc + 3 = pc2)
    (kt : P → own_Go p e below Q T (mkF m pc1 Ls rest)) (kf : ¬ P → own_Go p e below Q T (mkF m pc2 Ls rest)) : own_Go p e below Q T (mkF m pc Ls (.int y :: .int x :: rest)) := by
  subst hp2
  by_cases q : P
  · exact own_go (fun t k' => XS.icmpYes X.here hx rfl rfl hd rfl (hP q) ho hp k') (kt q)
  · exact own_go (fun t k' => XS.icmpNo X.here hx rfl hd rfl (hN q) k') (kf q)
theorem o_icN (X : Stand p l e R s m args below meth c T locs cells slots) (hx : p.tables.exec = Jvm.exec) {cd : ClassFile.Cond} {o : Int} {P : Prop} [Decidable P] (hP : P → if_icmp.holds cd x y = false) (hN : ¬ P → if_icmp.holds cd x y = true) (hd : decode c.code pc = .ok (.if_icmp cd o, 3)) (ho : 0 ≤ (pc : Int) + o) (hp : ((pc : Int) + o).toNat = pc1) (hp2 : pc + 3 = pc2)
    (kt : ¬ P → own_Go p e below Q T (mkF m pc1 Ls rest)) (kf : P → own_Go p e below Q T (mkF m pc2 Ls rest)) : own_Go p e below Q T (mkF m pc Ls (.int y :: .int x :: rest)) := by
  subst hp2
  by_cases q : P
  · exact own_go (fun t k' => XS.icmpNo X.here hx rfl hd rfl (hP q) k') (kf q)
  · exact own_go (fun t k' => XS.icmpYes X.here hx rfl rfl hd rfl (hN q) ho hp k') (kt q)
/-- a branch that goes one way for sure -/
theorem o_ifY (X : Stand p l e R s m args below meth c T locs cells slots) (hx : p.tables.exec = Jvm.exec) {cd : ClassFile.Cond} {o : Int} (hc : ifCond.holds cd x = true) (hd : decode c.code pc = .ok (.ifCond cd o, 3)) (ho : 0 ≤ (pc : Int) + o) (hp : ((pc : Int) + o).toNat = pc') (q : own_Go p e below Q T (mkF m pc' Ls rest)) : own_Go p e below Q T (mkF m pc Ls (.int x :: rest)) :=
  own_go (fun t k' => XS.ifYes X.here hx rfl rfl hd rfl hc ho hp k') q
theorem o_ifX (X : Stand p l e R s m args below meth c T locs cells slots) (hx : p.tables.exec = Jvm.exec) {cd : ClassFile.Cond} {o : Int} (hc : ifCond.holds cd x = false) (hd : decode c.code pc = .ok (.ifCond cd o, 3)) (hp : pc + 3 = pc') (q : own_Go p e below Q T (mkF m pc' Ls rest)) : own_Go p e below Q T (mkF m pc Ls (.int x :: rest)) := by
  subst hp; exact own_go (fun t k' => XS.ifNo X.here hx rfl hd rfl hc k') q
theorem o_icY (X : Stand p l e R s m args below meth c T locs cells slots) (hx : p.tables.exec = Jvm.exec) {cd : ClassFile.Cond} {o : Int} (hc : if_icmp.holds cd x y = true) (hd : decode c.code pc = .ok (.if_icmp cd o, 3)) (ho : 0 ≤ (pc : Int) + o) (hp : ((pc : Int) + o).toNat = pc') (q : own_Go p e below Q T (mkF m pc' Ls rest)) : own_Go p e below Q T (mkF m pc Ls (.int y :: .int x :: rest)) :=
  own_go (fun t k' => XS.icmpYes X.here hx rfl rfl hd rfl hc ho hp k') q
theorem o_icX (X : Stand p l e R s m args below meth c T locs cells slots) (hx : p.tables.exec = Jvm.exec) {cd : ClassFile.Cond} {o : Int} (hc : if_icmp.holds cd x y = false) (hd : decode c.code pc = .ok (.if_icmp cd o, 3)) (hp : pc + 3 = pc') (q : own_Go p e below Q T (mkF m pc' Ls rest)) : own_Go p e below Q T (mkF m pc Ls (.int y :: .int x :: rest)) := by
  subst hp; exact own_go (fun t k' => XS.icmpNo X.here hx rfl hd rfl hc k') q
theorem o_lcmp (X : Stand p l e R s m args below meth c T locs cells slots) (hx : p.tables.exec = Jvm.exec) (hd : decode c.code pc = .ok (.lcmp, 1)) (hp : pc + 1 = pc') (q : own_Go p e below Q T (mkF m pc' Ls (.int (XT.cmpL u w) :: rest))) : own_Go p e below Q T (mkF m pc Ls (.long w :: .long u :: rest)) := by
  subst hp; exact own_go (fun t k' => XS.lcmp X.here hx rfl hd rfl k') q
theorem o_ifnullX (X : Stand p l e R s m args below meth c T locs cells slots) (hx : p.tables.exec = Jvm.exec) {o : Int} {a : Addr} (hd : decode c.code pc = .ok (.ifnull o, 3)) (hp : pc + 3 = pc') (q : own_Go p e below Q T (mkF m pc' Ls rest)) : own_Go p e below Q T (mkF m pc Ls (.ref a :: rest)) := by
  subst hp; exact own_go (fun t k' => XS.ifnullNo X.here hx rfl hd rfl k') q
/-- the ends -/
theorem o_ret (X : Stand p l e R s m args below meth c T locs cells slots) {v : Option Value} {g : JFrame} (hv : meth.sig.returnType = none → v = none) (hlk : meth.locks = false) (hc : cells ≤ cc) (hs : slots ≤ ss) (eT : T.heap = h) (hK : K v h locs)
    (st : ∀ fs : List Frame, (∀ (f : JFrame) (acts : List Action), f.method = m → f.locked = none → f.entered = [] → (doReturn e (T.setTop f) acts v).1 = T.setFrames fs) → Steps p.tables e below (T.setTop g) (T.setFrames fs)) : own_Go p e below (own_Q s K cc ss) T g := by
  subst eT
  obtain ⟨fs, hr, hrun, hended, hW, hsame⟩ := X.leave (v := v) hv hlk
  exact ⟨_, _, st fs hr, hrun, hended, _, _, rfl, hK, ⟨_, rfl⟩, hW, hsame.mono hc hs⟩
theorem o_retV (X : Stand p l e R s m args below meth c T locs cells slots) (hx : p.tables.exec = Jvm.exec) (hret : meth.sig.returnType = none) (hlk : meth.locks = false) (hd : decode c.code pc = .ok (.return_, 1)) (hc : cells ≤ cc) (hs : slots ≤ ss) (eT : T.heap = h) (hK : K none h locs) : own_Go p e below (own_Q s K cc ss) T (mkF m pc Ls []) :=
  o_ret X (fun _ => rfl) hlk hc hs eT hK fun fs hr => X.returnOut hx hret hd hr
theorem o_retI (X : Stand p l e R s m args below meth c T locs cells slots) (hx : p.tables.exec = Jvm.exec) (hret : meth.sig.returnType = some .int) (hlk : meth.locks = false) (hd : decode c.code pc = .ok (.ireturn, 1)) (hc : cells ≤ cc) (hs : slots ≤ ss) (eT : T.heap = h) (hK : K (some (.int x)) h locs) : own_Go p e below (own_Q s K cc ss) T (mkF m pc Ls (.int x :: rest)) :=
  o_ret X (fun h => by rw [hret] at h; cases h) hlk hc hs eT hK fun fs hr => retI X hx hret hd hr
theorem o_retN (X : Stand p l e R s m args below meth c T locs cells slots) (hx : p.tables.exec = Jvm.exec) {t : FieldType} (hret : meth.sig.returnType = some t) (ht : t = .boolean ∨ t = .byte ∨ t = .char ∨ t = .short) (hlk : meth.locks = false) (hd : decode c.code pc = .ok (.ireturn, 1)) (hc : cells ≤ cc) (hs : slots ≤ ss) (eT : T.heap = h) (hK : K (some (.int (nar t x))) h locs) : own_Go p e below (own_Q s K cc ss) T (mkF m pc Ls (.int x :: rest)) :=
  o_ret X (fun h => by rw [hret] at h; cases h) hlk hc hs eT hK fun fs hr => retN X hx hret ht hd hr
theorem o_retL (X : Stand p l e R s m args below meth c T locs cells slots) (hx : p.tables.exec = Jvm.exec) (hret : meth.sig.returnType = some .long) (hlk : meth.locks = false) (hd : decode c.code pc = .ok (.lreturn, 1)) (hc : cells ≤ cc) (hs : slots ≤ ss) (eT : T.heap = h) (hK : K (some (.long u)) h locs) : own_Go p e below (own_Q s K cc ss) T (mkF m pc Ls (.long u :: rest)) :=
  o_ret X (fun h => by rw [hret] at h; cases h) hlk hc hs eT hK fun fs hr => by
    jvm_step X.here [X.here.top, hx, hd, X.method', hret, narrow]
    first | (intro acts; rw [hr _ acts rfl rfl rfl]) | rw [hr _ _ rfl rfl rfl]
    exact Steps.refl _
theorem o_retA (X : Stand p l e R s m args below meth c T locs cells slots) (hx : p.tables.exec = Jvm.exec) {t : FieldType} (hret : meth.sig.returnType = some (.array t)) (hlk : meth.locks = false) {a : Addr} (hd : decode c.code pc = .ok (.areturn, 1)) (hc : cells ≤ cc) (hs : slots ≤ ss) (eT : T.heap = h) (hK : K (some (.ref a)) h locs) : own_Go p e below (own_Q s K cc ss) T (mkF m pc Ls (.ref a :: rest)) :=
  o_ret X (fun h => by rw [hret] at h; cases h) hlk hc hs eT hK fun fs hr => by
    jvm_step X.here [X.here.top, hx, hd, X.method', hret, Value.isRef, FieldType.isReference]
    first | (intro acts; rw [hr _ acts rfl rfl rfl]) | rw [hr _ _ rfl rfl rfl]
    exact Steps.refl _
/-- arrays as lists -/
def own_AI (Z : State) (h : Heap) (a : Addr) (ty : FieldType) (vs : List Int32) : Prop := ∃ cl : Cell, Arr Z h a cl ty ∧ cl.slots = (vs.map Value.int).toArray
def own_AJ (Z : State) (h : Heap) (a : Addr) (vs : List Int64) : Prop := ∃ cl : Cell, Arr Z h a cl .long ∧ cl.slots = (vs.map Value.long).toArray
def own_in (n : Nat) (j : Int32) : Prop := ¬ j < 0 ∧ j.toNatClampNeg < n
def own_get (vs : List Int32) (j : Int32) : Int32 := vs.getD j.toNatClampNeg 0
def own_getL (vs : List Int64) (j : Int32) : Int64 := vs.getD j.toNatClampNeg 0
def own_set (vs : List Int32) (j x : Int32) : List Int32 := vs.set j.toNatClampNeg x
def own_setL (vs : List Int64) (j : Int32) (u : Int64) : List Int64 := vs.set j.toNatClampNeg u
theorem own_AI.lt {a : Addr} {ty : FieldType} {vs : List Int32} (A : own_AI Z h a ty vs) : a < h.size := by obtain ⟨cl, A, -⟩ := A; exact A.lt
theorem own_AI.ext {a : Addr} {ty : FieldType} {vs : List Int32} (A : own_AI Z h a ty vs) (E : Ext h h') : own_AI Z h' a ty vs := by obtain ⟨cl, A, q⟩ := A; exact ⟨cl, A.ext E, q⟩
theorem own_AI.other {a b : Addr} {ty : FieldType} {vs : List Int32} {sl : Nat} {v : Value} (A : own_AI Z h a ty vs) (W : Wr h h' b sl v) (ne : a ≠ b) : own_AI Z h' a ty vs := by obtain ⟨cl, A, q⟩ := A; exact ⟨cl, A.other W ne, q⟩
theorem own_AI.keep {a : Addr} {ty : FieldType} {vs : List Int32} {ws : List Addr} (A : own_AI Z h a ty vs) (K : Keep h h' ws) (ne : a ∉ ws) : own_AI Z h' a ty vs := by obtain ⟨cl, A, q⟩ := A; exact ⟨cl, ⟨K.2.1 a cl A.1 ne, A.2⟩, q⟩
theorem own_AI.put {a : Addr} {ty : FieldType} {vs : List Int32} {j : Int32} (A : own_AI Z h a ty vs) (W : Wr h h' a j.toNatClampNeg (.int x)) : own_AI Z h' a ty (own_set vs j x) := by
  obtain ⟨cl, A, q⟩ := A
  refine ⟨_, A.same W, ?_⟩
  show cl.slots.setIfInBounds _ _ = _
  rw [q, own_set, List.map_set, List.setIfInBounds_toArray]
theorem own_AJ.lt {a : Addr} {vs : List Int64} (A : own_AJ Z h a vs) : a < h.size := by obtain ⟨cl, A, -⟩ := A; exact A.lt
theorem own_AJ.ext {a : Addr} {vs : List Int64} (A : own_AJ Z h a vs) (E : Ext h h') : own_AJ Z h' a vs := by obtain ⟨cl, A, q⟩ := A; exact ⟨cl, A.ext E, q⟩
theorem own_AJ.other {a b : Addr} {vs : List Int64} {sl : Nat} {v : Value} (A : own_AJ Z h a vs) (W : Wr h h' b sl v) (ne : a ≠ b) : own_AJ Z h' a vs := by obtain ⟨cl, A, q⟩ := A; exact ⟨cl, A.other W ne, q⟩
theorem own_AJ.keep {a : Addr} {vs : List Int64} {ws : List Addr} (A : own_AJ Z h a vs) (K : Keep h h' ws) (ne : a ∉ ws) : own_AJ Z h' a vs := by obtain ⟨cl, A, q⟩ := A; exact ⟨cl, ⟨K.2.1 a cl A.1 ne, A.2⟩, q⟩
theorem own_AJ.put {a : Addr} {vs : List Int64} {j : Int32} (A : own_AJ Z h a vs) (W : Wr h h' a j.toNatClampNeg (.long u)) : own_AJ Z h' a (own_setL vs j u) := by
  obtain ⟨cl, A, q⟩ := A
  refine ⟨_, A.same W, ?_⟩
  show cl.slots.setIfInBounds _ _ = _
  rw [q, own_setL, List.map_set, List.setIfInBounds_toArray]
theorem own_inA {n : Nat} {j : Int32} {cl : Cell} (hj : own_in n j) (hn : cl.slots.size = n) : ¬ (j < 0 ∨ cl.slots.size ≤ j.toNatClampNeg) := fun q => q.elim hj.1 fun q => by rw [hn] at q; exact Nat.not_lt.mpr q hj.2
theorem own_szI {cl : Cell} {vs : List Int32} (q : cl.slots = (vs.map Value.int).toArray) : cl.slots.size = vs.length := by rw [q]; simp
theorem own_szJ {cl : Cell} {vs : List Int64} (q : cl.slots = (vs.map Value.long).toArray) : cl.slots.size = vs.length := by rw [q]; simp
theorem own_atI {cl : Cell} {vs : List Int32} {j : Int32} (q : cl.slots = (vs.map Value.int).toArray) (hj : own_in vs.length j) : cl.slots[j.toNatClampNeg]? = some (.int (own_get vs j)) := by
  rw [q, List.getElem?_toArray, List.getElem?_map, List.getElem?_eq_getElem hj.2, own_get, List.getD_eq_getElem?_getD, List.getElem?_eq_getElem hj.2]; rfl
theorem own_atJ {cl : Cell} {vs : List Int64} {j : Int32} (q : cl.slots = (vs.map Value.long).toArray) (hj : own_in vs.length j) : cl.slots[j.toNatClampNeg]? = some (.long (own_getL vs j)) := by
  rw [q, List.getElem?_toArray, List.getElem?_map, List.getElem?_eq_getElem hj.2, own_getL, List.getD_eq_getElem?_getD, List.getElem?_eq_getElem hj.2]; rfl
theorem o_iaload (X : Stand p l e R s m args below meth c T locs cells slots) (hx : p.tables.exec = Jvm.exec) (hZ : Z.Warmed39 s.vm) (eT : T.heap = h) {a : Addr} {vs : List Int32} {j : Int32} (A : own_AI Z h a .int vs) (hj : own_in vs.length j) (hd : decode c.code pc = .ok (.iaload, 1)) (hp : pc + 1 = pc') (hv : own_get vs j = x) (q : own_Go p e below Q T (mkF m pc' Ls (.int x :: rest))) : own_Go p e below Q T (mkF m pc Ls (.int j :: .ref a :: rest)) := by
  subst hp hv
  obtain ⟨cl, A, qs⟩ := A
  exact own_go (fun t k' => X.iaload hx (by rw [eT]; exact A.1) (State.isArrayOf_alike hZ.alike A.2.1) A.2.2 (own_inA hj (own_szI qs)) (own_atI qs hj) (g := mkF m pc Ls (.int j :: .ref a :: rest)) rfl rfl hd t k') q
theorem o_baload (X : Stand p l e R s m args below meth c T locs cells slots) (hx : p.tables.exec = Jvm.exec) (hZ : Z.Warmed39 s.vm) (eT : T.heap = h) {a : Addr} {vs : List Int32} {j : Int32} (A : own_AI Z h a .byte vs) (hj : own_in vs.length j) (hd : decode c.code pc = .ok (.baload, 1)) (hp : pc + 1 = pc') (hv : own_get vs j = x) (q : own_Go p e below Q T (mkF m pc' Ls (.int x :: rest))) : own_Go p e below Q T (mkF m pc Ls (.int j :: .ref a :: rest)) := by
  subst hp hv
  obtain ⟨cl, A, qs⟩ := A
  exact own_go (fun t k' => X.baloadBytes hx (by rw [eT]; exact A.1) (State.isArrayOf_alike hZ.alike A.2.1) A.2.2 (own_inA hj (own_szI qs)) (own_atI qs hj) (g := mkF m pc Ls (.int j :: .ref a :: rest)) rfl rfl hd t k') q
theorem o_laload (X : Stand p l e R s m args below meth c T locs cells slots) (hx : p.tables.exec = Jvm.exec) (hZ : Z.Warmed39 s.vm) (eT : T.heap = h) {a : Addr} {vs : List Int64} {j : Int32} (A : own_AJ Z h a vs) (hj : own_in vs.length j) (hd : decode c.code pc = .ok (.laload, 1)) (hp : pc + 1 = pc') (hv : own_getL vs j = u) (q : own_Go p e below Q T (mkF m pc' Ls (.long u :: rest))) : own_Go p e below Q T (mkF m pc Ls (.int j :: .ref a :: rest)) := by
  subst hp hv
  obtain ⟨cl, A, qs⟩ := A
  exact own_go (fun t k' => X.laload hx (by rw [eT]; exact A.1) (State.isArrayOf_alike hZ.alike A.2.1) A.2.2 (own_inA hj (own_szJ qs)) (own_atJ qs hj) (g := mkF m pc Ls (.int j :: .ref a :: rest)) rfl rfl hd t k') q
/-- the length as arraylength pushes it -/
def own_len (n : Nat) : Int32 := n.toInt32
theorem o_alenI (X : Stand p l e R s m args below meth c T locs cells slots) (hx : p.tables.exec = Jvm.exec) (hZ : Z.Warmed39 s.vm) (eT : T.heap = h) {a : Addr} {ty : FieldType} {vs : List Int32} (A : own_AI Z h a ty vs) (hd : decode c.code pc = .ok (.arraylength, 1)) (hp : pc + 1 = pc') (hv : own_len vs.length = x) (q : own_Go p e below Q T (mkF m pc' Ls (.int x :: rest))) : own_Go p e below Q T (mkF m pc Ls (.ref a :: rest)) := by
  subst hp hv
  obtain ⟨cl, A, qs⟩ := A
  refine own_go (fun t k' => X.arraylength hx (by rw [eT]; exact A.1) (State.isArrayOf_alike hZ.alike A.2.1) (g := mkF m pc Ls (.ref a :: rest)) rfl rfl hd t k') ?_
  rw [own_szI qs]; exact q
theorem o_alenJ (X : Stand p l e R s m args below meth c T locs cells slots) (hx : p.tables.exec = Jvm.exec) (hZ : Z.Warmed39 s.vm) (eT : T.heap = h) {a : Addr} {vs : List Int64} (A : own_AJ Z h a vs) (hd : decode c.code pc = .ok (.arraylength, 1)) (hp : pc + 1 = pc') (hv : own_len vs.length = x) (q : own_Go p e below Q T (mkF m pc' Ls (.int x :: rest))) : own_Go p e below Q T (mkF m pc Ls (.ref a :: rest)) := by
  subst hp hv
  obtain ⟨cl, A, qs⟩ := A
  refine own_go (fun t k' => X.arraylength hx (by rw [eT]; exact A.1) (State.isArrayOf_alike hZ.alike A.2.1) (g := mkF m pc Ls (.ref a :: rest)) rfl rfl hd t k') ?_
  rw [own_szJ qs]; exact q
/-- stores: the place stays in locs -/
theorem o_iastore (X : Stand p l e R s m args below meth c T locs cells slots) (hx : p.tables.exec = Jvm.exec) (hZ : Z.Warmed39 s.vm) (eT : T.heap = h) {a : Addr} {vs vs' : List Int32} {j : Int32} (A : own_AI Z h a .int vs) (hj : own_in vs.length j) (hd : decode c.code pc = .ok (.iastore, 1)) (hp : pc + 1 = pc') (hv : own_set vs j x = vs')
    (k : ∀ T' h', Stand p l e R s m args below meth c T' (locs ++ [⟨a, j.toNatClampNeg⟩]) cells slots → T'.heap = h' → Wr h h' a j.toNatClampNeg (.int x) → own_AI Z h' a .int vs' → own_Go p e below Q T' (mkF m pc' Ls rest)) : own_Go p e below Q T (mkF m pc Ls (.int x :: .int j :: .ref a :: rest)) := by
  subst hp hv
  obtain ⟨cl, A', qs⟩ := id A
  obtain ⟨T', h', X', e', W, st⟩ := stI X hx hZ eT A' (own_inA hj (own_szI qs)) (g := mkF m pc Ls (.int x :: .int j :: .ref a :: rest)) rfl rfl hd
  exact own_go st (k T' h' X' e' W (A.put W))
theorem o_bastore (X : Stand p l e R s m args below meth c T locs cells slots) (hx : p.tables.exec = Jvm.exec) (hZ : Z.Warmed39 s.vm) (eT : T.heap = h) {a : Addr} {vs vs' : List Int32} {j : Int32} (A : own_AI Z h a .byte vs) (hj : own_in vs.length j) (hd : decode c.code pc = .ok (.bastore, 1)) (hp : pc + 1 = pc') (hv : own_set vs j (own_i2b x) = vs')
    (k : ∀ T' h', Stand p l e R s m args below meth c T' (locs ++ [⟨a, j.toNatClampNeg⟩]) cells slots → T'.heap = h' → Wr h h' a j.toNatClampNeg (.int (own_i2b x)) → own_AI Z h' a .byte vs' → own_Go p e below Q T' (mkF m pc' Ls rest)) : own_Go p e below Q T (mkF m pc Ls (.int x :: .int j :: .ref a :: rest)) := by
  subst hp hv
  obtain ⟨cl, A', qs⟩ := id A
  obtain ⟨T', h', X', e', W, st⟩ := stB X hx hZ eT A' (own_inA hj (own_szI qs)) (g := mkF m pc Ls (.int x :: .int j :: .ref a :: rest)) rfl rfl hd
  exact own_go st (k T' h' X' e' W (A.put W))
theorem o_lastore (X : Stand p l e R s m args below meth c T locs cells slots) (hx : p.tables.exec = Jvm.exec) (hZ : Z.Warmed39 s.vm) (eT : T.heap = h) {a : Addr} {vs vs' : List Int64} {j : Int32} (A : own_AJ Z h a vs) (hj : own_in vs.length j) (hd : decode c.code pc = .ok (.lastore, 1)) (hp : pc + 1 = pc') (hv : own_setL vs j u = vs')
    (k : ∀ T' h', Stand p l e R s m args below meth c T' (locs ++ [⟨a, j.toNatClampNeg⟩]) cells slots → T'.heap = h' → Wr h h' a j.toNatClampNeg (.long u) → own_AJ Z h' a vs' → own_Go p e below Q T' (mkF m pc' Ls rest)) : own_Go p e below Q T (mkF m pc Ls (.long u :: .int j :: .ref a :: rest)) := by
  subst hp hv
  obtain ⟨cl, A', qs⟩ := id A
  obtain ⟨T', h', X', e', W, st⟩ := stJ X hx hZ eT A' (own_inA hj (own_szJ qs)) (g := mkF m pc Ls (.long u :: .int j :: .ref a :: rest)) rfl rfl hd
  exact own_go st (k T' h' X' e' W (A.put W))
theorem own_sz (X : Stand p l e R s m args below meth c T locs cells slots) (eT : T.heap = h) : s.heap.size ≤ h.size := by
  have q := X.same.2.1
  rw [← eT]; exact q
/-- the place written lies in a cell made since the start: it needn't be told -/
theorem own_drop {a : Addr} {j : Nat} (X : Stand p l e R s m args below meth c T (locs ++ [⟨a, j⟩]) cells slots) (ha : s.heap.size ≤ a) : Stand p l e R s m args below meth c T locs cells slots := X.forget fun y hy => by cases List.mem_singleton.mp hy; exact ha
theorem own_dropL {L : List Loc} {k : Nat} (X : Stand p l e R s m args below meth c T (locs ++ L) cells slots) (ha : s.heap.size ≤ k) (hL : ∀ y ∈ L, k ≤ y.base) : Stand p l e R s m args below meth c T locs cells slots := X.forget fun y hy => Nat.le_trans ha (hL y hy)
/-- newarray -/
theorem o_newI (X : Stand p l e R s m args below meth c T locs cells slots) (hx : p.tables.exec = Jvm.exec) (hZ : Z.Warmed39 s.vm) (eT : T.heap = h) {aty : ArrayType} {ty : FieldType} (w1 : (Cond.arrayClass ty).before a0 Z = true) (hty : newarray.typeOf aty = ty) (hdv : defaultValue ty = .int 0) (hd : decode c.code pc = .ok (.newarray aty, 2)) (hp : pc + 2 = pc') (hn : ¬ x < 0) {cap : Nat} (hcap : x.toNatClampNeg ≤ cap) (hb : cap * 8 ≤ 536870912) (hc : cells + 1 ≤ R.cells) (hs : slots + cap ≤ R.slots) {vs : List Int32} (hv : List.replicate x.toNatClampNeg 0 = vs)
    (k : ∀ T' h' a, Stand p l e R s m args below meth c T' locs (cells + 1) (slots + cap) → T'.heap = h' → h.size = a → Ext h h' → own_AI Z h' a ty vs → own_Go p e below Q T' (mkF m pc' Ls (.ref a :: rest))) : own_Go p e below Q T (mkF m pc Ls (.int x :: rest)) := by
  subst hp hv hty
  obtain ⟨T', h', cA, X', e', E, A, st⟩ := newP X hx hZ w1 eT (g := mkF m pc Ls (.int x :: rest)) rfl hd rfl hn hcap hb hc hs
  exact own_go st (k T' h' _ X' e' rfl E ⟨_, A, by simp [newA, hdv]⟩)
theorem o_newJ (X : Stand p l e R s m args below meth c T locs cells slots) (hx : p.tables.exec = Jvm.exec) (hZ : Z.Warmed39 s.vm) (eT : T.heap = h) (w1 : (Cond.arrayClass .long).before a0 Z = true) (hd : decode c.code pc = .ok (.newarray .long, 2)) (hp : pc + 2 = pc') (hn : ¬ x < 0) {cap : Nat} (hcap : x.toNatClampNeg ≤ cap) (hb : cap * 8 ≤ 536870912) (hc : cells + 1 ≤ R.cells) (hs : slots + cap ≤ R.slots) {vs : List Int64} (hv : List.replicate x.toNatClampNeg 0 = vs)
    (k : ∀ T' h' a, Stand p l e R s m args below meth c T' locs (cells + 1) (slots + cap) → T'.heap = h' → h.size = a → Ext h h' → own_AJ Z h' a vs → own_Go p e below Q T' (mkF m pc' Ls (.ref a :: rest))) : own_Go p e below Q T (mkF m pc Ls (.int x :: rest)) := by
  subst hp hv
  obtain ⟨T', h', cA, X', e', E, A, st⟩ := newP X hx hZ (aty := .long) w1 eT (g := mkF m pc Ls (.int x :: rest)) rfl hd rfl hn hcap hb hc hs
  exact own_go st (k T' h' _ X' e' rfl E ⟨_, A, by simp [newA, show defaultValue (newarray.typeOf .long) = Value.long 0 from rfl]⟩)
/-- a static call by the callee's contract -/
theorem o_callS (X : Stand p l e R s m args below meth c T locs cells slots) (hx : p.tables.exec = Jvm.exec) (hZ : Z.Warmed39 s.vm) (eT : T.heap = h) {own : String} {index : Nat} {y : MethodName} {bytes : ByteArray} {maxL : Nat} {ret : Option FieldType} {rm : Room} {W : Nat} (hown : s.vm.findClass own = some m.cls)
    (w1 : (Cond.methodLink own index y).before a0 Z = true) (w2 : (Cond.static y).before a0 Z = true) (w3 : (Cond.initialized y.cls).before a0 Z = true) (w4 : (Cond.code y bytes maxL ret).before a0 Z = true) (hy : y.cls ≠ "java/lang/invoke/MethodHandle" ∧ y.cls ≠ "java/lang/invoke/VarHandle") {as' : Array Value} {K : Option Value → Heap → List Loc → Prop}
    (hM : MetFree l y (head1 [Cond.code y bytes maxL ret] rm) (fun a U => a = as' ∧ Z.Warmed39 U.vm ∧ U.heap = h) (fun _ _ _ _ _ => True) (fun _ U o U' => ∃ v L, o = .returned v ∧ K v U'.heap L ∧ FrameEnd U o U' L rm.cells rm.slots))
    (hf : rm.frames + 1 ≤ R.frames) (hl : W + (maxL + 11) + rm.locals ≤ R.locals) (hml : Ls.size = c.maxLocals) {argsL st : List Value} {sig : MethodDescriptor} (hpd : parseMethodDescriptor y.desc = some sig) (hlen : argsL.length = sig.parameters.length) (hst : st = argsL.reverse ++ rest) (has : argsL.toArray = as') (hW : (rest.map fun v => v.category).sum = W)
    (hd : decode c.code pc = .ok (.invokestatic index, 3)) (hp : pc + 3 = pc') (hc : cells + rm.cells ≤ R.cells) (hs : slots + rm.slots ≤ R.slots)
    (k : ∀ v T' L, Stand p l e R s m args below meth c T' (locs ++ L) (cells + rm.cells) (slots + rm.slots) → K v T'.heap L → own_Go p e below Q T' (mkF m pc' Ls (v.toList ++ rest))) : own_Go p e below Q T (mkF m pc Ls st) := by
  subst hp hst has
  obtain ⟨v, _, ⟨T1, L1, k1, n1⟩, -, X1, ⟨Lc, hQ, l1, y1, z1⟩, st1⟩ := Jvm.LawKit.callS X hx hown (mvT hZ w1) (mvT hZ w2) (mvT hZ w3) (mvT hZ w4) hy (backOf (W := W) hM hZ w4 w3 hf hl) (g := mkF m pc Ls (argsL.reverse ++ rest)) rfl hml (argsL := argsL) (rest := rest) (fun sg hsg => by cases hpd.symm.trans hsg; exact hlen) rfl (by show 2 * 0 + _ ≤ _; rw [hW]; omega) hd (fun _ _ => ⟨rfl, eT, hc, hs⟩)
  dsimp only [Pt.U, Pt.locs, Pt.cells, Pt.slots] at X1 l1 y1 z1 st1 hQ
  subst l1 y1 z1
  exact own_go st1 (k v T1 Lc X1 hQ)
/-- a body that writes nothing: what it returns, the heap as it was -/
def own_KP (V : Option Value) (h0 : Heap) : Option Value → Heap → List Loc → Prop := fun v h L => v = V ∧ h = h0 ∧ L = []
/-- a law: what it returns; nothing old is written -/
def own_KL (V : Option Value) : Option Value → Heap → List Loc → Prop := fun v _ L => v = V ∧ L = []
theorem o_callP (X : Stand p l e R s m args below meth c T locs cells slots) (hx : p.tables.exec = Jvm.exec) (hZ : Z.Warmed39 s.vm) (eT : T.heap = h) {own : String} {index : Nat} {y : MethodName} {bytes : ByteArray} {maxL : Nat} {ret : Option FieldType} {rm : Room} {W : Nat} (hown : s.vm.findClass own = some m.cls)
    (w1 : (Cond.methodLink own index y).before a0 Z = true) (w2 : (Cond.static y).before a0 Z = true) (w3 : (Cond.initialized y.cls).before a0 Z = true) (w4 : (Cond.code y bytes maxL ret).before a0 Z = true) (hy : y.cls ≠ "java/lang/invoke/MethodHandle" ∧ y.cls ≠ "java/lang/invoke/VarHandle") {as' : Array Value} {V : Option Value}
    (hM : MetFree l y (head1 [Cond.code y bytes maxL ret] rm) (fun a U => a = as' ∧ Z.Warmed39 U.vm ∧ U.heap = h) (fun _ _ _ _ _ => True) (fun _ U o U' => ∃ v L, o = .returned v ∧ own_KP V h v U'.heap L ∧ FrameEnd U o U' L rm.cells rm.slots))
    (hf : rm.frames + 1 ≤ R.frames) (hl : W + (maxL + 11) + rm.locals ≤ R.locals) (hml : Ls.size = c.maxLocals) {argsL st : List Value} {sig : MethodDescriptor} (hpd : parseMethodDescriptor y.desc = some sig) (hlen : argsL.length = sig.parameters.length) (hst : st = argsL.reverse ++ rest) (has : argsL.toArray = as') (hW : (rest.map fun v => v.category).sum = W)
    (hd : decode c.code pc = .ok (.invokestatic index, 3)) (hp : pc + 3 = pc') (hc0 : rm.cells = 0) (hs0 : rm.slots = 0) (hc : cells + rm.cells ≤ R.cells) (hs : slots + rm.slots ≤ R.slots)
    {st' : List Value} (hst' : V.toList ++ rest = st')
    (k : ∀ T', Stand p l e R s m args below meth c T' locs cells slots → T'.heap = h → own_Go p e below Q T' (mkF m pc' Ls st')) : own_Go p e below Q T (mkF m pc Ls st) := by
  subst hst'
  refine o_callS X hx hZ eT hown w1 w2 w3 w4 hy hM hf hl hml hpd hlen hst has hW hd hp hc hs fun v T' L X' hK => ?_
  obtain ⟨rfl, e', rfl⟩ := hK
  rw [hc0, hs0, List.append_nil] at X'
  exact k T' X' e'
theorem own_snoc {a : Addr} {L : List Loc} {j : Nat} (N : ∀ y ∈ L, y.base = a) : ∀ y ∈ L ++ [⟨a, j⟩], y.base = a := fun y hy => (List.mem_append.mp hy).elim (N y) fun q => by cases List.mem_singleton.mp q; rfl
theorem own_nil (X : Stand p l e R s m args below meth c T (locs ++ []) cells slots) : Stand p l e R s m args below meth c T locs cells slots := by rw [List.append_nil] at X; exact X
/-- a body that writes into the array a alone -/
def own_KW (Z : State) (a : Addr) (ty : FieldType) (vs : List Int32) (h0 : Heap) : Option Value → Heap → List Loc → Prop := fun v h L => v = none ∧ (∀ y ∈ L, y.base = a) ∧ Keep h0 h [a] ∧ own_AI Z h a ty vs
def own_KWJ (Z : State) (a : Addr) (vs : List Int64) (h0 : Heap) : Option Value → Heap → List Loc → Prop := fun v h L => v = none ∧ (∀ y ∈ L, y.base = a) ∧ Keep h0 h [a] ∧ own_AJ Z h a vs
/-- a body that makes an array and hands it back -/
def own_KM (Z : State) (ty : FieldType) (vs : List Int32) (h0 : Heap) : Option Value → Heap → List Loc → Prop := fun v h L => ∃ b, v = some (.ref b) ∧ L = [] ∧ Keep h0 h [] ∧ h0.size ≤ b ∧ own_AI Z h b ty vs
/-- a store over a local that held nothing or one word -/
theorem o_istoreNS (X : Stand p l e R s m args below meth c T locs cells slots) (hx : p.tables.exec = Jvm.exec) {k : Fin 4} {o : Slot} (hd : decode c.code pc = .ok (.istore_n k, 1)) (hold : Ls[k.val]? = some o) (ho : One o) (hl : Ls.setIfInBounds k.val (.val (.int x)) = l') (hp : pc + 1 = pc') (q : own_Go p e below Q T (mkF m pc' l' rest)) : own_Go p e below Q T (mkF m pc Ls (.int x :: rest)) := by
  subst hp hl; exact own_go (fun t k' => XS.istoreNS X.here hx rfl hd rfl hold ho k') q
theorem o_istoreS (X : Stand p l e R s m args below meth c T locs cells slots) (hx : p.tables.exec = Jvm.exec) {k : Nat} {o : Slot} (hd : decode c.code pc = .ok (.istore k, 2)) (hold : Ls[k]? = some o) (ho : One o) (hl : Ls.setIfInBounds k (.val (.int x)) = l') (hp : pc + 2 = pc') (q : own_Go p e below Q T (mkF m pc' l' rest)) : own_Go p e below Q T (mkF m pc Ls (.int x :: rest)) := by
  subst hp hl; exact own_go (fun t k' => XS.istoreS X.here hx rfl hd rfl hold ho k') q
theorem o_astoreS (X : Stand p l e R s m args below meth c T locs cells slots) (hx : p.tables.exec = Jvm.exec) {k : Nat} {o : Slot} {v : Value} (hd : decode c.code pc = .ok (.astore k, 2)) (hv : v.isRef = true) (hcat : v.category = 1) (hold : Ls[k]? = some o) (ho : One o) (hl : Ls.setIfInBounds k (.val v) = l') (hp : pc + 2 = pc') (q : own_Go p e below Q T (mkF m pc' l' rest)) : own_Go p e below Q T (mkF m pc Ls (v :: rest)) := by
  subst hp hl; exact own_go (fun t k' => XS.astoreS X.here hx rfl hd rfl hv hcat hold ho k') q
end OwnKit
/-! own facts on numbers (with kit/NumsL) -/
theorem own_tmod (x y : Int32) : (own_rem x y).toInt = x.toInt.tmod y.toInt := by
  have a := (x % y).toInt_lt; have b := (x % y).le_toInt
  rw [Int32.toInt_mod] at a b
  show (x - (x / y) * y).toInt = _
  rw [Int32.toInt_sub, Int32.toInt_mul, Int32.toInt_div, Int.bmod_mul_bmod, Int.sub_bmod_bmod, Int.mul_comm, ← Int.tmod_def]
  exact Jvm.Kit.bmod32 b a
theorem own_emod {x y : Int32} (hx : 0 ≤ x.toInt) : (own_rem x y).toInt = x.toInt % y.toInt := by rw [own_tmod, Int.tmod_eq_emod_of_nonneg hx]
theorem own_lemod {u w : Int64} (hx : 0 ≤ u.toInt) : (own_lrem u w).toInt = u.toInt % w.toInt := Jvm.Kit.i64_rem_nonneg hx
theorem own_max (x : Int32) : (x &&& 2147483647).toInt = x.toInt % 2 ^ 31 := Jvm.Kit.i32_mask x 2147483647 (by decide) (by decide)
/-- x >>> k, k a number from 1 to 31, as a division of the number without sign -/
theorem own_ushr_toNat (x y : Int32) {k : Nat} (hk : (y &&& 31).toUInt32.toNat = k) (h1 : k < 32) : (own_ushr x y).toBitVec.toNat = x.toBitVec.toNat / 2 ^ k := by
  show ((x.toUInt32 >>> (y &&& 31).toUInt32).toInt32).toBitVec.toNat = _
  rw [UInt32.toBitVec_toInt32, UInt32.toBitVec_shiftRight]
  have e : ((y &&& 31).toUInt32.toBitVec % 32).toNat = k := by
    have e0 : (y &&& 31).toUInt32.toBitVec.toNat = k := hk
    rw [BitVec.toNat_umod, e0]
    exact Nat.mod_eq_of_lt h1
  show (x.toBitVec >>> ((y &&& 31).toUInt32.toBitVec % 32).toNat).toNat = _
  rw [e, BitVec.toNat_ushiftRight, Nat.shiftRight_eq_div_pow]
theorem own_ushr_toInt (x y : Int32) {k : Nat} (hk : (y &&& 31).toUInt32.toNat = k) (h0 : 0 < k) (h1 : k < 32) : (own_ushr x y).toInt = (x.toBitVec.toNat / 2 ^ k : Nat) := by
  have h := own_ushr_toNat x y hk h1
  have hb := x.toBitVec.isLt
  have h2 : x.toBitVec.toNat / 2 ^ k ≤ x.toBitVec.toNat / 2 ^ 1 := Nat.div_le_div_left (Nat.pow_le_pow_right (by decide) h0) (by decide)
  have e : (own_ushr x y).toInt = (own_ushr x y).toBitVec.toInt := rfl
  rw [e, BitVec.toInt_eq_toNat_cond, h, if_pos (by omega)]
theorem own_in_of {n : Nat} {j : Int32} (h0 : 0 ≤ j.toInt) (h1 : j.toInt < n) : own_in n j := by
  refine ⟨fun q => ?_, ?_⟩
  · rw [Int32.lt_iff_toInt_lt] at q
    have : (0 : Int32).toInt = 0 := rfl
    omega
  · rw [Int32.toNatClampNeg]; omega
theorem own_lt {x y : Int32} : x < y ↔ x.toInt < y.toInt := Int32.lt_iff_toInt_lt
theorem own_eq {x y : Int32} : x = y ↔ x.toInt = y.toInt := Int32.toInt_inj.symm
theorem own_ltL {x y : Int64} : x < y ↔ x.toInt < y.toInt := Int64.lt_iff_toInt_lt
theorem own_eqL {x y : Int64} : x = y ↔ x.toInt = y.toInt := Int64.toInt_inj.symm
theorem own_nat_toInt {k : Nat} (h : k < 2 ^ 31) : (Int32.ofNat k).toInt = k := Int32.toInt_ofNat_of_lt (by omega)
theorem own_nat_lt {i n : Nat} (hi : i < 2 ^ 31) (hn : n < 2 ^ 31) : Int32.ofNat i < Int32.ofNat n ↔ i < n := by
  rw [own_lt, own_nat_toInt hi, own_nat_toInt hn]; omega
theorem own_nat_one (i : Nat) : Int32.ofNat i + (1 : Int32) = Int32.ofNat (i + 1) := (Int32.ofNat_add i 1).symm
theorem own_nat_clamp {k : Nat} (h : k < 2 ^ 31) : (Int32.ofNat k).toNatClampNeg = k := by
  rw [Int32.toNatClampNeg, own_nat_toInt h]; rfl
theorem own_nat_get (v : List Int32) {k : Nat} (h : k < 2 ^ 31) : own_get v (Int32.ofNat k) = v.getD k 0 := by rw [own_get, own_nat_clamp h]
theorem own_nat_in {n k : Nat} (h : k < n) (hk : k < 2 ^ 31) : own_in n (Int32.ofNat k) := own_in_of (by rw [own_nat_toInt hk]; omega) (by rw [own_nat_toInt hk]; omega)
theorem own_nat_of {x : Int32} (h : 0 ≤ x.toInt) : ∃ k : Nat, x = Int32.ofNat k ∧ (k : Int) = x.toInt ∧ k < 2 ^ 31 := by
  have u := x.toInt_lt
  refine ⟨x.toInt.toNat, ?_, by omega, by omega⟩
  rw [own_eq, own_nat_toInt (by omega)]; omega
theorem own_nat_sub {a b : Nat} (ha : a < 2 ^ 31) (h : b ≤ a) : Int32.ofNat a - Int32.ofNat b = Int32.ofNat (a - b) := by
  have e1 := own_nat_toInt ha
  have e2 := own_nat_toInt (k := b) (by omega)
  have e3 := own_nat_toInt (k := a - b) (by omega)
  rw [own_eq, Jvm.Kit.i32_sub (by omega) (by omega)]
  omega
theorem own_i2b2 (x : Int32) : own_i2b (own_i2b x) = own_i2b x := by
  show (x.toInt8.toInt32).toInt8.toInt32 = x.toInt8.toInt32
  rw [Int8.toInt8_toInt32]
/-- a hash: 31 * h + the next, count times from place i on -/
def own_h (v : List Int32) : Int32 → Nat → Nat → Int32
  | h, _, 0 => h
  | h, i, c + 1 => own_h v (31 * h + v.getD i 0) (i + 1) c
def own_p : Nat → Int32
  | 0 => 1
  | n + 1 => 31 * own_p n
def own_sum (v : List Int32) : Nat → Nat → Int32
  | _, 0 => 0
  | i, c + 1 => v.getD i 0 * own_p c + own_sum v (i + 1) c
theorem own_h_eq (v : List Int32) : ∀ (c : Nat) (h : Int32) (i : Nat), own_h v h i c = h * own_p c + own_sum v i c := by
  intro c
  induction c with
  | zero => intro h i; simp only [own_h, own_p, own_sum, Int32.mul_one, Int32.add_zero]
  | succ c ih =>
    intro h i
    rw [own_h, ih, own_p, own_sum, Int32.add_mul, Int32.mul_comm 31 h, Int32.mul_assoc, Int32.add_assoc]
theorem own_toNat (x : Int32) : (x.toBitVec.toNat : Int) = x.toInt % 2 ^ 32 := by
  have e : x.toInt = x.toBitVec.toInt := rfl
  have h := x.toBitVec.isLt
  rw [e, BitVec.toInt_eq_toNat_cond]
  split <;> omega
theorem pd_0 : parseMethodDescriptor "([BI)I" = some ⟨[(.array .byte), .int], some .int⟩ := by decide +kernel
theorem pd_1 : parseMethodDescriptor "(B)[B" = some ⟨[.byte], some (.array .byte)⟩ := by decide +kernel
theorem pd_2 : parseMethodDescriptor "([BIJ)V" = some ⟨[(.array .byte), .int, .long], none⟩ := by decide +kernel
theorem pd_3 : parseMethodDescriptor "([BII)V" = some ⟨[(.array .byte), .int, .int], none⟩ := by decide +kernel
theorem pd_4 : parseMethodDescriptor "([B[B)Z" = some ⟨[(.array .byte), (.array .byte)], some .boolean⟩ := by decide +kernel
theorem pd_5 : parseMethodDescriptor "([BI)J" = some ⟨[(.array .byte), .int], some .long⟩ := by decide +kernel
theorem d1_0 : decode method_2_code 0 = .ok (.bipush 13, 2) := by decide +kernel
theorem d1_2 : decode method_2_code 2 = .ok (.newarray .byte, 2) := by decide +kernel
theorem d1_4 : decode method_2_code 4 = .ok (.dup, 1) := by decide +kernel
theorem d1_5 : decode method_2_code 5 = .ok (.iconst 0, 1) := by decide +kernel
theorem d1_6 : decode method_2_code 6 = .ok (.iload_n 0, 1) := by decide +kernel
theorem d1_7 : decode method_2_code 7 = .ok (.bastore, 1) := by decide +kernel
theorem d1_8 : decode method_2_code 8 = .ok (.dup, 1) := by decide +kernel
theorem d1_9 : decode method_2_code 9 = .ok (.iconst 1, 1) := by decide +kernel
theorem d1_10 : decode method_2_code 10 = .ok (.iload_n 0, 1) := by decide +kernel
theorem d1_11 : decode method_2_code 11 = .ok (.bastore, 1) := by decide +kernel
theorem d1_12 : decode method_2_code 12 = .ok (.dup, 1) := by decide +kernel
theorem d1_13 : decode method_2_code 13 = .ok (.iconst 2, 1) := by decide +kernel
theorem d1_14 : decode method_2_code 14 = .ok (.iload_n 0, 1) := by decide +kernel
theorem d1_15 : decode method_2_code 15 = .ok (.bastore, 1) := by decide +kernel
theorem d1_16 : decode method_2_code 16 = .ok (.dup, 1) := by decide +kernel
theorem d1_17 : decode method_2_code 17 = .ok (.iconst 3, 1) := by decide +kernel
theorem d1_18 : decode method_2_code 18 = .ok (.iload_n 0, 1) := by decide +kernel
theorem d1_19 : decode method_2_code 19 = .ok (.bastore, 1) := by decide +kernel
theorem d1_20 : decode method_2_code 20 = .ok (.dup, 1) := by decide +kernel
theorem d1_21 : decode method_2_code 21 = .ok (.iconst 4, 1) := by decide +kernel
theorem d1_22 : decode method_2_code 22 = .ok (.iload_n 0, 1) := by decide +kernel
theorem d1_23 : decode method_2_code 23 = .ok (.bastore, 1) := by decide +kernel
theorem d1_24 : decode method_2_code 24 = .ok (.dup, 1) := by decide +kernel
theorem d1_25 : decode method_2_code 25 = .ok (.iconst 5, 1) := by decide +kernel
theorem d1_26 : decode method_2_code 26 = .ok (.iload_n 0, 1) := by decide +kernel
theorem d1_27 : decode method_2_code 27 = .ok (.bastore, 1) := by decide +kernel
theorem d1_28 : decode method_2_code 28 = .ok (.dup, 1) := by decide +kernel
theorem d1_29 : decode method_2_code 29 = .ok (.bipush 6, 2) := by decide +kernel
theorem d1_31 : decode method_2_code 31 = .ok (.iload_n 0, 1) := by decide +kernel
theorem d1_32 : decode method_2_code 32 = .ok (.bastore, 1) := by decide +kernel
theorem d1_33 : decode method_2_code 33 = .ok (.dup, 1) := by decide +kernel
theorem d1_34 : decode method_2_code 34 = .ok (.bipush 7, 2) := by decide +kernel
theorem d1_36 : decode method_2_code 36 = .ok (.iload_n 0, 1) := by decide +kernel
theorem d1_37 : decode method_2_code 37 = .ok (.bastore, 1) := by decide +kernel
theorem d1_38 : decode method_2_code 38 = .ok (.dup, 1) := by decide +kernel
theorem d1_39 : decode method_2_code 39 = .ok (.bipush 8, 2) := by decide +kernel
theorem d1_41 : decode method_2_code 41 = .ok (.iload_n 0, 1) := by decide +kernel
theorem d1_42 : decode method_2_code 42 = .ok (.bastore, 1) := by decide +kernel
theorem d1_43 : decode method_2_code 43 = .ok (.dup, 1) := by decide +kernel
theorem d1_44 : decode method_2_code 44 = .ok (.bipush 9, 2) := by decide +kernel
theorem d1_46 : decode method_2_code 46 = .ok (.iload_n 0, 1) := by decide +kernel
theorem d1_47 : decode method_2_code 47 = .ok (.bastore, 1) := by decide +kernel
theorem d1_48 : decode method_2_code 48 = .ok (.dup, 1) := by decide +kernel
theorem d1_49 : decode method_2_code 49 = .ok (.bipush 10, 2) := by decide +kernel
theorem d1_51 : decode method_2_code 51 = .ok (.iload_n 0, 1) := by decide +kernel
theorem d1_52 : decode method_2_code 52 = .ok (.bastore, 1) := by decide +kernel
theorem d1_53 : decode method_2_code 53 = .ok (.dup, 1) := by decide +kernel
theorem d1_54 : decode method_2_code 54 = .ok (.bipush 11, 2) := by decide +kernel
theorem d1_56 : decode method_2_code 56 = .ok (.iload_n 0, 1) := by decide +kernel
theorem d1_57 : decode method_2_code 57 = .ok (.bastore, 1) := by decide +kernel
theorem d1_58 : decode method_2_code 58 = .ok (.dup, 1) := by decide +kernel
theorem d1_59 : decode method_2_code 59 = .ok (.bipush 12, 2) := by decide +kernel
theorem d1_61 : decode method_2_code 61 = .ok (.iload_n 0, 1) := by decide +kernel
theorem d1_62 : decode method_2_code 62 = .ok (.bastore, 1) := by decide +kernel
theorem d1_63 : decode method_2_code 63 = .ok (.areturn, 1) := by decide +kernel
section Body1
variable {p : Program} {l : Launch} {e : Env} {s : State} {m : MethodId} {args : Array Value} {below : List Frame} {meth : Method} {c : Code} {Z : State} {ag : Array Value} {K : Option Value → Heap → List Loc → Prop}
abbrev R1 : Room := { frames := 0, cells := 1, slots := 13, locals := 0 }
abbrev cc1 : Nat := 1
abbrev ss1 : Nat := 13
def f1_0 (p0 : Int32) : List Int32 := [(own_i2b p0), (own_i2b p0), (own_i2b p0), (own_i2b p0), (own_i2b p0), (own_i2b p0), (own_i2b p0), (own_i2b p0), (own_i2b p0), (own_i2b p0), (own_i2b p0), (own_i2b p0), (own_i2b p0)]
set_option maxRecDepth 65536 in
set_option maxHeartbeats 40000000 in
theorem b1_0 (C : own_Cx p s m meth c Z ag method_2_code 1 "com/example/ledgerline/ledgerline/BigEndianPutLongPinLaw" (some (.array .byte)) "filled") {T : State} {h : Heap} {h0 : Heap} (p0 : Int32) (X : Stand p l e R1 s m args below meth c T [] 0 0) (eT : T.heap = h) (hs0 : s.heap = h0) (hKp : Keep h0 h []) (hK : ∀ h' b, Keep h0 h' [] → h0.size ≤ b → own_AI Z h' b .byte (f1_0 p0) → K (some (.ref b)) h' []) : own_Go p e below (own_Q s K cc1 ss1) T (mkF m 0 #[.val (.int p0)] []) := by
  obtain ⟨hx, hZ, hw, hby, hml, hown, hret, hlk, hnm⟩ := id C
  unfold f1_0 at hK
  refine o_bipush (pc' := 2) (x := (13 : Int32)) X hx (hb hby d1_0) (by decide) rfl ?_
  refine o_newI (pc' := 4) (cap := 13) (vs := [(0 : Int32), (0 : Int32), (0 : Int32), (0 : Int32), (0 : Int32), (0 : Int32), (0 : Int32), (0 : Int32), (0 : Int32), (0 : Int32), (0 : Int32), (0 : Int32), (0 : Int32)]) X hx hZ eT (hw _ (List.mem_of_getElem? (i := 5) rfl)) rfl rfl (hb hby d1_2) rfl (by decide) (by decide) (by decide) (by decide) (by decide) rfl fun T1 h1 b1 X1 e1 q1 E1 A1 => ?_
  have g1 : s.heap.size ≤ b1 := q1 ▸ own_sz X eT
  have P1 := hKp.ext E1
  refine o_dup (pc' := 5) X1 hx (hb hby d1_4) rfl rfl ?_
  refine o_iconst (pc' := 6) (x := (0 : Int32)) X1 hx (hb hby d1_5) (by decide) rfl ?_
  refine o_iloadN (pc' := 7) X1 hx (hb hby d1_6) rfl rfl ?_
  refine o_bastore (pc' := 8) (vs' := [(own_i2b p0), (0 : Int32), (0 : Int32), (0 : Int32), (0 : Int32), (0 : Int32), (0 : Int32), (0 : Int32), (0 : Int32), (0 : Int32), (0 : Int32), (0 : Int32), (0 : Int32)]) X1 hx hZ e1 A1 ⟨by decide, Nat.le_of_ble_eq_true rfl⟩ (hb hby d1_7) rfl rfl fun T2 h2 X2 e2 W2 A2 => ?_
  have Y2 := own_drop X2 g1
  have P2 := P1.wr W2 (Or.inr (by rw [← hs0]; exact g1))
  refine o_dup (pc' := 9) Y2 hx (hb hby d1_8) rfl rfl ?_
  refine o_iconst (pc' := 10) (x := (1 : Int32)) Y2 hx (hb hby d1_9) (by decide) rfl ?_
  refine o_iloadN (pc' := 11) Y2 hx (hb hby d1_10) rfl rfl ?_
  refine o_bastore (pc' := 12) (vs' := [(own_i2b p0), (own_i2b p0), (0 : Int32), (0 : Int32), (0 : Int32), (0 : Int32), (0 : Int32), (0 : Int32), (0 : Int32), (0 : Int32), (0 : Int32), (0 : Int32), (0 : Int32)]) Y2 hx hZ e2 A2 ⟨by decide, Nat.le_of_ble_eq_true rfl⟩ (hb hby d1_11) rfl rfl fun T3 h3 X3 e3 W3 A3 => ?_
  have Y3 := own_drop X3 g1
  have P3 := P2.wr W3 (Or.inr (by rw [← hs0]; exact g1))
  refine o_dup (pc' := 13) Y3 hx (hb hby d1_12) rfl rfl ?_
  refine o_iconst (pc' := 14) (x := (2 : Int32)) Y3 hx (hb hby d1_13) (by decide) rfl ?_
  refine o_iloadN (pc' := 15) Y3 hx (hb hby d1_14) rfl rfl ?_
  refine o_bastore (pc' := 16) (vs' := [(own_i2b p0), (own_i2b p0), (own_i2b p0), (0 : Int32), (0 : Int32), (0 : Int32), (0 : Int32), (0 : Int32), (0 : Int32), (0 : Int32), (0 : Int32), (0 : Int32), (0 : Int32)]) Y3 hx hZ e3 A3 ⟨by decide, Nat.le_of_ble_eq_true rfl⟩ (hb hby d1_15) rfl rfl fun T4 h4 X4 e4 W4 A4 => ?_
  have Y4 := own_drop X4 g1
  have P4 := P3.wr W4 (Or.inr (by rw [← hs0]; exact g1))
  refine o_dup (pc' := 17) Y4 hx (hb hby d1_16) rfl rfl ?_
  refine o_iconst (pc' := 18) (x := (3 : Int32)) Y4 hx (hb hby d1_17) (by decide) rfl ?_
  refine o_iloadN (pc' := 19) Y4 hx (hb hby d1_18) rfl rfl ?_
  refine o_bastore (pc' := 20) (vs' := [(own_i2b p0), (own_i2b p0), (own_i2b p0), (own_i2b p0), (0 : Int32), (0 : Int32), (0 : Int32), (0 : Int32), (0 : Int32), (0 : Int32), (0 : Int32), (0 : Int32), (0 : Int32)]) Y4 hx hZ e4 A4 ⟨by decide, Nat.le_of_ble_eq_true rfl⟩ (hb hby d1_19) rfl rfl fun T5 h5 X5 e5 W5 A5 => ?_
  have Y5 := own_drop X5 g1
  have P5 := P4.wr W5 (Or.inr (by rw [← hs0]; exact g1))
  refine o_dup (pc' := 21) Y5 hx (hb hby d1_20) rfl rfl ?_
  refine o_iconst (pc' := 22) (x := (4 : Int32)) Y5 hx (hb hby d1_21) (by decide) rfl ?_
  refine o_iloadN (pc' := 23) Y5 hx (hb hby d1_22) rfl rfl ?_
  refine o_bastore (pc' := 24) (vs' := [(own_i2b p0), (own_i2b p0), (own_i2b p0), (own_i2b p0), (own_i2b p0), (0 : Int32), (0 : Int32), (0 : Int32), (0 : Int32), (0 : Int32), (0 : Int32), (0 : Int32), (0 : Int32)]) Y5 hx hZ e5 A5 ⟨by decide, Nat.le_of_ble_eq_true rfl⟩ (hb hby d1_23) rfl rfl fun T6 h6 X6 e6 W6 A6 => ?_
  have Y6 := own_drop X6 g1
  have P6 := P5.wr W6 (Or.inr (by rw [← hs0]; exact g1))
  refine o_dup (pc' := 25) Y6 hx (hb hby d1_24) rfl rfl ?_
  refine o_iconst (pc' := 26) (x := (5 : Int32)) Y6 hx (hb hby d1_25) (by decide) rfl ?_
  refine o_iloadN (pc' := 27) Y6 hx (hb hby d1_26) rfl rfl ?_
  refine o_bastore (pc' := 28) (vs' := [(own_i2b p0), (own_i2b p0), (own_i2b p0), (own_i2b p0), (own_i2b p0), (own_i2b p0), (0 : Int32), (0 : Int32), (0 : Int32), (0 : Int32), (0 : Int32), (0 : Int32), (0 : Int32)]) Y6 hx hZ e6 A6 ⟨by decide, Nat.le_of_ble_eq_true rfl⟩ (hb hby d1_27) rfl rfl fun T7 h7 X7 e7 W7 A7 => ?_
  have Y7 := own_drop X7 g1
  have P7 := P6.wr W7 (Or.inr (by rw [← hs0]; exact g1))
  refine o_dup (pc' := 29) Y7 hx (hb hby d1_28) rfl rfl ?_
  refine o_bipush (pc' := 31) (x := (6 : Int32)) Y7 hx (hb hby d1_29) (by decide) rfl ?_
  refine o_iloadN (pc' := 32) Y7 hx (hb hby d1_31) rfl rfl ?_
  refine o_bastore (pc' := 33) (vs' := [(own_i2b p0), (own_i2b p0), (own_i2b p0), (own_i2b p0), (own_i2b p0), (own_i2b p0), (own_i2b p0), (0 : Int32), (0 : Int32), (0 : Int32), (0 : Int32), (0 : Int32), (0 : Int32)]) Y7 hx hZ e7 A7 ⟨by decide, Nat.le_of_ble_eq_true rfl⟩ (hb hby d1_32) rfl rfl fun T8 h8 X8 e8 W8 A8 => ?_
  have Y8 := own_drop X8 g1
  have P8 := P7.wr W8 (Or.inr (by rw [← hs0]; exact g1))
  refine o_dup (pc' := 34) Y8 hx (hb hby d1_33) rfl rfl ?_
  refine o_bipush (pc' := 36) (x := (7 : Int32)) Y8 hx (hb hby d1_34) (by decide) rfl ?_
  refine o_iloadN (pc' := 37) Y8 hx (hb hby d1_36) rfl rfl ?_
  refine o_bastore (pc' := 38) (vs' := [(own_i2b p0), (own_i2b p0), (own_i2b p0), (own_i2b p0), (own_i2b p0), (own_i2b p0), (own_i2b p0), (own_i2b p0), (0 : Int32), (0 : Int32), (0 : Int32), (0 : Int32), (0 : Int32)]) Y8 hx hZ e8 A8 ⟨by decide, Nat.le_of_ble_eq_true rfl⟩ (hb hby d1_37) rfl rfl fun T9 h9 X9 e9 W9 A9 => ?_
  have Y9 := own_drop X9 g1
  have P9 := P8.wr W9 (Or.inr (by rw [← hs0]; exact g1))
  refine o_dup (pc' := 39) Y9 hx (hb hby d1_38) rfl rfl ?_
  refine o_bipush (pc' := 41) (x := (8 : Int32)) Y9 hx (hb hby d1_39) (by decide) rfl ?_
  refine o_iloadN (pc' := 42) Y9 hx (hb hby d1_41) rfl rfl ?_
  refine o_bastore (pc' := 43) (vs' := [(own_i2b p0), (own_i2b p0), (own_i2b p0), (own_i2b p0), (own_i2b p0), (own_i2b p0), (own_i2b p0), (own_i2b p0), (own_i2b p0), (0 : Int32), (0 : Int32), (0 : Int32), (0 : Int32)]) Y9 hx hZ e9 A9 ⟨by decide, Nat.le_of_ble_eq_true rfl⟩ (hb hby d1_42) rfl rfl fun T10 h10 X10 e10 W10 A10 => ?_
  have Y10 := own_drop X10 g1
  have P10 := P9.wr W10 (Or.inr (by rw [← hs0]; exact g1))
  refine o_dup (pc' := 44) Y10 hx (hb hby d1_43) rfl rfl ?_
  refine o_bipush (pc' := 46) (x := (9 : Int32)) Y10 hx (hb hby d1_44) (by decide) rfl ?_
  refine o_iloadN (pc' := 47) Y10 hx (hb hby d1_46) rfl rfl ?_
  refine o_bastore (pc' := 48) (vs' := [(own_i2b p0), (own_i2b p0), (own_i2b p0), (own_i2b p0), (own_i2b p0), (own_i2b p0), (own_i2b p0), (own_i2b p0), (own_i2b p0), (own_i2b p0), (0 : Int32), (0 : Int32), (0 : Int32)]) Y10 hx hZ e10 A10 ⟨by decide, Nat.le_of_ble_eq_true rfl⟩ (hb hby d1_47) rfl rfl fun T11 h11 X11 e11 W11 A11 => ?_
  have Y11 := own_drop X11 g1
  have P11 := P10.wr W11 (Or.inr (by rw [← hs0]; exact g1))
  refine o_dup (pc' := 49) Y11 hx (hb hby d1_48) rfl rfl ?_
  refine o_bipush (pc' := 51) (x := (10 : Int32)) Y11 hx (hb hby d1_49) (by decide) rfl ?_
  refine o_iloadN (pc' := 52) Y11 hx (hb hby d1_51) rfl rfl ?_
  refine o_bastore (pc' := 53) (vs' := [(own_i2b p0), (own_i2b p0), (own_i2b p0), (own_i2b p0), (own_i2b p0), (own_i2b p0), (own_i2b p0), (own_i2b p0), (own_i2b p0), (own_i2b p0), (own_i2b p0), (0 : Int32), (0 : Int32)]) Y11 hx hZ e11 A11 ⟨by decide, Nat.le_of_ble_eq_true rfl⟩ (hb hby d1_52) rfl rfl fun T12 h12 X12 e12 W12 A12 => ?_
  have Y12 := own_drop X12 g1
  have P12 := P11.wr W12 (Or.inr (by rw [← hs0]; exact g1))
  refine o_dup (pc' := 54) Y12 hx (hb hby d1_53) rfl rfl ?_
  refine o_bipush (pc' := 56) (x := (11 : Int32)) Y12 hx (hb hby d1_54) (by decide) rfl ?_
  refine o_iloadN (pc' := 57) Y12 hx (hb hby d1_56) rfl rfl ?_
  refine o_bastore (pc' := 58) (vs' := [(own_i2b p0), (own_i2b p0), (own_i2b p0), (own_i2b p0), (own_i2b p0), (own_i2b p0), (own_i2b p0), (own_i2b p0), (own_i2b p0), (own_i2b p0), (own_i2b p0), (own_i2b p0), (0 : Int32)]) Y12 hx hZ e12 A12 ⟨by decide, Nat.le_of_ble_eq_true rfl⟩ (hb hby d1_57) rfl rfl fun T13 h13 X13 e13 W13 A13 => ?_
  have Y13 := own_drop X13 g1
  have P13 := P12.wr W13 (Or.inr (by rw [← hs0]; exact g1))
  refine o_dup (pc' := 59) Y13 hx (hb hby d1_58) rfl rfl ?_
  refine o_bipush (pc' := 61) (x := (12 : Int32)) Y13 hx (hb hby d1_59) (by decide) rfl ?_
  refine o_iloadN (pc' := 62) Y13 hx (hb hby d1_61) rfl rfl ?_
  refine o_bastore (pc' := 63) (vs' := [(own_i2b p0), (own_i2b p0), (own_i2b p0), (own_i2b p0), (own_i2b p0), (own_i2b p0), (own_i2b p0), (own_i2b p0), (own_i2b p0), (own_i2b p0), (own_i2b p0), (own_i2b p0), (own_i2b p0)]) Y13 hx hZ e13 A13 ⟨by decide, Nat.le_of_ble_eq_true rfl⟩ (hb hby d1_62) rfl rfl fun T14 h14 X14 e14 W14 A14 => ?_
  have Y14 := own_drop X14 g1
  have P14 := P13.wr W14 (Or.inr (by rw [← hs0]; exact g1))
  exact o_retA Y14 hx hret hlk (hb hby d1_63) (by decide) (by decide) e14 (hK _ _ P14 (by rw [← hs0]; exact g1) A14)

end Body1
theorem pn_BigEndianPutLongPinLaw : plainName "com/example/ledgerline/ledgerline/BigEndianPutLongPinLaw" = true := by first | (simp [plainName, overriddenIn]; done) | decide +kernel
theorem ef_1 (m : MethodId) (p0 : Int32) : entryFrame m #[(.int p0)] 1 = mkF m 0 #[.val (.int p0)] [] := by first | (simp [entryFrame, mkF, argsToLocals, Value.category]; done) | rfl
set_option maxRecDepth 65536 in
set_option maxHeartbeats 40000000 in
theorem rm1 (l : Launch) (Z : State) (ag : Array Value) (hw : ∀ d ∈ tables_1, d.before ag Z = true) (ws : List Jvm.Cond) (p0 : Int32) (h0 : Heap) :
    MetFree l (⟨"com/example/ledgerline/ledgerline/BigEndianPutLongPinLaw", "filled", "(B)[B"⟩ : MethodName) (head1 (Jvm.Cond.code (⟨"com/example/ledgerline/ledgerline/BigEndianPutLongPinLaw", "filled", "(B)[B"⟩ : MethodName) method_2_code 1 (some (.array .byte)) :: ws) R1) (fun a U => a = #[(.int p0)] ∧ Z.Warmed39 U.vm ∧ U.heap = h0) (fun _ _ _ _ _ => True) (fun _ U o U' => ∃ v L, o = .returned v ∧ own_KM Z .byte (f1_0 p0) h0 v U'.heap L ∧ FrameEnd U o U' L R1.cells R1.slots) := by
  refine MetFree.of_bodySF (plainFor_of_name pn_BigEndianPutLongPinLaw) hisR ?_
  intro p e s m args below meth c s₁ Bd hml0 hP hK
  obtain ⟨rfl, hZ, hh⟩ := hP
  have C : own_Cx p s m meth c Z ag method_2_code 1 "com/example/ledgerline/ledgerline/BigEndianPutLongPinLaw" (some (.array .byte)) "filled" := ⟨Bd.exec, hZ, hw, Bd.bytes, hml0, findClass_of_methodNamed Bd.named, Bd.returns, Bd.notSynchronized, (name_of_methodNamed Bd.named Bd.method).1⟩
  have X0 : Stand p l e R1 s m #[(.int p0)] below meth c s₁ [] 0 0 := Stand.of_body Bd
  have e0 : s₁.heap = h0 := by rw [← hh, Bd.state]; rfl
  rw [ef_1]
  exact b1_0 (K := own_KM Z .byte (f1_0 p0) h0) C p0 X0 e0 hh (Keep.refl _ _) (fun h' b q1 q2 q3 => ⟨b, rfl, rfl, q1, q2, q3⟩)

theorem d2_0 : decode prog_2_method_3_code 0 = .ok (.aload_n 0, 1) := by decide +kernel
theorem d2_1 : decode prog_2_method_3_code 1 = .ok (.iload_n 1, 1) := by decide +kernel
theorem d2_2 : decode prog_2_method_3_code 2 = .ok (.lload_n 2, 1) := by decide +kernel
theorem d2_3 : decode prog_2_method_3_code 3 = .ok (.bipush 56, 2) := by decide +kernel
theorem d2_5 : decode prog_2_method_3_code 5 = .ok (.lushr, 1) := by decide +kernel
theorem d2_6 : decode prog_2_method_3_code 6 = .ok (.l2i, 1) := by decide +kernel
theorem d2_7 : decode prog_2_method_3_code 7 = .ok (.i2b, 1) := by decide +kernel
theorem d2_8 : decode prog_2_method_3_code 8 = .ok (.bastore, 1) := by decide +kernel
theorem d2_9 : decode prog_2_method_3_code 9 = .ok (.aload_n 0, 1) := by decide +kernel
theorem d2_10 : decode prog_2_method_3_code 10 = .ok (.iload_n 1, 1) := by decide +kernel
theorem d2_11 : decode prog_2_method_3_code 11 = .ok (.iconst 1, 1) := by decide +kernel
theorem d2_12 : decode prog_2_method_3_code 12 = .ok (.iadd, 1) := by decide +kernel
theorem d2_13 : decode prog_2_method_3_code 13 = .ok (.lload_n 2, 1) := by decide +kernel
theorem d2_14 : decode prog_2_method_3_code 14 = .ok (.bipush 48, 2) := by decide +kernel
theorem d2_16 : decode prog_2_method_3_code 16 = .ok (.lushr, 1) := by decide +kernel
theorem d2_17 : decode prog_2_method_3_code 17 = .ok (.l2i, 1) := by decide +kernel
theorem d2_18 : decode prog_2_method_3_code 18 = .ok (.i2b, 1) := by decide +kernel
theorem d2_19 : decode prog_2_method_3_code 19 = .ok (.bastore, 1) := by decide +kernel
theorem d2_20 : decode prog_2_method_3_code 20 = .ok (.aload_n 0, 1) := by decide +kernel
theorem d2_21 : decode prog_2_method_3_code 21 = .ok (.iload_n 1, 1) := by decide +kernel
theorem d2_22 : decode prog_2_method_3_code 22 = .ok (.iconst 2, 1) := by decide +kernel
theorem d2_23 : decode prog_2_method_3_code 23 = .ok (.iadd, 1) := by decide +kernel
theorem d2_24 : decode prog_2_method_3_code 24 = .ok (.lload_n 2, 1) := by decide +kernel
theorem d2_25 : decode prog_2_method_3_code 25 = .ok (.bipush 40, 2) := by decide +kernel
theorem d2_27 : decode prog_2_method_3_code 27 = .ok (.lushr, 1) := by decide +kernel
theorem d2_28 : decode prog_2_method_3_code 28 = .ok (.l2i, 1) := by decide +kernel
theorem d2_29 : decode prog_2_method_3_code 29 = .ok (.i2b, 1) := by decide +kernel
theorem d2_30 : decode prog_2_method_3_code 30 = .ok (.bastore, 1) := by decide +kernel
theorem d2_31 : decode prog_2_method_3_code 31 = .ok (.aload_n 0, 1) := by decide +kernel
theorem d2_32 : decode prog_2_method_3_code 32 = .ok (.iload_n 1, 1) := by decide +kernel
theorem d2_33 : decode prog_2_method_3_code 33 = .ok (.iconst 3, 1) := by decide +kernel
theorem d2_34 : decode prog_2_method_3_code 34 = .ok (.iadd, 1) := by decide +kernel
theorem d2_35 : decode prog_2_method_3_code 35 = .ok (.lload_n 2, 1) := by decide +kernel
theorem d2_36 : decode prog_2_method_3_code 36 = .ok (.bipush 32, 2) := by decide +kernel
theorem d2_38 : decode prog_2_method_3_code 38 = .ok (.lushr, 1) := by decide +kernel
theorem d2_39 : decode prog_2_method_3_code 39 = .ok (.l2i, 1) := by decide +kernel
theorem d2_40 : decode prog_2_method_3_code 40 = .ok (.i2b, 1) := by decide +kernel
theorem d2_41 : decode prog_2_method_3_code 41 = .ok (.bastore, 1) := by decide +kernel
theorem d2_42 : decode prog_2_method_3_code 42 = .ok (.aload_n 0, 1) := by decide +kernel
theorem d2_43 : decode prog_2_method_3_code 43 = .ok (.iload_n 1, 1) := by decide +kernel
theorem d2_44 : decode prog_2_method_3_code 44 = .ok (.iconst 4, 1) := by decide +kernel
theorem d2_45 : decode prog_2_method_3_code 45 = .ok (.iadd, 1) := by decide +kernel
theorem d2_46 : decode prog_2_method_3_code 46 = .ok (.lload_n 2, 1) := by decide +kernel
theorem d2_47 : decode prog_2_method_3_code 47 = .ok (.bipush 24, 2) := by decide +kernel
theorem d2_49 : decode prog_2_method_3_code 49 = .ok (.lushr, 1) := by decide +kernel
theorem d2_50 : decode prog_2_method_3_code 50 = .ok (.l2i, 1) := by decide +kernel
theorem d2_51 : decode prog_2_method_3_code 51 = .ok (.i2b, 1) := by decide +kernel
theorem d2_52 : decode prog_2_method_3_code 52 = .ok (.bastore, 1) := by decide +kernel
theorem d2_53 : decode prog_2_method_3_code 53 = .ok (.aload_n 0, 1) := by decide +kernel
theorem d2_54 : decode prog_2_method_3_code 54 = .ok (.iload_n 1, 1) := by decide +kernel
theorem d2_55 : decode prog_2_method_3_code 55 = .ok (.iconst 5, 1) := by decide +kernel
theorem d2_56 : decode prog_2_method_3_code 56 = .ok (.iadd, 1) := by decide +kernel
theorem d2_57 : decode prog_2_method_3_code 57 = .ok (.lload_n 2, 1) := by decide +kernel
theorem d2_58 : decode prog_2_method_3_code 58 = .ok (.bipush 16, 2) := by decide +kernel
theorem d2_60 : decode prog_2_method_3_code 60 = .ok (.lushr, 1) := by decide +kernel
theorem d2_61 : decode prog_2_method_3_code 61 = .ok (.l2i, 1) := by decide +kernel
theorem d2_62 : decode prog_2_method_3_code 62 = .ok (.i2b, 1) := by decide +kernel
theorem d2_63 : decode prog_2_method_3_code 63 = .ok (.bastore, 1) := by decide +kernel
theorem d2_64 : decode prog_2_method_3_code 64 = .ok (.aload_n 0, 1) := by decide +kernel
theorem d2_65 : decode prog_2_method_3_code 65 = .ok (.iload_n 1, 1) := by decide +kernel
theorem d2_66 : decode prog_2_method_3_code 66 = .ok (.bipush 6, 2) := by decide +kernel
theorem d2_68 : decode prog_2_method_3_code 68 = .ok (.iadd, 1) := by decide +kernel
theorem d2_69 : decode prog_2_method_3_code 69 = .ok (.lload_n 2, 1) := by decide +kernel
theorem d2_70 : decode prog_2_method_3_code 70 = .ok (.bipush 8, 2) := by decide +kernel
theorem d2_72 : decode prog_2_method_3_code 72 = .ok (.lushr, 1) := by decide +kernel
theorem d2_73 : decode prog_2_method_3_code 73 = .ok (.l2i, 1) := by decide +kernel
theorem d2_74 : decode prog_2_method_3_code 74 = .ok (.i2b, 1) := by decide +kernel
theorem d2_75 : decode prog_2_method_3_code 75 = .ok (.bastore, 1) := by decide +kernel
theorem d2_76 : decode prog_2_method_3_code 76 = .ok (.aload_n 0, 1) := by decide +kernel
theorem d2_77 : decode prog_2_method_3_code 77 = .ok (.iload_n 1, 1) := by decide +kernel
theorem d2_78 : decode prog_2_method_3_code 78 = .ok (.bipush 7, 2) := by decide +kernel
theorem d2_80 : decode prog_2_method_3_code 80 = .ok (.iadd, 1) := by decide +kernel
theorem d2_81 : decode prog_2_method_3_code 81 = .ok (.lload_n 2, 1) := by decide +kernel
theorem d2_82 : decode prog_2_method_3_code 82 = .ok (.l2i, 1) := by decide +kernel
theorem d2_83 : decode prog_2_method_3_code 83 = .ok (.i2b, 1) := by decide +kernel
theorem d2_84 : decode prog_2_method_3_code 84 = .ok (.bastore, 1) := by decide +kernel
theorem d2_85 : decode prog_2_method_3_code 85 = .ok (.return_, 1) := by decide +kernel
section Body2
variable {p : Program} {l : Launch} {e : Env} {s : State} {m : MethodId} {args : Array Value} {below : List Frame} {meth : Method} {c : Code} {Z : State} {ag : Array Value} {K : Option Value → Heap → List Loc → Prop}
abbrev R2 : Room := { frames := 0, cells := 0, slots := 0, locals := 0 }
abbrev cc2 : Nat := 0
abbrev ss2 : Nat := 0
def f2_0 (v0 : List Int32) (p1 : Int32) (q2 : Int64) : List Int32 := (own_set (own_set (own_set (own_set (own_set (own_set (own_set (own_set v0 p1 (own_i2b (own_i2b ((own_lushr q2 (56 : Int32)).toInt32)))) (p1 + (1 : Int32)) (own_i2b (own_i2b ((own_lushr q2 (48 : Int32)).toInt32)))) (p1 + (2 : Int32)) (own_i2b (own_i2b ((own_lushr q2 (40 : Int32)).toInt32)))) (p1 + (3 : Int32)) (own_i2b (own_i2b ((own_lushr q2 (32 : Int32)).toInt32)))) (p1 + (4 : Int32)) (own_i2b (own_i2b ((own_lushr q2 (24 : Int32)).toInt32)))) (p1 + (5 : Int32)) (own_i2b (own_i2b ((own_lushr q2 (16 : Int32)).toInt32)))) (p1 + (6 : Int32)) (own_i2b (own_i2b ((own_lushr q2 (8 : Int32)).toInt32)))) (p1 + (7 : Int32)) (own_i2b (own_i2b q2.toInt32)))
def s2_0 (v0 : List Int32) (p1 : Int32) (q2 : Int64) : Prop := (own_in v0.length p1 ∧ own_in (own_set v0 p1 (own_i2b (own_i2b ((own_lushr q2 (56 : Int32)).toInt32)))).length (p1 + (1 : Int32)) ∧ own_in (own_set (own_set v0 p1 (own_i2b (own_i2b ((own_lushr q2 (56 : Int32)).toInt32)))) (p1 + (1 : Int32)) (own_i2b (own_i2b ((own_lushr q2 (48 : Int32)).toInt32)))).length (p1 + (2 : Int32)) ∧ own_in (own_set (own_set (own_set v0 p1 (own_i2b (own_i2b ((own_lushr q2 (56 : Int32)).toInt32)))) (p1 + (1 : Int32)) (own_i2b (own_i2b ((own_lushr q2 (48 : Int32)).toInt32)))) (p1 + (2 : Int32)) (own_i2b (own_i2b ((own_lushr q2 (40 : Int32)).toInt32)))).length (p1 + (3 : Int32)) ∧ own_in (own_set (own_set (own_set (own_set v0 p1 (own_i2b (own_i2b ((own_lushr q2 (56 : Int32)).toInt32)))) (p1 + (1 : Int32)) (own_i2b (own_i2b ((own_lushr q2 (48 : Int32)).toInt32)))) (p1 + (2 : Int32)) (own_i2b (own_i2b ((own_lushr q2 (40 : Int32)).toInt32)))) (p1 + (3 : Int32)) (own_i2b (own_i2b ((own_lushr q2 (32 : Int32)).toInt32)))).length (p1 + (4 : Int32)) ∧ own_in (own_set (own_set (own_set (own_set (own_set v0 p1 (own_i2b (own_i2b ((own_lushr q2 (56 : Int32)).toInt32)))) (p1 + (1 : Int32)) (own_i2b (own_i2b ((own_lushr q2 (48 : Int32)).toInt32)))) (p1 + (2 : Int32)) (own_i2b (own_i2b ((own_lushr q2 (40 : Int32)).toInt32)))) (p1 + (3 : Int32)) (own_i2b (own_i2b ((own_lushr q2 (32 : Int32)).toInt32)))) (p1 + (4 : Int32)) (own_i2b (own_i2b ((own_lushr q2 (24 : Int32)).toInt32)))).length (p1 + (5 : Int32)) ∧ own_in (own_set (own_set (own_set (own_set (own_set (own_set v0 p1 (own_i2b (own_i2b ((own_lushr q2 (56 : Int32)).toInt32)))) (p1 + (1 : Int32)) (own_i2b (own_i2b ((own_lushr q2 (48 : Int32)).toInt32)))) (p1 + (2 : Int32)) (own_i2b (own_i2b ((own_lushr q2 (40 : Int32)).toInt32)))) (p1 + (3 : Int32)) (own_i2b (own_i2b ((own_lushr q2 (32 : Int32)).toInt32)))) (p1 + (4 : Int32)) (own_i2b (own_i2b ((own_lushr q2 (24 : Int32)).toInt32)))) (p1 + (5 : Int32)) (own_i2b (own_i2b ((own_lushr q2 (16 : Int32)).toInt32)))).length (p1 + (6 : Int32)) ∧ own_in (own_set (own_set (own_set (own_set (own_set (own_set (own_set v0 p1 (own_i2b (own_i2b ((own_lushr q2 (56 : Int32)).toInt32)))) (p1 + (1 : Int32)) (own_i2b (own_i2b ((own_lushr q2 (48 : Int32)).toInt32)))) (p1 + (2 : Int32)) (own_i2b (own_i2b ((own_lushr q2 (40 : Int32)).toInt32)))) (p1 + (3 : Int32)) (own_i2b (own_i2b ((own_lushr q2 (32 : Int32)).toInt32)))) (p1 + (4 : Int32)) (own_i2b (own_i2b ((own_lushr q2 (24 : Int32)).toInt32)))) (p1 + (5 : Int32)) (own_i2b (own_i2b ((own_lushr q2 (16 : Int32)).toInt32)))) (p1 + (6 : Int32)) (own_i2b (own_i2b ((own_lushr q2 (8 : Int32)).toInt32)))).length (p1 + (7 : Int32)) ∧ True)
set_option maxRecDepth 65536 in
set_option maxHeartbeats 40000000 in
theorem b2_0 (C : own_Cx p s m meth c Z ag prog_2_method_3_code 4 "com/example/ledgerline/ledgerline/BigEndian" none "putLong") {T : State} {h : Heap} {h0 : Heap} {L : List Loc} (a0 : Addr) (v0 : List Int32) (p1 : Int32) (q2 : Int64) (X : Stand p l e R2 s m args below meth c T L 0 0) (eT : T.heap = h) (hN : ∀ y ∈ L, y.base = a0) (hKp : Keep h0 h [a0]) (Aa0 : own_AI Z h a0 .byte v0) (hs : s2_0 v0 p1 q2) (hK : ∀ h' L', (∀ y ∈ L', y.base = a0) → Keep h0 h' [a0] → own_AI Z h' a0 .byte (f2_0 v0 p1 q2) → K none h' L') : own_Go p e below (own_Q s K cc2 ss2) T (mkF m 0 #[.val (.ref a0), .val (.int p1), .val (.long q2), .second] []) := by
  obtain ⟨hx, hZ, hw, hby, hml, hown, hret, hlk, hnm⟩ := id C
  unfold f2_0 at hK
  unfold s2_0 at hs
  refine o_aloadN (pc' := 1) X hx (hb hby d2_0) rfl rfl rfl ?_
  refine o_iloadN (pc' := 2) X hx (hb hby d2_1) rfl rfl ?_
  refine o_lloadN (pc' := 3) X hx (hb hby d2_2) rfl rfl ?_
  refine o_bipush (pc' := 5) (x := (56 : Int32)) X hx (hb hby d2_3) (by decide) rfl ?_
  refine o_lushr (pc' := 6)  X hx (hb hby d2_5) rfl rfl ?_
  refine o_l2i (pc' := 7)  X hx (hb hby d2_6) rfl rfl ?_
  refine o_i2b (pc' := 8)  X hx (hb hby d2_7) rfl rfl ?_
  refine o_bastore (pc' := 9) (vs' := (own_set v0 p1 (own_i2b (own_i2b ((own_lushr q2 (56 : Int32)).toInt32))))) X hx hZ eT Aa0 hs.1 (hb hby d2_8) rfl rfl fun T15 h15 X15 e15 W15 A15 => ?_
  have N15 : ∀ y ∈ L ++ [⟨a0, (p1).toNatClampNeg⟩], y.base = a0 := own_snoc hN
  have P15 := hKp.wr W15 (Or.inl (List.mem_singleton.mpr rfl))
  refine o_aloadN (pc' := 10) X15 hx (hb hby d2_9) rfl rfl rfl ?_
  refine o_iloadN (pc' := 11) X15 hx (hb hby d2_10) rfl rfl ?_
  refine o_iconst (pc' := 12) (x := (1 : Int32)) X15 hx (hb hby d2_11) (by decide) rfl ?_
  refine o_iadd (pc' := 13)  X15 hx (hb hby d2_12) rfl rfl ?_
  refine o_lloadN (pc' := 14) X15 hx (hb hby d2_13) rfl rfl ?_
  refine o_bipush (pc' := 16) (x := (48 : Int32)) X15 hx (hb hby d2_14) (by decide) rfl ?_
  refine o_lushr (pc' := 17)  X15 hx (hb hby d2_16) rfl rfl ?_
  refine o_l2i (pc' := 18)  X15 hx (hb hby d2_17) rfl rfl ?_
  refine o_i2b (pc' := 19)  X15 hx (hb hby d2_18) rfl rfl ?_
  refine o_bastore (pc' := 20) (vs' := (own_set (own_set v0 p1 (own_i2b (own_i2b ((own_lushr q2 (56 : Int32)).toInt32)))) (p1 + (1 : Int32)) (own_i2b (own_i2b ((own_lushr q2 (48 : Int32)).toInt32))))) X15 hx hZ e15 A15 hs.2.1 (hb hby d2_19) rfl rfl fun T16 h16 X16 e16 W16 A16 => ?_
  have N16 : ∀ y ∈ (L ++ [⟨a0, (p1).toNatClampNeg⟩]) ++ [⟨a0, ((p1 + (1 : Int32))).toNatClampNeg⟩], y.base = a0 := own_snoc N15
  have P16 := P15.wr W16 (Or.inl (List.mem_singleton.mpr rfl))
  refine o_aloadN (pc' := 21) X16 hx (hb hby d2_20) rfl rfl rfl ?_
  refine o_iloadN (pc' := 22) X16 hx (hb hby d2_21) rfl rfl ?_
  refine o_iconst (pc' := 23) (x := (2 : Int32)) X16 hx (hb hby d2_22) (by decide) rfl ?_
  refine o_iadd (pc' := 24)  X16 hx (hb hby d2_23) rfl rfl ?_
  refine o_lloadN (pc' := 25) X16 hx (hb hby d2_24) rfl rfl ?_
  refine o_bipush (pc' := 27) (x := (40 : Int32)) X16 hx (hb hby d2_25) (by decide) rfl ?_
  refine o_lushr (pc' := 28)  X16 hx (hb hby d2_27) rfl rfl ?_
  refine o_l2i (pc' := 29)  X16 hx (hb hby d2_28) rfl rfl ?_
  refine o_i2b (pc' := 30)  X16 hx (hb hby d2_29) rfl rfl ?_
  refine o_bastore (pc' := 31) (vs' := (own_set (own_set (own_set v0 p1 (own_i2b (own_i2b ((own_lushr q2 (56 : Int32)).toInt32)))) (p1 + (1 : Int32)) (own_i2b (own_i2b ((own_lushr q2 (48 : Int32)).toInt32)))) (p1 + (2 : Int32)) (own_i2b (own_i2b ((own_lushr q2 (40 : Int32)).toInt32))))) X16 hx hZ e16 A16 hs.2.2.1 (hb hby d2_30) rfl rfl fun T17 h17 X17 e17 W17 A17 => ?_
  have N17 : ∀ y ∈ ((L ++ [⟨a0, (p1).toNatClampNeg⟩]) ++ [⟨a0, ((p1 + (1 : Int32))).toNatClampNeg⟩]) ++ [⟨a0, ((p1 + (2 : Int32))).toNatClampNeg⟩], y.base = a0 := own_snoc N16
  have P17 := P16.wr W17 (Or.inl (List.mem_singleton.mpr rfl))
  refine o_aloadN (pc' := 32) X17 hx (hb hby d2_31) rfl rfl rfl ?_
  refine o_iloadN (pc' := 33) X17 hx (hb hby d2_32) rfl rfl ?_
  refine o_iconst (pc' := 34) (x := (3 : Int32)) X17 hx (hb hby d2_33) (by decide) rfl ?_
  refine o_iadd (pc' := 35)  X17 hx (hb hby d2_34) rfl rfl ?_
  refine o_lloadN (pc' := 36) X17 hx (hb hby d2_35) rfl rfl ?_
  refine o_bipush (pc' := 38) (x := (32 : Int32)) X17 hx (hb hby d2_36) (by decide) rfl ?_
  refine o_lushr (pc' := 39)  X17 hx (hb hby d2_38) rfl rfl ?_
  refine o_l2i (pc' := 40)  X17 hx (hb hby d2_39) rfl rfl ?_
  refine o_i2b (pc' := 41)  X17 hx (hb hby d2_40) rfl rfl ?_
  refine o_bastore (pc' := 42) (vs' := (own_set (own_set (own_set (own_set v0 p1 (own_i2b (own_i2b ((own_lushr q2 (56 : Int32)).toInt32)))) (p1 + (1 : Int32)) (own_i2b (own_i2b ((own_lushr q2 (48 : Int32)).toInt32)))) (p1 + (2 : Int32)) (own_i2b (own_i2b ((own_lushr q2 (40 : Int32)).toInt32)))) (p1 + (3 : Int32)) (own_i2b (own_i2b ((own_lushr q2 (32 : Int32)).toInt32))))) X17 hx hZ e17 A17 hs.2.2.2.1 (hb hby d2_41) rfl rfl fun T18 h18 X18 e18 W18 A18 => ?_
  have N18 : ∀ y ∈ (((L ++ [⟨a0, (p1).toNatClampNeg⟩]) ++ [⟨a0, ((p1 + (1 : Int32))).toNatClampNeg⟩]) ++ [⟨a0, ((p1 + (2 : Int32))).toNatClampNeg⟩]) ++ [⟨a0, ((p1 + (3 : Int32))).toNatClampNeg⟩], y.base = a0 := own_snoc N17
  have P18 := P17.wr W18 (Or.inl (List.mem_singleton.mpr rfl))
  refine o_aloadN (pc' := 43) X18 hx (hb hby d2_42) rfl rfl rfl ?_
  refine o_iloadN (pc' := 44) X18 hx (hb hby d2_43) rfl rfl ?_
  refine o_iconst (pc' := 45) (x := (4 : Int32)) X18 hx (hb hby d2_44) (by decide) rfl ?_
  refine o_iadd (pc' := 46)  X18 hx (hb hby d2_45) rfl rfl ?_
  refine o_lloadN (pc' := 47) X18 hx (hb hby d2_46) rfl rfl ?_
  refine o_bipush (pc' := 49) (x := (24 : Int32)) X18 hx (hb hby d2_47) (by decide) rfl ?_
  refine o_lushr (pc' := 50)  X18 hx (hb hby d2_49) rfl rfl ?_
  refine o_l2i (pc' := 51)  X18 hx (hb hby d2_50) rfl rfl ?_
  refine o_i2b (pc' := 52)  X18 hx (hb hby d2_51) rfl rfl ?_
  refine o_bastore (pc' := 53) (vs' := (own_set (own_set (own_set (own_set (own_set v0 p1 (own_i2b (own_i2b ((own_lushr q2 (56 : Int32)).toInt32)))) (p1 + (1 : Int32)) (own_i2b (own_i2b ((own_lushr q2 (48 : Int32)).toInt32)))) (p1 + (2 : Int32)) (own_i2b (own_i2b ((own_lushr q2 (40 : Int32)).toInt32)))) (p1 + (3 : Int32)) (own_i2b (own_i2b ((own_lushr q2 (32 : Int32)).toInt32)))) (p1 + (4 : Int32)) (own_i2b (own_i2b ((own_lushr q2 (24 : Int32)).toInt32))))) X18 hx hZ e18 A18 hs.2.2.2.2.1 (hb hby d2_52) rfl rfl fun T19 h19 X19 e19 W19 A19 => ?_
  have N19 : ∀ y ∈ ((((L ++ [⟨a0, (p1).toNatClampNeg⟩]) ++ [⟨a0, ((p1 + (1 : Int32))).toNatClampNeg⟩]) ++ [⟨a0, ((p1 + (2 : Int32))).toNatClampNeg⟩]) ++ [⟨a0, ((p1 + (3 : Int32))).toNatClampNeg⟩]) ++ [⟨a0, ((p1 + (4 : Int32))).toNatClampNeg⟩], y.base = a0 := own_snoc N18
  have P19 := P18.wr W19 (Or.inl (List.mem_singleton.mpr rfl))
  refine o_aloadN (pc' := 54) X19 hx (hb hby d2_53) rfl rfl rfl ?_
  refine o_iloadN (pc' := 55) X19 hx (hb hby d2_54) rfl rfl ?_
  refine o_iconst (pc' := 56) (x := (5 : Int32)) X19 hx (hb hby d2_55) (by decide) rfl ?_
  refine o_iadd (pc' := 57)  X19 hx (hb hby d2_56) rfl rfl ?_
  refine o_lloadN (pc' := 58) X19 hx (hb hby d2_57) rfl rfl ?_
  refine o_bipush (pc' := 60) (x := (16 : Int32)) X19 hx (hb hby d2_58) (by decide) rfl ?_
  refine o_lushr (pc' := 61)  X19 hx (hb hby d2_60) rfl rfl ?_
  refine o_l2i (pc' := 62)  X19 hx (hb hby d2_61) rfl rfl ?_
  refine o_i2b (pc' := 63)  X19 hx (hb hby d2_62) rfl rfl ?_
  refine o_bastore (pc' := 64) (vs' := (own_set (own_set (own_set (own_set (own_set (own_set v0 p1 (own_i2b (own_i2b ((own_lushr q2 (56 : Int32)).toInt32)))) (p1 + (1 : Int32)) (own_i2b (own_i2b ((own_lushr q2 (48 : Int32)).toInt32)))) (p1 + (2 : Int32)) (own_i2b (own_i2b ((own_lushr q2 (40 : Int32)).toInt32)))) (p1 + (3 : Int32)) (own_i2b (own_i2b ((own_lushr q2 (32 : Int32)).toInt32)))) (p1 + (4 : Int32)) (own_i2b (own_i2b ((own_lushr q2 (24 : Int32)).toInt32)))) (p1 + (5 : Int32)) (own_i2b (own_i2b ((own_lushr q2 (16 : Int32)).toInt32))))) X19 hx hZ e19 A19 hs.2.2.2.2.2.1 (hb hby d2_63) rfl rfl fun T20 h20 X20 e20 W20 A20 => ?_
  have N20 : ∀ y ∈ (((((L ++ [⟨a0, (p1).toNatClampNeg⟩]) ++ [⟨a0, ((p1 + (1 : Int32))).toNatClampNeg⟩]) ++ [⟨a0, ((p1 + (2 : Int32))).toNatClampNeg⟩]) ++ [⟨a0, ((p1 + (3 : Int32))).toNatClampNeg⟩]) ++ [⟨a0, ((p1 + (4 : Int32))).toNatClampNeg⟩]) ++ [⟨a0, ((p1 + (5 : Int32))).toNatClampNeg⟩], y.base = a0 := own_snoc N19
  have P20 := P19.wr W20 (Or.inl (List.mem_singleton.mpr rfl))
  refine o_aloadN (pc' := 65) X20 hx (hb hby d2_64) rfl rfl rfl ?_
  refine o_iloadN (pc' := 66) X20 hx (hb hby d2_65) rfl rfl ?_
  refine o_bipush (pc' := 68) (x := (6 : Int32)) X20 hx (hb hby d2_66) (by decide) rfl ?_
  refine o_iadd (pc' := 69)  X20 hx (hb hby d2_68) rfl rfl ?_
  refine o_lloadN (pc' := 70) X20 hx (hb hby d2_69) rfl rfl ?_
  refine o_bipush (pc' := 72) (x := (8 : Int32)) X20 hx (hb hby d2_70) (by decide) rfl ?_
  refine o_lushr (pc' := 73)  X20 hx (hb hby d2_72) rfl rfl ?_
  refine o_l2i (pc' := 74)  X20 hx (hb hby d2_73) rfl rfl ?_
  refine o_i2b (pc' := 75)  X20 hx (hb hby d2_74) rfl rfl ?_
  refine o_bastore (pc' := 76) (vs' := (own_set (own_set (own_set (own_set (own_set (own_set (own_set v0 p1 (own_i2b (own_i2b ((own_lushr q2 (56 : Int32)).toInt32)))) (p1 + (1 : Int32)) (own_i2b (own_i2b ((own_lushr q2 (48 : Int32)).toInt32)))) (p1 + (2 : Int32)) (own_i2b (own_i2b ((own_lushr q2 (40 : Int32)).toInt32)))) (p1 + (3 : Int32)) (own_i2b (own_i2b ((own_lushr q2 (32 : Int32)).toInt32)))) (p1 + (4 : Int32)) (own_i2b (own_i2b ((own_lushr q2 (24 : Int32)).toInt32)))) (p1 + (5 : Int32)) (own_i2b (own_i2b ((own_lushr q2 (16 : Int32)).toInt32)))) (p1 + (6 : Int32)) (own_i2b (own_i2b ((own_lushr q2 (8 : Int32)).toInt32))))) X20 hx hZ e20 A20 hs.2.2.2.2.2.2.1 (hb hby d2_75) rfl rfl fun T21 h21 X21 e21 W21 A21 => ?_
  have N21 : ∀ y ∈ ((((((L ++ [⟨a0, (p1).toNatClampNeg⟩]) ++ [⟨a0, ((p1 + (1 : Int32))).toNatClampNeg⟩]) ++ [⟨a0, ((p1 + (2 : Int32))).toNatClampNeg⟩]) ++ [⟨a0, ((p1 + (3 : Int32))).toNatClampNeg⟩]) ++ [⟨a0, ((p1 + (4 : Int32))).toNatClampNeg⟩]) ++ [⟨a0, ((p1 + (5 : Int32))).toNatClampNeg⟩]) ++ [⟨a0, ((p1 + (6 : Int32))).toNatClampNeg⟩], y.base = a0 := own_snoc N20
  have P21 := P20.wr W21 (Or.inl (List.mem_singleton.mpr rfl))
  refine o_aloadN (pc' := 77) X21 hx (hb hby d2_76) rfl rfl rfl ?_
  refine o_iloadN (pc' := 78) X21 hx (hb hby d2_77) rfl rfl ?_
  refine o_bipush (pc' := 80) (x := (7 : Int32)) X21 hx (hb hby d2_78) (by decide) rfl ?_
  refine o_iadd (pc' := 81)  X21 hx (hb hby d2_80) rfl rfl ?_
  refine o_lloadN (pc' := 82) X21 hx (hb hby d2_81) rfl rfl ?_
  refine o_l2i (pc' := 83)  X21 hx (hb hby d2_82) rfl rfl ?_
  refine o_i2b (pc' := 84)  X21 hx (hb hby d2_83) rfl rfl ?_
  refine o_bastore (pc' := 85) (vs' := (own_set (own_set (own_set (own_set (own_set (own_set (own_set (own_set v0 p1 (own_i2b (own_i2b ((own_lushr q2 (56 : Int32)).toInt32)))) (p1 + (1 : Int32)) (own_i2b (own_i2b ((own_lushr q2 (48 : Int32)).toInt32)))) (p1 + (2 : Int32)) (own_i2b (own_i2b ((own_lushr q2 (40 : Int32)).toInt32)))) (p1 + (3 : Int32)) (own_i2b (own_i2b ((own_lushr q2 (32 : Int32)).toInt32)))) (p1 + (4 : Int32)) (own_i2b (own_i2b ((own_lushr q2 (24 : Int32)).toInt32)))) (p1 + (5 : Int32)) (own_i2b (own_i2b ((own_lushr q2 (16 : Int32)).toInt32)))) (p1 + (6 : Int32)) (own_i2b (own_i2b ((own_lushr q2 (8 : Int32)).toInt32)))) (p1 + (7 : Int32)) (own_i2b (own_i2b q2.toInt32)))) X21 hx hZ e21 A21 hs.2.2.2.2.2.2.2.1 (hb hby d2_84) rfl rfl fun T22 h22 X22 e22 W22 A22 => ?_
  have N22 : ∀ y ∈ (((((((L ++ [⟨a0, (p1).toNatClampNeg⟩]) ++ [⟨a0, ((p1 + (1 : Int32))).toNatClampNeg⟩]) ++ [⟨a0, ((p1 + (2 : Int32))).toNatClampNeg⟩]) ++ [⟨a0, ((p1 + (3 : Int32))).toNatClampNeg⟩]) ++ [⟨a0, ((p1 + (4 : Int32))).toNatClampNeg⟩]) ++ [⟨a0, ((p1 + (5 : Int32))).toNatClampNeg⟩]) ++ [⟨a0, ((p1 + (6 : Int32))).toNatClampNeg⟩]) ++ [⟨a0, ((p1 + (7 : Int32))).toNatClampNeg⟩], y.base = a0 := own_snoc N21
  have P22 := P21.wr W22 (Or.inl (List.mem_singleton.mpr rfl))
  exact o_retV X22 hx hret hlk (hb hby d2_85) (by decide) (by decide) e22 (hK _ _ N22 P22 A22)

end Body2
theorem pn_BigEndian : plainName "com/example/ledgerline/ledgerline/BigEndian" = true := by first | (simp [plainName, overriddenIn]; done) | decide +kernel
theorem ef_2 (m : MethodId) (a0 : Addr) (p1 : Int32) (q2 : Int64) : entryFrame m #[(.ref a0), (.int p1), (.long q2)] 4 = mkF m 0 #[.val (.ref a0), .val (.int p1), .val (.long q2), .second] [] := by first | (simp [entryFrame, mkF, argsToLocals, Value.category]; done) | rfl
set_option maxRecDepth 65536 in
set_option maxHeartbeats 40000000 in
theorem rm2 (l : Launch) (Z : State) (ag : Array Value) (hw : ∀ d ∈ tables_1, d.before ag Z = true) (ws : List Jvm.Cond) (a0 : Addr) (v0 : List Int32) (p1 : Int32) (q2 : Int64) (h0 : Heap) (Aa0 : own_AI Z h0 a0 .byte v0) (hs : s2_0 v0 p1 q2) :
    MetFree l (⟨"com/example/ledgerline/ledgerline/BigEndian", "putLong", "([BIJ)V"⟩ : MethodName) (head1 (Jvm.Cond.code (⟨"com/example/ledgerline/ledgerline/BigEndian", "putLong", "([BIJ)V"⟩ : MethodName) prog_2_method_3_code 4 none :: ws) R2) (fun a U => a = #[(.ref a0), (.int p1), (.long q2)] ∧ Z.Warmed39 U.vm ∧ U.heap = h0) (fun _ _ _ _ _ => True) (fun _ U o U' => ∃ v L, o = .returned v ∧ own_KW Z a0 .byte (f2_0 v0 p1 q2) h0 v U'.heap L ∧ FrameEnd U o U' L R2.cells R2.slots) := by
  refine MetFree.of_bodySF (plainFor_of_name pn_BigEndian) hisR ?_
  intro p e s m args below meth c s₁ Bd hml0 hP hK
  obtain ⟨rfl, hZ, hh⟩ := hP
  have C : own_Cx p s m meth c Z ag prog_2_method_3_code 4 "com/example/ledgerline/ledgerline/BigEndian" none "putLong" := ⟨Bd.exec, hZ, hw, Bd.bytes, hml0, findClass_of_methodNamed Bd.named, Bd.returns, Bd.notSynchronized, (name_of_methodNamed Bd.named Bd.method).1⟩
  have X0 : Stand p l e R2 s m #[(.ref a0), (.int p1), (.long q2)] below meth c s₁ [] 0 0 := Stand.of_body Bd
  have e0 : s₁.heap = h0 := by rw [← hh, Bd.state]; rfl
  rw [ef_2]
  exact b2_0 (K := own_KW Z a0 .byte (f2_0 v0 p1 q2) h0) C a0 v0 p1 q2 X0 e0 (fun _ q => nomatch q) (Keep.refl _ _) Aa0 hs (fun h' L' q1 q2 q3 => ⟨rfl, q1, q2, q3⟩)

theorem d3_0 : decode prog_2_method_2_code 0 = .ok (.aload_n 0, 1) := by decide +kernel
theorem d3_1 : decode prog_2_method_2_code 1 = .ok (.iload_n 1, 1) := by decide +kernel
theorem d3_2 : decode prog_2_method_2_code 2 = .ok (.iload_n 2, 1) := by decide +kernel
theorem d3_3 : decode prog_2_method_2_code 3 = .ok (.bipush 24, 2) := by decide +kernel
theorem d3_5 : decode prog_2_method_2_code 5 = .ok (.iushr, 1) := by decide +kernel
theorem d3_6 : decode prog_2_method_2_code 6 = .ok (.i2b, 1) := by decide +kernel
theorem d3_7 : decode prog_2_method_2_code 7 = .ok (.bastore, 1) := by decide +kernel
theorem d3_8 : decode prog_2_method_2_code 8 = .ok (.aload_n 0, 1) := by decide +kernel
theorem d3_9 : decode prog_2_method_2_code 9 = .ok (.iload_n 1, 1) := by decide +kernel
theorem d3_10 : decode prog_2_method_2_code 10 = .ok (.iconst 1, 1) := by decide +kernel
theorem d3_11 : decode prog_2_method_2_code 11 = .ok (.iadd, 1) := by decide +kernel
theorem d3_12 : decode prog_2_method_2_code 12 = .ok (.iload_n 2, 1) := by decide +kernel
theorem d3_13 : decode prog_2_method_2_code 13 = .ok (.bipush 16, 2) := by decide +kernel
theorem d3_15 : decode prog_2_method_2_code 15 = .ok (.iushr, 1) := by decide +kernel
theorem d3_16 : decode prog_2_method_2_code 16 = .ok (.i2b, 1) := by decide +kernel
theorem d3_17 : decode prog_2_method_2_code 17 = .ok (.bastore, 1) := by decide +kernel
theorem d3_18 : decode prog_2_method_2_code 18 = .ok (.aload_n 0, 1) := by decide +kernel
theorem d3_19 : decode prog_2_method_2_code 19 = .ok (.iload_n 1, 1) := by decide +kernel
theorem d3_20 : decode prog_2_method_2_code 20 = .ok (.iconst 2, 1) := by decide +kernel
theorem d3_21 : decode prog_2_method_2_code 21 = .ok (.iadd, 1) := by decide +kernel
theorem d3_22 : decode prog_2_method_2_code 22 = .ok (.iload_n 2, 1) := by decide +kernel
theorem d3_23 : decode prog_2_method_2_code 23 = .ok (.bipush 8, 2) := by decide +kernel
theorem d3_25 : decode prog_2_method_2_code 25 = .ok (.iushr, 1) := by decide +kernel
theorem d3_26 : decode prog_2_method_2_code 26 = .ok (.i2b, 1) := by decide +kernel
theorem d3_27 : decode prog_2_method_2_code 27 = .ok (.bastore, 1) := by decide +kernel
theorem d3_28 : decode prog_2_method_2_code 28 = .ok (.aload_n 0, 1) := by decide +kernel
theorem d3_29 : decode prog_2_method_2_code 29 = .ok (.iload_n 1, 1) := by decide +kernel
theorem d3_30 : decode prog_2_method_2_code 30 = .ok (.iconst 3, 1) := by decide +kernel
theorem d3_31 : decode prog_2_method_2_code 31 = .ok (.iadd, 1) := by decide +kernel
theorem d3_32 : decode prog_2_method_2_code 32 = .ok (.iload_n 2, 1) := by decide +kernel
theorem d3_33 : decode prog_2_method_2_code 33 = .ok (.i2b, 1) := by decide +kernel
theorem d3_34 : decode prog_2_method_2_code 34 = .ok (.bastore, 1) := by decide +kernel
theorem d3_35 : decode prog_2_method_2_code 35 = .ok (.return_, 1) := by decide +kernel
section Body3
variable {p : Program} {l : Launch} {e : Env} {s : State} {m : MethodId} {args : Array Value} {below : List Frame} {meth : Method} {c : Code} {Z : State} {ag : Array Value} {K : Option Value → Heap → List Loc → Prop}
abbrev R3 : Room := { frames := 0, cells := 0, slots := 0, locals := 0 }
abbrev cc3 : Nat := 0
abbrev ss3 : Nat := 0
def f3_0 (v0 : List Int32) (p1 : Int32) (p2 : Int32) : List Int32 := (own_set (own_set (own_set (own_set v0 p1 (own_i2b (own_i2b (own_ushr p2 (24 : Int32))))) (p1 + (1 : Int32)) (own_i2b (own_i2b (own_ushr p2 (16 : Int32))))) (p1 + (2 : Int32)) (own_i2b (own_i2b (own_ushr p2 (8 : Int32))))) (p1 + (3 : Int32)) (own_i2b (own_i2b p2)))
def s3_0 (v0 : List Int32) (p1 : Int32) (p2 : Int32) : Prop := (own_in v0.length p1 ∧ own_in (own_set v0 p1 (own_i2b (own_i2b (own_ushr p2 (24 : Int32))))).length (p1 + (1 : Int32)) ∧ own_in (own_set (own_set v0 p1 (own_i2b (own_i2b (own_ushr p2 (24 : Int32))))) (p1 + (1 : Int32)) (own_i2b (own_i2b (own_ushr p2 (16 : Int32))))).length (p1 + (2 : Int32)) ∧ own_in (own_set (own_set (own_set v0 p1 (own_i2b (own_i2b (own_ushr p2 (24 : Int32))))) (p1 + (1 : Int32)) (own_i2b (own_i2b (own_ushr p2 (16 : Int32))))) (p1 + (2 : Int32)) (own_i2b (own_i2b (own_ushr p2 (8 : Int32))))).length (p1 + (3 : Int32)) ∧ True)
set_option maxRecDepth 65536 in
set_option maxHeartbeats 40000000 in
theorem b3_0 (C : own_Cx p s m meth c Z ag prog_2_method_2_code 3 "com/example/ledgerline/ledgerline/BigEndian" none "putInt") {T : State} {h : Heap} {h0 : Heap} {L : List Loc} (a0 : Addr) (v0 : List Int32) (p1 : Int32) (p2 : Int32) (X : Stand p l e R3 s m args below meth c T L 0 0) (eT : T.heap = h) (hN : ∀ y ∈ L, y.base = a0) (hKp : Keep h0 h [a0]) (Aa0 : own_AI Z h a0 .byte v0) (hs : s3_0 v0 p1 p2) (hK : ∀ h' L', (∀ y ∈ L', y.base = a0) → Keep h0 h' [a0] → own_AI Z h' a0 .byte (f3_0 v0 p1 p2) → K none h' L') : own_Go p e below (own_Q s K cc3 ss3) T (mkF m 0 #[.val (.ref a0), .val (.int p1), .val (.int p2)] []) := by
  obtain ⟨hx, hZ, hw, hby, hml, hown, hret, hlk, hnm⟩ := id C
  unfold f3_0 at hK
  unfold s3_0 at hs
  refine o_aloadN (pc' := 1) X hx (hb hby d3_0) rfl rfl rfl ?_
  refine o_iloadN (pc' := 2) X hx (hb hby d3_1) rfl rfl ?_
  refine o_iloadN (pc' := 3) X hx (hb hby d3_2) rfl rfl ?_
  refine o_bipush (pc' := 5) (x := (24 : Int32)) X hx (hb hby d3_3) (by decide) rfl ?_
  refine o_iushr (pc' := 6)  X hx (hb hby d3_5) rfl rfl ?_
  refine o_i2b (pc' := 7)  X hx (hb hby d3_6) rfl rfl ?_
  refine o_bastore (pc' := 8) (vs' := (own_set v0 p1 (own_i2b (own_i2b (own_ushr p2 (24 : Int32)))))) X hx hZ eT Aa0 hs.1 (hb hby d3_7) rfl rfl fun T23 h23 X23 e23 W23 A23 => ?_
  have N23 : ∀ y ∈ L ++ [⟨a0, (p1).toNatClampNeg⟩], y.base = a0 := own_snoc hN
  have P23 := hKp.wr W23 (Or.inl (List.mem_singleton.mpr rfl))
  refine o_aloadN (pc' := 9) X23 hx (hb hby d3_8) rfl rfl rfl ?_
  refine o_iloadN (pc' := 10) X23 hx (hb hby d3_9) rfl rfl ?_
  refine o_iconst (pc' := 11) (x := (1 : Int32)) X23 hx (hb hby d3_10) (by decide) rfl ?_
  refine o_iadd (pc' := 12)  X23 hx (hb hby d3_11) rfl rfl ?_
  refine o_iloadN (pc' := 13) X23 hx (hb hby d3_12) rfl rfl ?_
  refine o_bipush (pc' := 15) (x := (16 : Int32)) X23 hx (hb hby d3_13) (by decide) rfl ?_
  refine o_iushr (pc' := 16)  X23 hx (hb hby d3_15) rfl rfl ?_
  refine o_i2b (pc' := 17)  X23 hx (hb hby d3_16) rfl rfl ?_
  refine o_bastore (pc' := 18) (vs' := (own_set (own_set v0 p1 (own_i2b (own_i2b (own_ushr p2 (24 : Int32))))) (p1 + (1 : Int32)) (own_i2b (own_i2b (own_ushr p2 (16 : Int32)))))) X23 hx hZ e23 A23 hs.2.1 (hb hby d3_17) rfl rfl fun T24 h24 X24 e24 W24 A24 => ?_
  have N24 : ∀ y ∈ (L ++ [⟨a0, (p1).toNatClampNeg⟩]) ++ [⟨a0, ((p1 + (1 : Int32))).toNatClampNeg⟩], y.base = a0 := own_snoc N23
  have P24 := P23.wr W24 (Or.inl (List.mem_singleton.mpr rfl))
  refine o_aloadN (pc' := 19) X24 hx (hb hby d3_18) rfl rfl rfl ?_
  refine o_iloadN (pc' := 20) X24 hx (hb hby d3_19) rfl rfl ?_
  refine o_iconst (pc' := 21) (x := (2 : Int32)) X24 hx (hb hby d3_20) (by decide) rfl ?_
  refine o_iadd (pc' := 22)  X24 hx (hb hby d3_21) rfl rfl ?_
  refine o_iloadN (pc' := 23) X24 hx (hb hby d3_22) rfl rfl ?_
  refine o_bipush (pc' := 25) (x := (8 : Int32)) X24 hx (hb hby d3_23) (by decide) rfl ?_
  refine o_iushr (pc' := 26)  X24 hx (hb hby d3_25) rfl rfl ?_
  refine o_i2b (pc' := 27)  X24 hx (hb hby d3_26) rfl rfl ?_
  refine o_bastore (pc' := 28) (vs' := (own_set (own_set (own_set v0 p1 (own_i2b (own_i2b (own_ushr p2 (24 : Int32))))) (p1 + (1 : Int32)) (own_i2b (own_i2b (own_ushr p2 (16 : Int32))))) (p1 + (2 : Int32)) (own_i2b (own_i2b (own_ushr p2 (8 : Int32)))))) X24 hx hZ e24 A24 hs.2.2.1 (hb hby d3_27) rfl rfl fun T25 h25 X25 e25 W25 A25 => ?_
  have N25 : ∀ y ∈ ((L ++ [⟨a0, (p1).toNatClampNeg⟩]) ++ [⟨a0, ((p1 + (1 : Int32))).toNatClampNeg⟩]) ++ [⟨a0, ((p1 + (2 : Int32))).toNatClampNeg⟩], y.base = a0 := own_snoc N24
  have P25 := P24.wr W25 (Or.inl (List.mem_singleton.mpr rfl))
  refine o_aloadN (pc' := 29) X25 hx (hb hby d3_28) rfl rfl rfl ?_
  refine o_iloadN (pc' := 30) X25 hx (hb hby d3_29) rfl rfl ?_
  refine o_iconst (pc' := 31) (x := (3 : Int32)) X25 hx (hb hby d3_30) (by decide) rfl ?_
  refine o_iadd (pc' := 32)  X25 hx (hb hby d3_31) rfl rfl ?_
  refine o_iloadN (pc' := 33) X25 hx (hb hby d3_32) rfl rfl ?_
  refine o_i2b (pc' := 34)  X25 hx (hb hby d3_33) rfl rfl ?_
  refine o_bastore (pc' := 35) (vs' := (own_set (own_set (own_set (own_set v0 p1 (own_i2b (own_i2b (own_ushr p2 (24 : Int32))))) (p1 + (1 : Int32)) (own_i2b (own_i2b (own_ushr p2 (16 : Int32))))) (p1 + (2 : Int32)) (own_i2b (own_i2b (own_ushr p2 (8 : Int32))))) (p1 + (3 : Int32)) (own_i2b (own_i2b p2)))) X25 hx hZ e25 A25 hs.2.2.2.1 (hb hby d3_34) rfl rfl fun T26 h26 X26 e26 W26 A26 => ?_
  have N26 : ∀ y ∈ (((L ++ [⟨a0, (p1).toNatClampNeg⟩]) ++ [⟨a0, ((p1 + (1 : Int32))).toNatClampNeg⟩]) ++ [⟨a0, ((p1 + (2 : Int32))).toNatClampNeg⟩]) ++ [⟨a0, ((p1 + (3 : Int32))).toNatClampNeg⟩], y.base = a0 := own_snoc N25
  have P26 := P25.wr W26 (Or.inl (List.mem_singleton.mpr rfl))
  exact o_retV X26 hx hret hlk (hb hby d3_35) (by decide) (by decide) e26 (hK _ _ N26 P26 A26)

end Body3
theorem ef_3 (m : MethodId) (a0 : Addr) (p1 : Int32) (p2 : Int32) : entryFrame m #[(.ref a0), (.int p1), (.int p2)] 3 = mkF m 0 #[.val (.ref a0), .val (.int p1), .val (.int p2)] [] := by first | (simp [entryFrame, mkF, argsToLocals, Value.category]; done) | rfl
set_option maxRecDepth 65536 in
set_option maxHeartbeats 40000000 in
theorem rm3 (l : Launch) (Z : State) (ag : Array Value) (hw : ∀ d ∈ tables_1, d.before ag Z = true) (ws : List Jvm.Cond) (a0 : Addr) (v0 : List Int32) (p1 : Int32) (p2 : Int32) (h0 : Heap) (Aa0 : own_AI Z h0 a0 .byte v0) (hs : s3_0 v0 p1 p2) :
    MetFree l (⟨"com/example/ledgerline/ledgerline/BigEndian", "putInt", "([BII)V"⟩ : MethodName) (head1 (Jvm.Cond.code (⟨"com/example/ledgerline/ledgerline/BigEndian", "putInt", "([BII)V"⟩ : MethodName) prog_2_method_2_code 3 none :: ws) R3) (fun a U => a = #[(.ref a0), (.int p1), (.int p2)] ∧ Z.Warmed39 U.vm ∧ U.heap = h0) (fun _ _ _ _ _ => True) (fun _ U o U' => ∃ v L, o = .returned v ∧ own_KW Z a0 .byte (f3_0 v0 p1 p2) h0 v U'.heap L ∧ FrameEnd U o U' L R3.cells R3.slots) := by
  refine MetFree.of_bodySF (plainFor_of_name pn_BigEndian) hisR ?_
  intro p e s m args below meth c s₁ Bd hml0 hP hK
  obtain ⟨rfl, hZ, hh⟩ := hP
  have C : own_Cx p s m meth c Z ag prog_2_method_2_code 3 "com/example/ledgerline/ledgerline/BigEndian" none "putInt" := ⟨Bd.exec, hZ, hw, Bd.bytes, hml0, findClass_of_methodNamed Bd.named, Bd.returns, Bd.notSynchronized, (name_of_methodNamed Bd.named Bd.method).1⟩
  have X0 : Stand p l e R3 s m #[(.ref a0), (.int p1), (.int p2)] below meth c s₁ [] 0 0 := Stand.of_body Bd
  have e0 : s₁.heap = h0 := by rw [← hh, Bd.state]; rfl
  rw [ef_3]
  exact b3_0 (K := own_KW Z a0 .byte (f3_0 v0 p1 p2) h0) C a0 v0 p1 p2 X0 e0 (fun _ q => nomatch q) (Keep.refl _ _) Aa0 hs (fun h' L' q1 q2 q3 => ⟨rfl, q1, q2, q3⟩)

theorem d4_0 : decode method_3_code 0 = .ok (.aload_n 0, 1) := by decide +kernel
theorem d4_1 : decode method_3_code 1 = .ok (.iconst 0, 1) := by decide +kernel
theorem d4_2 : decode method_3_code 2 = .ok (.baload, 1) := by decide +kernel
theorem d4_3 : decode method_3_code 3 = .ok (.aload_n 1, 1) := by decide +kernel
theorem d4_4 : decode method_3_code 4 = .ok (.iconst 0, 1) := by decide +kernel
theorem d4_5 : decode method_3_code 5 = .ok (.baload, 1) := by decide +kernel
theorem d4_6 : decode method_3_code 6 = .ok (.if_icmp .ne 129, 3) := by decide +kernel
theorem d4_9 : decode method_3_code 9 = .ok (.aload_n 0, 1) := by decide +kernel
theorem d4_10 : decode method_3_code 10 = .ok (.iconst 1, 1) := by decide +kernel
theorem d4_11 : decode method_3_code 11 = .ok (.baload, 1) := by decide +kernel
theorem d4_12 : decode method_3_code 12 = .ok (.aload_n 1, 1) := by decide +kernel
theorem d4_13 : decode method_3_code 13 = .ok (.iconst 1, 1) := by decide +kernel
theorem d4_14 : decode method_3_code 14 = .ok (.baload, 1) := by decide +kernel
theorem d4_15 : decode method_3_code 15 = .ok (.if_icmp .ne 120, 3) := by decide +kernel
theorem d4_18 : decode method_3_code 18 = .ok (.aload_n 0, 1) := by decide +kernel
theorem d4_19 : decode method_3_code 19 = .ok (.iconst 2, 1) := by decide +kernel
theorem d4_20 : decode method_3_code 20 = .ok (.baload, 1) := by decide +kernel
theorem d4_21 : decode method_3_code 21 = .ok (.aload_n 1, 1) := by decide +kernel
theorem d4_22 : decode method_3_code 22 = .ok (.iconst 2, 1) := by decide +kernel
theorem d4_23 : decode method_3_code 23 = .ok (.baload, 1) := by decide +kernel
theorem d4_24 : decode method_3_code 24 = .ok (.if_icmp .ne 111, 3) := by decide +kernel
theorem d4_27 : decode method_3_code 27 = .ok (.aload_n 0, 1) := by decide +kernel
theorem d4_28 : decode method_3_code 28 = .ok (.iconst 3, 1) := by decide +kernel
theorem d4_29 : decode method_3_code 29 = .ok (.baload, 1) := by decide +kernel
theorem d4_30 : decode method_3_code 30 = .ok (.aload_n 1, 1) := by decide +kernel
theorem d4_31 : decode method_3_code 31 = .ok (.iconst 3, 1) := by decide +kernel
theorem d4_32 : decode method_3_code 32 = .ok (.baload, 1) := by decide +kernel
theorem d4_33 : decode method_3_code 33 = .ok (.if_icmp .ne 102, 3) := by decide +kernel
theorem d4_36 : decode method_3_code 36 = .ok (.aload_n 0, 1) := by decide +kernel
theorem d4_37 : decode method_3_code 37 = .ok (.iconst 4, 1) := by decide +kernel
theorem d4_38 : decode method_3_code 38 = .ok (.baload, 1) := by decide +kernel
theorem d4_39 : decode method_3_code 39 = .ok (.aload_n 1, 1) := by decide +kernel
theorem d4_40 : decode method_3_code 40 = .ok (.iconst 4, 1) := by decide +kernel
theorem d4_41 : decode method_3_code 41 = .ok (.baload, 1) := by decide +kernel
theorem d4_42 : decode method_3_code 42 = .ok (.if_icmp .ne 93, 3) := by decide +kernel
theorem d4_45 : decode method_3_code 45 = .ok (.aload_n 0, 1) := by decide +kernel
theorem d4_46 : decode method_3_code 46 = .ok (.iconst 5, 1) := by decide +kernel
theorem d4_47 : decode method_3_code 47 = .ok (.baload, 1) := by decide +kernel
theorem d4_48 : decode method_3_code 48 = .ok (.aload_n 1, 1) := by decide +kernel
theorem d4_49 : decode method_3_code 49 = .ok (.iconst 5, 1) := by decide +kernel
theorem d4_50 : decode method_3_code 50 = .ok (.baload, 1) := by decide +kernel
theorem d4_51 : decode method_3_code 51 = .ok (.if_icmp .ne 84, 3) := by decide +kernel
theorem d4_54 : decode method_3_code 54 = .ok (.aload_n 0, 1) := by decide +kernel
theorem d4_55 : decode method_3_code 55 = .ok (.bipush 6, 2) := by decide +kernel
theorem d4_57 : decode method_3_code 57 = .ok (.baload, 1) := by decide +kernel
theorem d4_58 : decode method_3_code 58 = .ok (.aload_n 1, 1) := by decide +kernel
theorem d4_59 : decode method_3_code 59 = .ok (.bipush 6, 2) := by decide +kernel
theorem d4_61 : decode method_3_code 61 = .ok (.baload, 1) := by decide +kernel
theorem d4_62 : decode method_3_code 62 = .ok (.if_icmp .ne 73, 3) := by decide +kernel
theorem d4_65 : decode method_3_code 65 = .ok (.aload_n 0, 1) := by decide +kernel
theorem d4_66 : decode method_3_code 66 = .ok (.bipush 7, 2) := by decide +kernel
theorem d4_68 : decode method_3_code 68 = .ok (.baload, 1) := by decide +kernel
theorem d4_69 : decode method_3_code 69 = .ok (.aload_n 1, 1) := by decide +kernel
theorem d4_70 : decode method_3_code 70 = .ok (.bipush 7, 2) := by decide +kernel
theorem d4_72 : decode method_3_code 72 = .ok (.baload, 1) := by decide +kernel
theorem d4_73 : decode method_3_code 73 = .ok (.if_icmp .ne 62, 3) := by decide +kernel
theorem d4_76 : decode method_3_code 76 = .ok (.aload_n 0, 1) := by decide +kernel
theorem d4_77 : decode method_3_code 77 = .ok (.bipush 8, 2) := by decide +kernel
theorem d4_79 : decode method_3_code 79 = .ok (.baload, 1) := by decide +kernel
theorem d4_80 : decode method_3_code 80 = .ok (.aload_n 1, 1) := by decide +kernel
theorem d4_81 : decode method_3_code 81 = .ok (.bipush 8, 2) := by decide +kernel
theorem d4_83 : decode method_3_code 83 = .ok (.baload, 1) := by decide +kernel
theorem d4_84 : decode method_3_code 84 = .ok (.if_icmp .ne 51, 3) := by decide +kernel
theorem d4_87 : decode method_3_code 87 = .ok (.aload_n 0, 1) := by decide +kernel
theorem d4_88 : decode method_3_code 88 = .ok (.bipush 9, 2) := by decide +kernel
theorem d4_90 : decode method_3_code 90 = .ok (.baload, 1) := by decide +kernel
theorem d4_91 : decode method_3_code 91 = .ok (.aload_n 1, 1) := by decide +kernel
theorem d4_92 : decode method_3_code 92 = .ok (.bipush 9, 2) := by decide +kernel
theorem d4_94 : decode method_3_code 94 = .ok (.baload, 1) := by decide +kernel
theorem d4_95 : decode method_3_code 95 = .ok (.if_icmp .ne 40, 3) := by decide +kernel
theorem d4_98 : decode method_3_code 98 = .ok (.aload_n 0, 1) := by decide +kernel
theorem d4_99 : decode method_3_code 99 = .ok (.bipush 10, 2) := by decide +kernel
theorem d4_101 : decode method_3_code 101 = .ok (.baload, 1) := by decide +kernel
theorem d4_102 : decode method_3_code 102 = .ok (.aload_n 1, 1) := by decide +kernel
theorem d4_103 : decode method_3_code 103 = .ok (.bipush 10, 2) := by decide +kernel
theorem d4_105 : decode method_3_code 105 = .ok (.baload, 1) := by decide +kernel
theorem d4_106 : decode method_3_code 106 = .ok (.if_icmp .ne 29, 3) := by decide +kernel
theorem d4_109 : decode method_3_code 109 = .ok (.aload_n 0, 1) := by decide +kernel
theorem d4_110 : decode method_3_code 110 = .ok (.bipush 11, 2) := by decide +kernel
theorem d4_112 : decode method_3_code 112 = .ok (.baload, 1) := by decide +kernel
theorem d4_113 : decode method_3_code 113 = .ok (.aload_n 1, 1) := by decide +kernel
theorem d4_114 : decode method_3_code 114 = .ok (.bipush 11, 2) := by decide +kernel
theorem d4_116 : decode method_3_code 116 = .ok (.baload, 1) := by decide +kernel
theorem d4_117 : decode method_3_code 117 = .ok (.if_icmp .ne 18, 3) := by decide +kernel
theorem d4_120 : decode method_3_code 120 = .ok (.aload_n 0, 1) := by decide +kernel
theorem d4_121 : decode method_3_code 121 = .ok (.bipush 12, 2) := by decide +kernel
theorem d4_123 : decode method_3_code 123 = .ok (.baload, 1) := by decide +kernel
theorem d4_124 : decode method_3_code 124 = .ok (.aload_n 1, 1) := by decide +kernel
theorem d4_125 : decode method_3_code 125 = .ok (.bipush 12, 2) := by decide +kernel
theorem d4_127 : decode method_3_code 127 = .ok (.baload, 1) := by decide +kernel
theorem d4_128 : decode method_3_code 128 = .ok (.if_icmp .ne 7, 3) := by decide +kernel
theorem d4_131 : decode method_3_code 131 = .ok (.iconst 1, 1) := by decide +kernel
theorem d4_132 : decode method_3_code 132 = .ok (.goto 4, 3) := by decide +kernel
theorem d4_135 : decode method_3_code 135 = .ok (.iconst 0, 1) := by decide +kernel
theorem d4_136 : decode method_3_code 136 = .ok (.ireturn, 1) := by decide +kernel
section Body4
variable {p : Program} {l : Launch} {e : Env} {s : State} {m : MethodId} {args : Array Value} {below : List Frame} {meth : Method} {c : Code} {Z : State} {ag : Array Value} {K : Option Value → Heap → List Loc → Prop}
abbrev R4 : Room := { frames := 0, cells := 0, slots := 0, locals := 0 }
abbrev cc4 : Nat := 0
abbrev ss4 : Nat := 0
def f4_136 : Int32 := (0 : Int32)
set_option maxRecDepth 65536 in
set_option maxHeartbeats 40000000 in
theorem b4_136 (C : own_Cx p s m meth c Z ag method_3_code 2 "com/example/ledgerline/ledgerline/BigEndianPutLongPinLaw" (some .boolean) "eq13") {T : State} {h : Heap} {z0 : Slot} {z1 : Slot} (X : Stand p l e R4 s m args below meth c T [] 0 0) (eT : T.heap = h) (hz0 : One z0) (hz1 : One z1) (hK : K (some (.int (f4_136))) h []) : own_Go p e below (own_Q s K cc4 ss4) T (mkF m 136 #[z0, z1] [(.int (0 : Int32))]) := by
  obtain ⟨hx, hZ, hw, hby, hml, hown, hret, hlk, hnm⟩ := id C
  unfold f4_136 at hK
  exact o_retN X hx (t := .boolean) hret (by simp) hlk (hb hby d4_136) (by decide) (by decide) eT (hK)

def f4_135 : Int32 := f4_136
set_option maxRecDepth 65536 in
set_option maxHeartbeats 40000000 in
theorem b4_135 (C : own_Cx p s m meth c Z ag method_3_code 2 "com/example/ledgerline/ledgerline/BigEndianPutLongPinLaw" (some .boolean) "eq13") {T : State} {h : Heap} {z0 : Slot} {z1 : Slot} (X : Stand p l e R4 s m args below meth c T [] 0 0) (eT : T.heap = h) (hz0 : One z0) (hz1 : One z1) (hK : K (some (.int (f4_135))) h []) : own_Go p e below (own_Q s K cc4 ss4) T (mkF m 135 #[z0, z1] []) := by
  obtain ⟨hx, hZ, hw, hby, hml, hown, hret, hlk, hnm⟩ := id C
  unfold f4_135 at hK
  refine o_iconst (pc' := 136) (x := (0 : Int32)) X hx (hb hby d4_135) (by decide) rfl ?_
  exact b4_136 C X eT hz0 hz1 hK

def f4_136_3 : Int32 := (1 : Int32)
set_option maxRecDepth 65536 in
set_option maxHeartbeats 40000000 in
theorem b4_136_3 (C : own_Cx p s m meth c Z ag method_3_code 2 "com/example/ledgerline/ledgerline/BigEndianPutLongPinLaw" (some .boolean) "eq13") {T : State} {h : Heap} {z0 : Slot} {z1 : Slot} (X : Stand p l e R4 s m args below meth c T [] 0 0) (eT : T.heap = h) (hz0 : One z0) (hz1 : One z1) (hK : K (some (.int (f4_136_3))) h []) : own_Go p e below (own_Q s K cc4 ss4) T (mkF m 136 #[z0, z1] [(.int (1 : Int32))]) := by
  obtain ⟨hx, hZ, hw, hby, hml, hown, hret, hlk, hnm⟩ := id C
  unfold f4_136_3 at hK
  exact o_retN X hx (t := .boolean) hret (by simp) hlk (hb hby d4_136) (by decide) (by decide) eT (hK)

def f4_0 (v0 : List Int32) (v1 : List Int32) : Int32 := (if (own_get v0 (0 : Int32)) = (own_get v1 (0 : Int32)) then (if (own_get v0 (1 : Int32)) = (own_get v1 (1 : Int32)) then (if (own_get v0 (2 : Int32)) = (own_get v1 (2 : Int32)) then (if (own_get v0 (3 : Int32)) = (own_get v1 (3 : Int32)) then (if (own_get v0 (4 : Int32)) = (own_get v1 (4 : Int32)) then (if (own_get v0 (5 : Int32)) = (own_get v1 (5 : Int32)) then (if (own_get v0 (6 : Int32)) = (own_get v1 (6 : Int32)) then (if (own_get v0 (7 : Int32)) = (own_get v1 (7 : Int32)) then (if (own_get v0 (8 : Int32)) = (own_get v1 (8 : Int32)) then (if (own_get v0 (9 : Int32)) = (own_get v1 (9 : Int32)) then (if (own_get v0 (10 : Int32)) = (own_get v1 (10 : Int32)) then (if (own_get v0 (11 : Int32)) = (own_get v1 (11 : Int32)) then (if (own_get v0 (12 : Int32)) = (own_get v1 (12 : Int32)) then f4_136_3 else f4_135) else f4_135) else f4_135) else f4_135) else f4_135) else f4_135) else f4_135) else f4_135) else f4_135) else f4_135) else f4_135) else f4_135) else f4_135)
def s4_0 (v0 : List Int32) (v1 : List Int32) : Prop := (own_in v0.length (0 : Int32) ∧ own_in v1.length (0 : Int32) ∧ (((own_get v0 (0 : Int32)) = (own_get v1 (0 : Int32)) → (own_in v0.length (1 : Int32) ∧ own_in v1.length (1 : Int32) ∧ (((own_get v0 (1 : Int32)) = (own_get v1 (1 : Int32)) → (own_in v0.length (2 : Int32) ∧ own_in v1.length (2 : Int32) ∧ (((own_get v0 (2 : Int32)) = (own_get v1 (2 : Int32)) → (own_in v0.length (3 : Int32) ∧ own_in v1.length (3 : Int32) ∧ (((own_get v0 (3 : Int32)) = (own_get v1 (3 : Int32)) → (own_in v0.length (4 : Int32) ∧ own_in v1.length (4 : Int32) ∧ (((own_get v0 (4 : Int32)) = (own_get v1 (4 : Int32)) → (own_in v0.length (5 : Int32) ∧ own_in v1.length (5 : Int32) ∧ (((own_get v0 (5 : Int32)) = (own_get v1 (5 : Int32)) → (own_in v0.length (6 : Int32) ∧ own_in v1.length (6 : Int32) ∧ (((own_get v0 (6 : Int32)) = (own_get v1 (6 : Int32)) → (own_in v0.length (7 : Int32) ∧ own_in v1.length (7 : Int32) ∧ (((own_get v0 (7 : Int32)) = (own_get v1 (7 : Int32)) → (own_in v0.length (8 : Int32) ∧ own_in v1.length (8 : Int32) ∧ (((own_get v0 (8 : Int32)) = (own_get v1 (8 : Int32)) → (own_in v0.length (9 : Int32) ∧ own_in v1.length (9 : Int32) ∧ (((own_get v0 (9 : Int32)) = (own_get v1 (9 : Int32)) → (own_in v0.length (10 : Int32) ∧ own_in v1.length (10 : Int32) ∧ (((own_get v0 (10 : Int32)) = (own_get v1 (10 : Int32)) → (own_in v0.length (11 : Int32) ∧ own_in v1.length (11 : Int32) ∧ (((own_get v0 (11 : Int32)) = (own_get v1 (11 : Int32)) → (own_in v0.length (12 : Int32) ∧ own_in v1.length (12 : Int32) ∧ True)) ∧ (¬ ((own_get v0 (11 : Int32)) = (own_get v1 (11 : Int32))) → True)))) ∧ (¬ ((own_get v0 (10 : Int32)) = (own_get v1 (10 : Int32))) → True)))) ∧ (¬ ((own_get v0 (9 : Int32)) = (own_get v1 (9 : Int32))) → True)))) ∧ (¬ ((own_get v0 (8 : Int32)) = (own_get v1 (8 : Int32))) → True)))) ∧ (¬ ((own_get v0 (7 : Int32)) = (own_get v1 (7 : Int32))) → True)))) ∧ (¬ ((own_get v0 (6 : Int32)) = (own_get v1 (6 : Int32))) → True)))) ∧ (¬ ((own_get v0 (5 : Int32)) = (own_get v1 (5 : Int32))) → True)))) ∧ (¬ ((own_get v0 (4 : Int32)) = (own_get v1 (4 : Int32))) → True)))) ∧ (¬ ((own_get v0 (3 : Int32)) = (own_get v1 (3 : Int32))) → True)))) ∧ (¬ ((own_get v0 (2 : Int32)) = (own_get v1 (2 : Int32))) → True)))) ∧ (¬ ((own_get v0 (1 : Int32)) = (own_get v1 (1 : Int32))) → True)))) ∧ (¬ ((own_get v0 (0 : Int32)) = (own_get v1 (0 : Int32))) → True)))
set_option maxRecDepth 65536 in
set_option maxHeartbeats 40000000 in
theorem b4_0 (C : own_Cx p s m meth c Z ag method_3_code 2 "com/example/ledgerline/ledgerline/BigEndianPutLongPinLaw" (some .boolean) "eq13") {T : State} {h : Heap} (a0 : Addr) (v0 : List Int32) (a1 : Addr) (v1 : List Int32) (X : Stand p l e R4 s m args below meth c T [] 0 0) (eT : T.heap = h) (Aa0 : own_AI Z h a0 .byte v0) (Aa1 : own_AI Z h a1 .byte v1) (hs : s4_0 v0 v1) (hK : K (some (.int (f4_0 v0 v1))) h []) : own_Go p e below (own_Q s K cc4 ss4) T (mkF m 0 #[.val (.ref a0), .val (.ref a1)] []) := by
  obtain ⟨hx, hZ, hw, hby, hml, hown, hret, hlk, hnm⟩ := id C
  unfold f4_0 at hK
  unfold s4_0 at hs
  refine o_aloadN (pc' := 1) X hx (hb hby d4_0) rfl rfl rfl ?_
  refine o_iconst (pc' := 2) (x := (0 : Int32)) X hx (hb hby d4_1) (by decide) rfl ?_
  refine o_baload (pc' := 3)  X hx hZ eT Aa0 hs.1 (hb hby d4_2) rfl rfl ?_
  refine o_aloadN (pc' := 4) X hx (hb hby d4_3) rfl rfl rfl ?_
  refine o_iconst (pc' := 5) (x := (0 : Int32)) X hx (hb hby d4_4) (by decide) rfl ?_
  refine o_baload (pc' := 6)  X hx hZ eT Aa1 hs.2.1 (hb hby d4_5) rfl rfl ?_
  refine o_icN (P := (own_get v0 (0 : Int32)) = (own_get v1 (0 : Int32))) (pc1 := 135) (pc2 := 9) X hx XT.ii_ne_f XT.ii_ne_t (hb hby d4_6) (by decide) (by decide) rfl (fun c27 => ?_) (fun c27 => ?_)
  · rw [if_neg c27] at hK
    exact b4_135 C X eT (One.val rfl) (One.val rfl) hK
  · rw [if_pos c27] at hK
    refine o_aloadN (pc' := 10) X hx (hb hby d4_9) rfl rfl rfl ?_
    refine o_iconst (pc' := 11) (x := (1 : Int32)) X hx (hb hby d4_10) (by decide) rfl ?_
    refine o_baload (pc' := 12)  X hx hZ eT Aa0 (hs.2.2.1 c27).1 (hb hby d4_11) rfl rfl ?_
    refine o_aloadN (pc' := 13) X hx (hb hby d4_12) rfl rfl rfl ?_
    refine o_iconst (pc' := 14) (x := (1 : Int32)) X hx (hb hby d4_13) (by decide) rfl ?_
    refine o_baload (pc' := 15)  X hx hZ eT Aa1 (hs.2.2.1 c27).2.1 (hb hby d4_14) rfl rfl ?_
    refine o_icN (P := (own_get v0 (1 : Int32)) = (own_get v1 (1 : Int32))) (pc1 := 135) (pc2 := 18) X hx XT.ii_ne_f XT.ii_ne_t (hb hby d4_15) (by decide) (by decide) rfl (fun c28 => ?_) (fun c28 => ?_)
    · rw [if_neg c28] at hK
      exact b4_135 C X eT (One.val rfl) (One.val rfl) hK
    · rw [if_pos c28] at hK
      refine o_aloadN (pc' := 19) X hx (hb hby d4_18) rfl rfl rfl ?_
      refine o_iconst (pc' := 20) (x := (2 : Int32)) X hx (hb hby d4_19) (by decide) rfl ?_
      refine o_baload (pc' := 21)  X hx hZ eT Aa0 ((hs.2.2.1 c27).2.2.1 c28).1 (hb hby d4_20) rfl rfl ?_
      refine o_aloadN (pc' := 22) X hx (hb hby d4_21) rfl rfl rfl ?_
      refine o_iconst (pc' := 23) (x := (2 : Int32)) X hx (hb hby d4_22) (by decide) rfl ?_
      refine o_baload (pc' := 24)  X hx hZ eT Aa1 ((hs.2.2.1 c27).2.2.1 c28).2.1 (hb hby d4_23) rfl rfl ?_
      refine o_icN (P := (own_get v0 (2 : Int32)) = (own_get v1 (2 : Int32))) (pc1 := 135) (pc2 := 27) X hx XT.ii_ne_f XT.ii_ne_t (hb hby d4_24) (by decide) (by decide) rfl (fun c29 => ?_) (fun c29 => ?_)
      · rw [if_neg c29] at hK
        exact b4_135 C X eT (One.val rfl) (One.val rfl) hK
      · rw [if_pos c29] at hK
        refine o_aloadN (pc' := 28) X hx (hb hby d4_27) rfl rfl rfl ?_
        refine o_iconst (pc' := 29) (x := (3 : Int32)) X hx (hb hby d4_28) (by decide) rfl ?_
        refine o_baload (pc' := 30)  X hx hZ eT Aa0 (((hs.2.2.1 c27).2.2.1 c28).2.2.1 c29).1 (hb hby d4_29) rfl rfl ?_
        refine o_aloadN (pc' := 31) X hx (hb hby d4_30) rfl rfl rfl ?_
        refine o_iconst (pc' := 32) (x := (3 : Int32)) X hx (hb hby d4_31) (by decide) rfl ?_
        refine o_baload (pc' := 33)  X hx hZ eT Aa1 (((hs.2.2.1 c27).2.2.1 c28).2.2.1 c29).2.1 (hb hby d4_32) rfl rfl ?_
        refine o_icN (P := (own_get v0 (3 : Int32)) = (own_get v1 (3 : Int32))) (pc1 := 135) (pc2 := 36) X hx XT.ii_ne_f XT.ii_ne_t (hb hby d4_33) (by decide) (by decide) rfl (fun c30 => ?_) (fun c30 => ?_)
        · rw [if_neg c30] at hK
          exact b4_135 C X eT (One.val rfl) (One.val rfl) hK
        · rw [if_pos c30] at hK
          refine o_aloadN (pc' := 37) X hx (hb hby d4_36) rfl rfl rfl ?_
          refine o_iconst (pc' := 38) (x := (4 : Int32)) X hx (hb hby d4_37) (by decide) rfl ?_
          refine o_baload (pc' := 39)  X hx hZ eT Aa0 ((((hs.2.2.1 c27).2.2.1 c28).2.2.1 c29).2.2.1 c30).1 (hb hby d4_38) rfl rfl ?_
          refine o_aloadN (pc' := 40) X hx (hb hby d4_39) rfl rfl rfl ?_
          refine o_iconst (pc' := 41) (x := (4 : Int32)) X hx (hb hby d4_40) (by decide) rfl ?_
          refine o_baload (pc' := 42)  X hx hZ eT Aa1 ((((hs.2.2.1 c27).2.2.1 c28).2.2.1 c29).2.2.1 c30).2.1 (hb hby d4_41) rfl rfl ?_
          refine o_icN (P := (own_get v0 (4 : Int32)) = (own_get v1 (4 : Int32))) (pc1 := 135) (pc2 := 45) X hx XT.ii_ne_f XT.ii_ne_t (hb hby d4_42) (by decide) (by decide) rfl (fun c31 => ?_) (fun c31 => ?_)
          · rw [if_neg c31] at hK
            exact b4_135 C X eT (One.val rfl) (One.val rfl) hK
          · rw [if_pos c31] at hK
            refine o_aloadN (pc' := 46) X hx (hb hby d4_45) rfl rfl rfl ?_
            refine o_iconst (pc' := 47) (x := (5 : Int32)) X hx (hb hby d4_46) (by decide) rfl ?_
            refine o_baload (pc' := 48)  X hx hZ eT Aa0 (((((hs.2.2.1 c27).2.2.1 c28).2.2.1 c29).2.2.1 c30).2.2.1 c31).1 (hb hby d4_47) rfl rfl ?_
            refine o_aloadN (pc' := 49) X hx (hb hby d4_48) rfl rfl rfl ?_
            refine o_iconst (pc' := 50) (x := (5 : Int32)) X hx (hb hby d4_49) (by decide) rfl ?_
            refine o_baload (pc' := 51)  X hx hZ eT Aa1 (((((hs.2.2.1 c27).2.2.1 c28).2.2.1 c29).2.2.1 c30).2.2.1 c31).2.1 (hb hby d4_50) rfl rfl ?_
            refine o_icN (P := (own_get v0 (5 : Int32)) = (own_get v1 (5 : Int32))) (pc1 := 135) (pc2 := 54) X hx XT.ii_ne_f XT.ii_ne_t (hb hby d4_51) (by decide) (by decide) rfl (fun c32 => ?_) (fun c32 => ?_)
            · rw [if_neg c32] at hK
              exact b4_135 C X eT (One.val rfl) (One.val rfl) hK
            · rw [if_pos c32] at hK
              refine o_aloadN (pc' := 55) X hx (hb hby d4_54) rfl rfl rfl ?_
              refine o_bipush (pc' := 57) (x := (6 : Int32)) X hx (hb hby d4_55) (by decide) rfl ?_
              refine o_baload (pc' := 58)  X hx hZ eT Aa0 ((((((hs.2.2.1 c27).2.2.1 c28).2.2.1 c29).2.2.1 c30).2.2.1 c31).2.2.1 c32).1 (hb hby d4_57) rfl rfl ?_
              refine o_aloadN (pc' := 59) X hx (hb hby d4_58) rfl rfl rfl ?_
              refine o_bipush (pc' := 61) (x := (6 : Int32)) X hx (hb hby d4_59) (by decide) rfl ?_
              refine o_baload (pc' := 62)  X hx hZ eT Aa1 ((((((hs.2.2.1 c27).2.2.1 c28).2.2.1 c29).2.2.1 c30).2.2.1 c31).2.2.1 c32).2.1 (hb hby d4_61) rfl rfl ?_
              refine o_icN (P := (own_get v0 (6 : Int32)) = (own_get v1 (6 : Int32))) (pc1 := 135) (pc2 := 65) X hx XT.ii_ne_f XT.ii_ne_t (hb hby d4_62) (by decide) (by decide) rfl (fun c33 => ?_) (fun c33 => ?_)
              · rw [if_neg c33] at hK
                exact b4_135 C X eT (One.val rfl) (One.val rfl) hK
              · rw [if_pos c33] at hK
                refine o_aloadN (pc' := 66) X hx (hb hby d4_65) rfl rfl rfl ?_
                refine o_bipush (pc' := 68) (x := (7 : Int32)) X hx (hb hby d4_66) (by decide) rfl ?_
                refine o_baload (pc' := 69)  X hx hZ eT Aa0 (((((((hs.2.2.1 c27).2.2.1 c28).2.2.1 c29).2.2.1 c30).2.2.1 c31).2.2.1 c32).2.2.1 c33).1 (hb hby d4_68) rfl rfl ?_
                refine o_aloadN (pc' := 70) X hx (hb hby d4_69) rfl rfl rfl ?_
                refine o_bipush (pc' := 72) (x := (7 : Int32)) X hx (hb hby d4_70) (by decide) rfl ?_
                refine o_baload (pc' := 73)  X hx hZ eT Aa1 (((((((hs.2.2.1 c27).2.2.1 c28).2.2.1 c29).2.2.1 c30).2.2.1 c31).2.2.1 c32).2.2.1 c33).2.1 (hb hby d4_72) rfl rfl ?_
                refine o_icN (P := (own_get v0 (7 : Int32)) = (own_get v1 (7 : Int32))) (pc1 := 135) (pc2 := 76) X hx XT.ii_ne_f XT.ii_ne_t (hb hby d4_73) (by decide) (by decide) rfl (fun c34 => ?_) (fun c34 => ?_)
                · rw [if_neg c34] at hK
                  exact b4_135 C X eT (One.val rfl) (One.val rfl) hK
                · rw [if_pos c34] at hK
                  refine o_aloadN (pc' := 77) X hx (hb hby d4_76) rfl rfl rfl ?_
                  refine o_bipush (pc' := 79) (x := (8 : Int32)) X hx (hb hby d4_77) (by decide) rfl ?_
                  refine o_baload (pc' := 80)  X hx hZ eT Aa0 ((((((((hs.2.2.1 c27).2.2.1 c28).2.2.1 c29).2.2.1 c30).2.2.1 c31).2.2.1 c32).2.2.1 c33).2.2.1 c34).1 (hb hby d4_79) rfl rfl ?_
                  refine o_aloadN (pc' := 81) X hx (hb hby d4_80) rfl rfl rfl ?_
                  refine o_bipush (pc' := 83) (x := (8 : Int32)) X hx (hb hby d4_81) (by decide) rfl ?_
                  refine o_baload (pc' := 84)  X hx hZ eT Aa1 ((((((((hs.2.2.1 c27).2.2.1 c28).2.2.1 c29).2.2.1 c30).2.2.1 c31).2.2.1 c32).2.2.1 c33).2.2.1 c34).2.1 (hb hby d4_83) rfl rfl ?_
                  refine o_icN (P := (own_get v0 (8 : Int32)) = (own_get v1 (8 : Int32))) (pc1 := 135) (pc2 := 87) X hx XT.ii_ne_f XT.ii_ne_t (hb hby d4_84) (by decide) (by decide) rfl (fun c35 => ?_) (fun c35 => ?_)
                  · rw [if_neg c35] at hK
                    exact b4_135 C X eT (One.val rfl) (One.val rfl) hK
                  · rw [if_pos c35] at hK
                    refine o_aloadN (pc' := 88) X hx (hb hby d4_87) rfl rfl rfl ?_
                    refine o_bipush (pc' := 90) (x := (9 : Int32)) X hx (hb hby d4_88) (by decide) rfl ?_
                    refine o_baload (pc' := 91)  X hx hZ eT Aa0 (((((((((hs.2.2.1 c27).2.2.1 c28).2.2.1 c29).2.2.1 c30).2.2.1 c31).2.2.1 c32).2.2.1 c33).2.2.1 c34).2.2.1 c35).1 (hb hby d4_90) rfl rfl ?_
                    refine o_aloadN (pc' := 92) X hx (hb hby d4_91) rfl rfl rfl ?_
                    refine o_bipush (pc' := 94) (x := (9 : Int32)) X hx (hb hby d4_92) (by decide) rfl ?_
                    refine o_baload (pc' := 95)  X hx hZ eT Aa1 (((((((((hs.2.2.1 c27).2.2.1 c28).2.2.1 c29).2.2.1 c30).2.2.1 c31).2.2.1 c32).2.2.1 c33).2.2.1 c34).2.2.1 c35).2.1 (hb hby d4_94) rfl rfl ?_
                    refine o_icN (P := (own_get v0 (9 : Int32)) = (own_get v1 (9 : Int32))) (pc1 := 135) (pc2 := 98) X hx XT.ii_ne_f XT.ii_ne_t (hb hby d4_95) (by decide) (by decide) rfl (fun c36 => ?_) (fun c36 => ?_)
                    · rw [if_neg c36] at hK
                      exact b4_135 C X eT (One.val rfl) (One.val rfl) hK
                    · rw [if_pos c36] at hK
                      refine o_aloadN (pc' := 99) X hx (hb hby d4_98) rfl rfl rfl ?_
                      refine o_bipush (pc' := 101) (x := (10 : Int32)) X hx (hb hby d4_99) (by decide) rfl ?_
                      refine o_baload (pc' := 102)  X hx hZ eT Aa0 ((((((((((hs.2.2.1 c27).2.2.1 c28).2.2.1 c29).2.2.1 c30).2.2.1 c31).2.2.1 c32).2.2.1 c33).2.2.1 c34).2.2.1 c35).2.2.1 c36).1 (hb hby d4_101) rfl rfl ?_
                      refine o_aloadN (pc' := 103) X hx (hb hby d4_102) rfl rfl rfl ?_
                      refine o_bipush (pc' := 105) (x := (10 : Int32)) X hx (hb hby d4_103) (by decide) rfl ?_
                      refine o_baload (pc' := 106)  X hx hZ eT Aa1 ((((((((((hs.2.2.1 c27).2.2.1 c28).2.2.1 c29).2.2.1 c30).2.2.1 c31).2.2.1 c32).2.2.1 c33).2.2.1 c34).2.2.1 c35).2.2.1 c36).2.1 (hb hby d4_105) rfl rfl ?_
                      refine o_icN (P := (own_get v0 (10 : Int32)) = (own_get v1 (10 : Int32))) (pc1 := 135) (pc2 := 109) X hx XT.ii_ne_f XT.ii_ne_t (hb hby d4_106) (by decide) (by decide) rfl (fun c37 => ?_) (fun c37 => ?_)
                      · rw [if_neg c37] at hK
                        exact b4_135 C X eT (One.val rfl) (One.val rfl) hK
                      · rw [if_pos c37] at hK
                        refine o_aloadN (pc' := 110) X hx (hb hby d4_109) rfl rfl rfl ?_
                        refine o_bipush (pc' := 112) (x := (11 : Int32)) X hx (hb hby d4_110) (by decide) rfl ?_
                        refine o_baload (pc' := 113)  X hx hZ eT Aa0 (((((((((((hs.2.2.1 c27).2.2.1 c28).2.2.1 c29).2.2.1 c30).2.2.1 c31).2.2.1 c32).2.2.1 c33).2.2.1 c34).2.2.1 c35).2.2.1 c36).2.2.1 c37).1 (hb hby d4_112) rfl rfl ?_
                        refine o_aloadN (pc' := 114) X hx (hb hby d4_113) rfl rfl rfl ?_
                        refine o_bipush (pc' := 116) (x := (11 : Int32)) X hx (hb hby d4_114) (by decide) rfl ?_
                        refine o_baload (pc' := 117)  X hx hZ eT Aa1 (((((((((((hs.2.2.1 c27).2.2.1 c28).2.2.1 c29).2.2.1 c30).2.2.1 c31).2.2.1 c32).2.2.1 c33).2.2.1 c34).2.2.1 c35).2.2.1 c36).2.2.1 c37).2.1 (hb hby d4_116) rfl rfl ?_
                        refine o_icN (P := (own_get v0 (11 : Int32)) = (own_get v1 (11 : Int32))) (pc1 := 135) (pc2 := 120) X hx XT.ii_ne_f XT.ii_ne_t (hb hby d4_117) (by decide) (by decide) rfl (fun c38 => ?_) (fun c38 => ?_)
                        · rw [if_neg c38] at hK
                          exact b4_135 C X eT (One.val rfl) (One.val rfl) hK
                        · rw [if_pos c38] at hK
                          refine o_aloadN (pc' := 121) X hx (hb hby d4_120) rfl rfl rfl ?_
                          refine o_bipush (pc' := 123) (x := (12 : Int32)) X hx (hb hby d4_121) (by decide) rfl ?_
                          refine o_baload (pc' := 124)  X hx hZ eT Aa0 ((((((((((((hs.2.2.1 c27).2.2.1 c28).2.2.1 c29).2.2.1 c30).2.2.1 c31).2.2.1 c32).2.2.1 c33).2.2.1 c34).2.2.1 c35).2.2.1 c36).2.2.1 c37).2.2.1 c38).1 (hb hby d4_123) rfl rfl ?_
                          refine o_aloadN (pc' := 125) X hx (hb hby d4_124) rfl rfl rfl ?_
                          refine o_bipush (pc' := 127) (x := (12 : Int32)) X hx (hb hby d4_125) (by decide) rfl ?_
                          refine o_baload (pc' := 128)  X hx hZ eT Aa1 ((((((((((((hs.2.2.1 c27).2.2.1 c28).2.2.1 c29).2.2.1 c30).2.2.1 c31).2.2.1 c32).2.2.1 c33).2.2.1 c34).2.2.1 c35).2.2.1 c36).2.2.1 c37).2.2.1 c38).2.1 (hb hby d4_127) rfl rfl ?_
                          refine o_icN (P := (own_get v0 (12 : Int32)) = (own_get v1 (12 : Int32))) (pc1 := 135) (pc2 := 131) X hx XT.ii_ne_f XT.ii_ne_t (hb hby d4_128) (by decide) (by decide) rfl (fun c39 => ?_) (fun c39 => ?_)
                          · rw [if_neg c39] at hK
                            exact b4_135 C X eT (One.val rfl) (One.val rfl) hK
                          · rw [if_pos c39] at hK
                            refine o_iconst (pc' := 132) (x := (1 : Int32)) X hx (hb hby d4_131) (by decide) rfl ?_
                            refine o_goto (pc' := 136) X hx (hb hby d4_132) (by decide) (by decide) ?_
                            exact b4_136_3 C X eT (One.val rfl) (One.val rfl) hK

end Body4
theorem ef_4 (m : MethodId) (a0 : Addr) (a1 : Addr) : entryFrame m #[(.ref a0), (.ref a1)] 2 = mkF m 0 #[.val (.ref a0), .val (.ref a1)] [] := by first | (simp [entryFrame, mkF, argsToLocals, Value.category]; done) | rfl
set_option maxRecDepth 65536 in
set_option maxHeartbeats 40000000 in
theorem rm4 (l : Launch) (Z : State) (ag : Array Value) (hw : ∀ d ∈ tables_1, d.before ag Z = true) (ws : List Jvm.Cond) (a0 : Addr) (v0 : List Int32) (a1 : Addr) (v1 : List Int32) (h0 : Heap) (Aa0 : own_AI Z h0 a0 .byte v0) (Aa1 : own_AI Z h0 a1 .byte v1) (hs : s4_0 v0 v1) :
    MetFree l (⟨"com/example/ledgerline/ledgerline/BigEndianPutLongPinLaw", "eq13", "([B[B)Z"⟩ : MethodName) (head1 (Jvm.Cond.code (⟨"com/example/ledgerline/ledgerline/BigEndianPutLongPinLaw", "eq13", "([B[B)Z"⟩ : MethodName) method_3_code 2 (some .boolean) :: ws) R4) (fun a U => a = #[(.ref a0), (.ref a1)] ∧ Z.Warmed39 U.vm ∧ U.heap = h0) (fun _ _ _ _ _ => True) (fun _ U o U' => ∃ v L, o = .returned v ∧ own_KP (some (.int (f4_0 v0 v1))) h0 v U'.heap L ∧ FrameEnd U o U' L R4.cells R4.slots) := by
  refine MetFree.of_bodySF (plainFor_of_name pn_BigEndianPutLongPinLaw) hisR ?_
  intro p e s m args below meth c s₁ Bd hml0 hP hK
  obtain ⟨rfl, hZ, hh⟩ := hP
  have C : own_Cx p s m meth c Z ag method_3_code 2 "com/example/ledgerline/ledgerline/BigEndianPutLongPinLaw" (some .boolean) "eq13" := ⟨Bd.exec, hZ, hw, Bd.bytes, hml0, findClass_of_methodNamed Bd.named, Bd.returns, Bd.notSynchronized, (name_of_methodNamed Bd.named Bd.method).1⟩
  have X0 : Stand p l e R4 s m #[(.ref a0), (.ref a1)] below meth c s₁ [] 0 0 := Stand.of_body Bd
  have e0 : s₁.heap = h0 := by rw [← hh, Bd.state]; rfl
  rw [ef_4]
  exact b4_0 (K := own_KP (some (.int (f4_0 v0 v1))) h0) C a0 v0 a1 v1 X0 e0 Aa0 Aa1 hs ⟨rfl, rfl, rfl⟩

theorem d6_0 : decode prog_2_method_5_code 0 = .ok (.aload_n 0, 1) := by decide +kernel
theorem d6_1 : decode prog_2_method_5_code 1 = .ok (.iload_n 1, 1) := by decide +kernel
theorem d6_2 : decode prog_2_method_5_code 2 = .ok (.baload, 1) := by decide +kernel
theorem d6_3 : decode prog_2_method_5_code 3 = .ok (.bipush 24, 2) := by decide +kernel
theorem d6_5 : decode prog_2_method_5_code 5 = .ok (.ishl, 1) := by decide +kernel
theorem d6_6 : decode prog_2_method_5_code 6 = .ok (.aload_n 0, 1) := by decide +kernel
theorem d6_7 : decode prog_2_method_5_code 7 = .ok (.iload_n 1, 1) := by decide +kernel
theorem d6_8 : decode prog_2_method_5_code 8 = .ok (.iconst 1, 1) := by decide +kernel
theorem d6_9 : decode prog_2_method_5_code 9 = .ok (.iadd, 1) := by decide +kernel
theorem d6_10 : decode prog_2_method_5_code 10 = .ok (.baload, 1) := by decide +kernel
theorem d6_11 : decode prog_2_method_5_code 11 = .ok (.sipush 255, 3) := by decide +kernel
theorem d6_14 : decode prog_2_method_5_code 14 = .ok (.iand, 1) := by decide +kernel
theorem d6_15 : decode prog_2_method_5_code 15 = .ok (.bipush 16, 2) := by decide +kernel
theorem d6_17 : decode prog_2_method_5_code 17 = .ok (.ishl, 1) := by decide +kernel
theorem d6_18 : decode prog_2_method_5_code 18 = .ok (.ior, 1) := by decide +kernel
theorem d6_19 : decode prog_2_method_5_code 19 = .ok (.aload_n 0, 1) := by decide +kernel
theorem d6_20 : decode prog_2_method_5_code 20 = .ok (.iload_n 1, 1) := by decide +kernel
theorem d6_21 : decode prog_2_method_5_code 21 = .ok (.iconst 2, 1) := by decide +kernel
theorem d6_22 : decode prog_2_method_5_code 22 = .ok (.iadd, 1) := by decide +kernel
theorem d6_23 : decode prog_2_method_5_code 23 = .ok (.baload, 1) := by decide +kernel
theorem d6_24 : decode prog_2_method_5_code 24 = .ok (.sipush 255, 3) := by decide +kernel
theorem d6_27 : decode prog_2_method_5_code 27 = .ok (.iand, 1) := by decide +kernel
theorem d6_28 : decode prog_2_method_5_code 28 = .ok (.bipush 8, 2) := by decide +kernel
theorem d6_30 : decode prog_2_method_5_code 30 = .ok (.ishl, 1) := by decide +kernel
theorem d6_31 : decode prog_2_method_5_code 31 = .ok (.ior, 1) := by decide +kernel
theorem d6_32 : decode prog_2_method_5_code 32 = .ok (.aload_n 0, 1) := by decide +kernel
theorem d6_33 : decode prog_2_method_5_code 33 = .ok (.iload_n 1, 1) := by decide +kernel
theorem d6_34 : decode prog_2_method_5_code 34 = .ok (.iconst 3, 1) := by decide +kernel
theorem d6_35 : decode prog_2_method_5_code 35 = .ok (.iadd, 1) := by decide +kernel
theorem d6_36 : decode prog_2_method_5_code 36 = .ok (.baload, 1) := by decide +kernel
theorem d6_37 : decode prog_2_method_5_code 37 = .ok (.sipush 255, 3) := by decide +kernel
theorem d6_40 : decode prog_2_method_5_code 40 = .ok (.iand, 1) := by decide +kernel
theorem d6_41 : decode prog_2_method_5_code 41 = .ok (.ior, 1) := by decide +kernel
theorem d6_42 : decode prog_2_method_5_code 42 = .ok (.ireturn, 1) := by decide +kernel
section Body6
variable {p : Program} {l : Launch} {e : Env} {s : State} {m : MethodId} {args : Array Value} {below : List Frame} {meth : Method} {c : Code} {Z : State} {ag : Array Value} {K : Option Value → Heap → List Loc → Prop}
abbrev R6 : Room := { frames := 0, cells := 0, slots := 0, locals := 0 }
abbrev cc6 : Nat := 0
abbrev ss6 : Nat := 0
def f6_0 (v0 : List Int32) (p1 : Int32) : Int32 := ((((own_shl (own_get v0 p1) (24 : Int32)) ||| (own_shl ((own_get v0 (p1 + (1 : Int32))) &&& (255 : Int32)) (16 : Int32))) ||| (own_shl ((own_get v0 (p1 + (2 : Int32))) &&& (255 : Int32)) (8 : Int32))) ||| ((own_get v0 (p1 + (3 : Int32))) &&& (255 : Int32)))
def s6_0 (v0 : List Int32) (p1 : Int32) : Prop := (own_in v0.length p1 ∧ own_in v0.length (p1 + (1 : Int32)) ∧ own_in v0.length (p1 + (2 : Int32)) ∧ own_in v0.length (p1 + (3 : Int32)) ∧ True)
set_option maxRecDepth 65536 in
set_option maxHeartbeats 40000000 in
theorem b6_0 (C : own_Cx p s m meth c Z ag prog_2_method_5_code 2 "com/example/ledgerline/ledgerline/BigEndian" (some .int) "getInt") {T : State} {h : Heap} (a0 : Addr) (v0 : List Int32) (p1 : Int32) (X : Stand p l e R6 s m args below meth c T [] 0 0) (eT : T.heap = h) (Aa0 : own_AI Z h a0 .byte v0) (hs : s6_0 v0 p1) (hK : K (some (.int (f6_0 v0 p1))) h []) : own_Go p e below (own_Q s K cc6 ss6) T (mkF m 0 #[.val (.ref a0), .val (.int p1)] []) := by
  obtain ⟨hx, hZ, hw, hby, hml, hown, hret, hlk, hnm⟩ := id C
  unfold f6_0 at hK
  unfold s6_0 at hs
  refine o_aloadN (pc' := 1) X hx (hb hby d6_0) rfl rfl rfl ?_
  refine o_iloadN (pc' := 2) X hx (hb hby d6_1) rfl rfl ?_
  refine o_baload (pc' := 3)  X hx hZ eT Aa0 hs.1 (hb hby d6_2) rfl rfl ?_
  refine o_bipush (pc' := 5) (x := (24 : Int32)) X hx (hb hby d6_3) (by decide) rfl ?_
  refine o_ishl (pc' := 6)  X hx (hb hby d6_5) rfl rfl ?_
  refine o_aloadN (pc' := 7) X hx (hb hby d6_6) rfl rfl rfl ?_
  refine o_iloadN (pc' := 8) X hx (hb hby d6_7) rfl rfl ?_
  refine o_iconst (pc' := 9) (x := (1 : Int32)) X hx (hb hby d6_8) (by decide) rfl ?_
  refine o_iadd (pc' := 10)  X hx (hb hby d6_9) rfl rfl ?_
  refine o_baload (pc' := 11)  X hx hZ eT Aa0 hs.2.1 (hb hby d6_10) rfl rfl ?_
  refine o_sipush (pc' := 14) (x := (255 : Int32)) X hx (hb hby d6_11) (by decide) rfl ?_
  refine o_iand (pc' := 15)  X hx (hb hby d6_14) rfl rfl ?_
  refine o_bipush (pc' := 17) (x := (16 : Int32)) X hx (hb hby d6_15) (by decide) rfl ?_
  refine o_ishl (pc' := 18)  X hx (hb hby d6_17) rfl rfl ?_
  refine o_ior (pc' := 19)  X hx (hb hby d6_18) rfl rfl ?_
  refine o_aloadN (pc' := 20) X hx (hb hby d6_19) rfl rfl rfl ?_
  refine o_iloadN (pc' := 21) X hx (hb hby d6_20) rfl rfl ?_
  refine o_iconst (pc' := 22) (x := (2 : Int32)) X hx (hb hby d6_21) (by decide) rfl ?_
  refine o_iadd (pc' := 23)  X hx (hb hby d6_22) rfl rfl ?_
  refine o_baload (pc' := 24)  X hx hZ eT Aa0 hs.2.2.1 (hb hby d6_23) rfl rfl ?_
  refine o_sipush (pc' := 27) (x := (255 : Int32)) X hx (hb hby d6_24) (by decide) rfl ?_
  refine o_iand (pc' := 28)  X hx (hb hby d6_27) rfl rfl ?_
  refine o_bipush (pc' := 30) (x := (8 : Int32)) X hx (hb hby d6_28) (by decide) rfl ?_
  refine o_ishl (pc' := 31)  X hx (hb hby d6_30) rfl rfl ?_
  refine o_ior (pc' := 32)  X hx (hb hby d6_31) rfl rfl ?_
  refine o_aloadN (pc' := 33) X hx (hb hby d6_32) rfl rfl rfl ?_
  refine o_iloadN (pc' := 34) X hx (hb hby d6_33) rfl rfl ?_
  refine o_iconst (pc' := 35) (x := (3 : Int32)) X hx (hb hby d6_34) (by decide) rfl ?_
  refine o_iadd (pc' := 36)  X hx (hb hby d6_35) rfl rfl ?_
  refine o_baload (pc' := 37)  X hx hZ eT Aa0 hs.2.2.2.1 (hb hby d6_36) rfl rfl ?_
  refine o_sipush (pc' := 40) (x := (255 : Int32)) X hx (hb hby d6_37) (by decide) rfl ?_
  refine o_iand (pc' := 41)  X hx (hb hby d6_40) rfl rfl ?_
  refine o_ior (pc' := 42)  X hx (hb hby d6_41) rfl rfl ?_
  exact o_retI X hx hret hlk (hb hby d6_42) (by decide) (by decide) eT (hK)

end Body6
theorem ef_6 (m : MethodId) (a0 : Addr) (p1 : Int32) : entryFrame m #[(.ref a0), (.int p1)] 2 = mkF m 0 #[.val (.ref a0), .val (.int p1)] [] := by first | (simp [entryFrame, mkF, argsToLocals, Value.category]; done) | rfl
set_option maxRecDepth 65536 in
set_option maxHeartbeats 40000000 in
theorem rm6 (l : Launch) (Z : State) (ag : Array Value) (hw : ∀ d ∈ tables_1, d.before ag Z = true) (ws : List Jvm.Cond) (a0 : Addr) (v0 : List Int32) (p1 : Int32) (h0 : Heap) (Aa0 : own_AI Z h0 a0 .byte v0) (hs : s6_0 v0 p1) :
    MetFree l (⟨"com/example/ledgerline/ledgerline/BigEndian", "getInt", "([BI)I"⟩ : MethodName) (head1 (Jvm.Cond.code (⟨"com/example/ledgerline/ledgerline/BigEndian", "getInt", "([BI)I"⟩ : MethodName) prog_2_method_5_code 2 (some .int) :: ws) R6) (fun a U => a = #[(.ref a0), (.int p1)] ∧ Z.Warmed39 U.vm ∧ U.heap = h0) (fun _ _ _ _ _ => True) (fun _ U o U' => ∃ v L, o = .returned v ∧ own_KP (some (.int (f6_0 v0 p1))) h0 v U'.heap L ∧ FrameEnd U o U' L R6.cells R6.slots) := by
  refine MetFree.of_bodySF (plainFor_of_name pn_BigEndian) hisR ?_
  intro p e s m args below meth c s₁ Bd hml0 hP hK
  obtain ⟨rfl, hZ, hh⟩ := hP
  have C : own_Cx p s m meth c Z ag prog_2_method_5_code 2 "com/example/ledgerline/ledgerline/BigEndian" (some .int) "getInt" := ⟨Bd.exec, hZ, hw, Bd.bytes, hml0, findClass_of_methodNamed Bd.named, Bd.returns, Bd.notSynchronized, (name_of_methodNamed Bd.named Bd.method).1⟩
  have X0 : Stand p l e R6 s m #[(.ref a0), (.int p1)] below meth c s₁ [] 0 0 := Stand.of_body Bd
  have e0 : s₁.heap = h0 := by rw [← hh, Bd.state]; rfl
  rw [ef_6]
  exact b6_0 (K := own_KP (some (.int (f6_0 v0 p1))) h0) C a0 v0 p1 X0 e0 Aa0 hs ⟨rfl, rfl, rfl⟩

theorem d5_0 : decode prog_2_method_6_code 0 = .ok (.aload_n 0, 1) := by decide +kernel
theorem d5_1 : decode prog_2_method_6_code 1 = .ok (.iload_n 1, 1) := by decide +kernel
theorem d5_2 : decode prog_2_method_6_code 2 = .ok (.invokestatic 7, 3) := by decide +kernel
theorem d5_5 : decode prog_2_method_6_code 5 = .ok (.i2l, 1) := by decide +kernel
theorem d5_6 : decode prog_2_method_6_code 6 = .ok (.bipush 32, 2) := by decide +kernel
theorem d5_8 : decode prog_2_method_6_code 8 = .ok (.lshl, 1) := by decide +kernel
theorem d5_9 : decode prog_2_method_6_code 9 = .ok (.aload_n 0, 1) := by decide +kernel
theorem d5_10 : decode prog_2_method_6_code 10 = .ok (.iload_n 1, 1) := by decide +kernel
theorem d5_11 : decode prog_2_method_6_code 11 = .ok (.iconst 4, 1) := by decide +kernel
theorem d5_12 : decode prog_2_method_6_code 12 = .ok (.iadd, 1) := by decide +kernel
theorem d5_13 : decode prog_2_method_6_code 13 = .ok (.invokestatic 7, 3) := by decide +kernel
theorem d5_16 : decode prog_2_method_6_code 16 = .ok (.i2l, 1) := by decide +kernel
theorem d5_17 : decode prog_2_method_6_code 17 = .ok (.ldc2_w 13, 3) := by decide +kernel
theorem d5_20 : decode prog_2_method_6_code 20 = .ok (.land, 1) := by decide +kernel
theorem d5_21 : decode prog_2_method_6_code 21 = .ok (.lor, 1) := by decide +kernel
theorem d5_22 : decode prog_2_method_6_code 22 = .ok (.lreturn, 1) := by decide +kernel
section Body5
variable {p : Program} {l : Launch} {e : Env} {s : State} {m : MethodId} {args : Array Value} {below : List Frame} {meth : Method} {c : Code} {Z : State} {ag : Array Value} {K : Option Value → Heap → List Loc → Prop}
abbrev R5 : Room := { frames := 1, cells := 0, slots := 0, locals := 15 }
abbrev cc5 : Nat := 0
abbrev ss5 : Nat := 0
def f5_0 (v0 : List Int32) (p1 : Int32) : Int64 := ((own_lshl ((f6_0 v0 p1).toInt64) (32 : Int32)) ||| (((f6_0 v0 (p1 + (4 : Int32))).toInt64) &&& (4294967295 : Int64)))
def s5_0 (v0 : List Int32) (p1 : Int32) : Prop := ((s6_0 v0 p1) ∧ (s6_0 v0 (p1 + (4 : Int32))) ∧ True)
set_option maxRecDepth 65536 in
set_option maxHeartbeats 40000000 in
theorem b5_0 (C : own_Cx p s m meth c Z ag prog_2_method_6_code 2 "com/example/ledgerline/ledgerline/BigEndian" (some .long) "getLong") {T : State} {h : Heap} (a0 : Addr) (v0 : List Int32) (p1 : Int32) (X : Stand p l e R5 s m args below meth c T [] 0 0) (eT : T.heap = h) (Aa0 : own_AI Z h a0 .byte v0) (hs : s5_0 v0 p1) (hK : K (some (.long (f5_0 v0 p1))) h []) : own_Go p e below (own_Q s K cc5 ss5) T (mkF m 0 #[.val (.ref a0), .val (.int p1)] []) := by
  obtain ⟨hx, hZ, hw, hby, hml, hown, hret, hlk, hnm⟩ := id C
  unfold f5_0 at hK
  unfold s5_0 at hs
  refine o_aloadN (pc' := 1) X hx (hb hby d5_0) rfl rfl rfl ?_
  refine o_iloadN (pc' := 2) X hx (hb hby d5_1) rfl rfl ?_
  refine o_callP (W := 0) (pc' := 5) (argsL := [(.ref a0), (.int p1)]) (rest := []) (st' := [(.int (f6_0 v0 p1))]) X hx hZ eT hown (hw _ (List.mem_of_getElem? (i := 19) rfl)) (hw _ (List.mem_of_getElem? (i := 20) rfl)) (hw _ (List.mem_of_getElem? (i := 8) rfl)) (hw _ (List.mem_of_getElem? (i := 21) rfl)) (by decide) (rm6 l Z ag hw [] a0 v0 p1 h Aa0 hs.1) (by decide) (by decide) (by rw [hml]; rfl) pd_0 rfl rfl rfl rfl (hb hby d5_2) rfl rfl rfl (by decide) (by decide) rfl fun T40 X40 e40 => ?_
  refine o_i2l (pc' := 6)  X40 hx (hb hby d5_5) rfl rfl ?_
  refine o_bipush (pc' := 8) (x := (32 : Int32)) X40 hx (hb hby d5_6) (by decide) rfl ?_
  refine o_lshl (pc' := 9)  X40 hx (hb hby d5_8) rfl rfl ?_
  refine o_aloadN (pc' := 10) X40 hx (hb hby d5_9) rfl rfl rfl ?_
  refine o_iloadN (pc' := 11) X40 hx (hb hby d5_10) rfl rfl ?_
  refine o_iconst (pc' := 12) (x := (4 : Int32)) X40 hx (hb hby d5_11) (by decide) rfl ?_
  refine o_iadd (pc' := 13)  X40 hx (hb hby d5_12) rfl rfl ?_
  refine o_callP (W := 2) (pc' := 16) (argsL := [(.ref a0), (.int (p1 + (4 : Int32)))]) (rest := [(.long (own_lshl ((f6_0 v0 p1).toInt64) (32 : Int32)))]) (st' := [(.int (f6_0 v0 (p1 + (4 : Int32)))), (.long (own_lshl ((f6_0 v0 p1).toInt64) (32 : Int32)))]) X40 hx hZ e40 hown (hw _ (List.mem_of_getElem? (i := 19) rfl)) (hw _ (List.mem_of_getElem? (i := 20) rfl)) (hw _ (List.mem_of_getElem? (i := 8) rfl)) (hw _ (List.mem_of_getElem? (i := 21) rfl)) (by decide) (rm6 l Z ag hw [] a0 v0 (p1 + (4 : Int32)) h Aa0 hs.2.1) (by decide) (by decide) (by rw [hml]; rfl) pd_0 rfl rfl rfl rfl (hb hby d5_13) rfl rfl rfl (by decide) (by decide) rfl fun T41 X41 e41 => ?_
  refine o_i2l (pc' := 17)  X41 hx (hb hby d5_16) rfl rfl ?_
  refine o_ldcL (pc' := 20) X41 hx hZ hown (hw _ (List.mem_of_getElem? (i := 22) rfl)) (hb hby d5_17) rfl ?_
  refine o_land (pc' := 21)  X41 hx (hb hby d5_20) rfl rfl ?_
  refine o_lor (pc' := 22)  X41 hx (hb hby d5_21) rfl rfl ?_
  exact o_retL X41 hx hret hlk (hb hby d5_22) (by decide) (by decide) e41 (hK)

end Body5
theorem ef_5 (m : MethodId) (a0 : Addr) (p1 : Int32) : entryFrame m #[(.ref a0), (.int p1)] 2 = mkF m 0 #[.val (.ref a0), .val (.int p1)] [] := by first | (simp [entryFrame, mkF, argsToLocals, Value.category]; done) | rfl
set_option maxRecDepth 65536 in
set_option maxHeartbeats 40000000 in
theorem rm5 (l : Launch) (Z : State) (ag : Array Value) (hw : ∀ d ∈ tables_1, d.before ag Z = true) (ws : List Jvm.Cond) (a0 : Addr) (v0 : List Int32) (p1 : Int32) (h0 : Heap) (Aa0 : own_AI Z h0 a0 .byte v0) (hs : s5_0 v0 p1) :
    MetFree l (⟨"com/example/ledgerline/ledgerline/BigEndian", "getLong", "([BI)J"⟩ : MethodName) (head1 (Jvm.Cond.code (⟨"com/example/ledgerline/ledgerline/BigEndian", "getLong", "([BI)J"⟩ : MethodName) prog_2_method_6_code 2 (some .long) :: ws) R5) (fun a U => a = #[(.ref a0), (.int p1)] ∧ Z.Warmed39 U.vm ∧ U.heap = h0) (fun _ _ _ _ _ => True) (fun _ U o U' => ∃ v L, o = .returned v ∧ own_KP (some (.long (f5_0 v0 p1))) h0 v U'.heap L ∧ FrameEnd U o U' L R5.cells R5.slots) := by
  refine MetFree.of_bodySF (plainFor_of_name pn_BigEndian) hisR ?_
  intro p e s m args below meth c s₁ Bd hml0 hP hK
  obtain ⟨rfl, hZ, hh⟩ := hP
  have C : own_Cx p s m meth c Z ag prog_2_method_6_code 2 "com/example/ledgerline/ledgerline/BigEndian" (some .long) "getLong" := ⟨Bd.exec, hZ, hw, Bd.bytes, hml0, findClass_of_methodNamed Bd.named, Bd.returns, Bd.notSynchronized, (name_of_methodNamed Bd.named Bd.method).1⟩
  have X0 : Stand p l e R5 s m #[(.ref a0), (.int p1)] below meth c s₁ [] 0 0 := Stand.of_body Bd
  have e0 : s₁.heap = h0 := by rw [← hh, Bd.state]; rfl
  rw [ef_5]
  exact b5_0 (K := own_KP (some (.long (f5_0 v0 p1))) h0) C a0 v0 p1 X0 e0 Aa0 hs ⟨rfl, rfl, rfl⟩

section Body0
variable {p : Program} {l : Launch} {e : Env} {s : State} {m : MethodId} {args : Array Value} {below : List Frame} {meth : Method} {c : Code} {Z : State} {ag : Array Value} {K : Option Value → Heap → List Loc → Prop}
abbrev R0 : Room := room_1
abbrev cc0 : Nat := 2
abbrev ss0 : Nat := 26
def f0_219 (t0 : Int32) : Int32 := (t0 &&& 1)
set_option maxRecDepth 65536 in
set_option maxHeartbeats 40000000 in
theorem b0_219 (C : own_Cx p s m meth c Z ag code maxLocals "com/example/ledgerline/ledgerline/BigEndianPutLongPinLaw" ret "law") {T : State} {h : Heap} {z1 : Int64} {z0 : Slot} {z3 : Slot} {z4 : Slot} {z5 : Slot} {z6 : Slot} {z7 : Slot} {z8 : Slot} {z9 : Slot} {z10 : Slot} {z11 : Slot} {z12 : Slot} {z13 : Slot} (t0 : Int32) (X : Stand p l e R0 s m args below meth c T [] 2 26) (eT : T.heap = h) (hz0 : One z0) (hz3 : One z3) (hz4 : One z4) (hz5 : One z5) (hz6 : One z6) (hz7 : One z7) (hz8 : One z8) (hz9 : One z9) (hz10 : One z10) (hz11 : One z11) (hz12 : One z12) (hz13 : One z13) (hK : ∀ h', K (some (.int (f0_219 t0))) h' []) : own_Go p e below (own_Q s K cc0 ss0) T (mkF m 219 #[z0, .val (.long z1), .second, z3, z4, z5, z6, z7, z8, z9, z10, z11, z12, z13] [(.int t0)]) := by
  obtain ⟨hx, hZ, hw, hby, hml, hown, hret, hlk, hnm⟩ := id C
  unfold f0_219 at hK
  exact o_retN X hx (t := .boolean) hret (by simp) hlk (hb hby at_219) (by decide) (by decide) eT (hK _)

def f0_218 : Int32 := (f0_219 (0 : Int32))
set_option maxRecDepth 65536 in
set_option maxHeartbeats 40000000 in
theorem b0_218 (C : own_Cx p s m meth c Z ag code maxLocals "com/example/ledgerline/ledgerline/BigEndianPutLongPinLaw" ret "law") {T : State} {h : Heap} {z1 : Int64} {z0 : Slot} {z3 : Slot} {z4 : Slot} {z5 : Slot} {z6 : Slot} {z7 : Slot} {z8 : Slot} {z9 : Slot} {z10 : Slot} {z11 : Slot} {z12 : Slot} {z13 : Slot} (X : Stand p l e R0 s m args below meth c T [] 2 26) (eT : T.heap = h) (hz0 : One z0) (hz3 : One z3) (hz4 : One z4) (hz5 : One z5) (hz6 : One z6) (hz7 : One z7) (hz8 : One z8) (hz9 : One z9) (hz10 : One z10) (hz11 : One z11) (hz12 : One z12) (hz13 : One z13) (hK : ∀ h', K (some (.int (f0_218))) h' []) : own_Go p e below (own_Q s K cc0 ss0) T (mkF m 218 #[z0, .val (.long z1), .second, z3, z4, z5, z6, z7, z8, z9, z10, z11, z12, z13] []) := by
  obtain ⟨hx, hZ, hw, hby, hml, hown, hret, hlk, hnm⟩ := id C
  unfold f0_218 at hK
  refine o_iconst (pc' := 219) (x := (0 : Int32)) X hx (hb hby at_218) (by decide) rfl ?_
  exact b0_219 C (0 : Int32) X eT hz0 hz3 hz4 hz5 hz6 hz7 hz8 hz9 hz10 hz11 hz12 hz13 hK

def f0_182 (x8 : Int32) (x9 : Int32) (x10 : Int32) (x11 : Int32) (x12 : Int32) (t0 : Int32) : Int32 := (if x8 = (0 : Int32) then f0_218 else (if x9 = (0 : Int32) then f0_218 else (if x10 = (0 : Int32) then f0_218 else (if x11 = (0 : Int32) then f0_218 else (if x12 = (0 : Int32) then f0_218 else (if t0 = (0 : Int32) then f0_218 else (f0_219 (1 : Int32))))))))
set_option maxRecDepth 65536 in
set_option maxHeartbeats 40000000 in
theorem b0_182 (C : own_Cx p s m meth c Z ag code maxLocals "com/example/ledgerline/ledgerline/BigEndianPutLongPinLaw" ret "law") {T : State} {h : Heap} {z1 : Int64} {z0 : Slot} {z3 : Slot} {z4 : Slot} {z5 : Slot} {z6 : Slot} {z7 : Slot} {z13 : Slot} (x8 : Int32) (x9 : Int32) (x10 : Int32) (x11 : Int32) (x12 : Int32) (t0 : Int32) (X : Stand p l e R0 s m args below meth c T [] 2 26) (eT : T.heap = h) (hz0 : One z0) (hz3 : One z3) (hz4 : One z4) (hz5 : One z5) (hz6 : One z6) (hz7 : One z7) (hz13 : One z13) (hK : ∀ h', K (some (.int (f0_182 x8 x9 x10 x11 x12 t0))) h' []) : own_Go p e below (own_Q s K cc0 ss0) T (mkF m 182 #[z0, .val (.long z1), .second, z3, z4, z5, z6, z7, .val (.int x8), .val (.int x9), .val (.int x10), .val (.int x11), .val (.int x12), z13] [(.int t0)]) := by
  obtain ⟨hx, hZ, hw, hby, hml, hown, hret, hlk, hnm⟩ := id C
  unfold f0_182 at hK
  refine o_istoreS (pc' := 184) (l' := #[z0, .val (.long z1), .second, z3, z4, z5, z6, z7, .val (.int x8), .val (.int x9), .val (.int x10), .val (.int x11), .val (.int x12), .val (.int t0)]) X hx (hb hby at_182) rfl hz13 rfl rfl ?_
  refine o_iload (pc' := 186) X hx (hb hby at_184) rfl rfl ?_
  refine o_ifP (P := x8 = (0 : Int32)) (pc1 := 218) (pc2 := 189) X hx XT.i0_eq_t XT.i0_eq_f (hb hby at_186) (by decide) (by decide) rfl (fun c56 => ?_) (fun c56 => ?_)
  · rw [if_pos c56] at hK
    exact b0_218 C X eT hz0 hz3 hz4 hz5 hz6 hz7 (One.val rfl) (One.val rfl) (One.val rfl) (One.val rfl) (One.val rfl) (One.val rfl) hK
  · rw [if_neg c56] at hK
    refine o_iload (pc' := 191) X hx (hb hby at_189) rfl rfl ?_
    refine o_ifP (P := x9 = (0 : Int32)) (pc1 := 218) (pc2 := 194) X hx XT.i0_eq_t XT.i0_eq_f (hb hby at_191) (by decide) (by decide) rfl (fun c57 => ?_) (fun c57 => ?_)
    · rw [if_pos c57] at hK
      exact b0_218 C X eT hz0 hz3 hz4 hz5 hz6 hz7 (One.val rfl) (One.val rfl) (One.val rfl) (One.val rfl) (One.val rfl) (One.val rfl) hK
    · rw [if_neg c57] at hK
      refine o_iload (pc' := 196) X hx (hb hby at_194) rfl rfl ?_
      refine o_ifP (P := x10 = (0 : Int32)) (pc1 := 218) (pc2 := 199) X hx XT.i0_eq_t XT.i0_eq_f (hb hby at_196) (by decide) (by decide) rfl (fun c58 => ?_) (fun c58 => ?_)
      · rw [if_pos c58] at hK
        exact b0_218 C X eT hz0 hz3 hz4 hz5 hz6 hz7 (One.val rfl) (One.val rfl) (One.val rfl) (One.val rfl) (One.val rfl) (One.val rfl) hK
      · rw [if_neg c58] at hK
        refine o_iload (pc' := 201) X hx (hb hby at_199) rfl rfl ?_
        refine o_ifP (P := x11 = (0 : Int32)) (pc1 := 218) (pc2 := 204) X hx XT.i0_eq_t XT.i0_eq_f (hb hby at_201) (by decide) (by decide) rfl (fun c59 => ?_) (fun c59 => ?_)
        · rw [if_pos c59] at hK
          exact b0_218 C X eT hz0 hz3 hz4 hz5 hz6 hz7 (One.val rfl) (One.val rfl) (One.val rfl) (One.val rfl) (One.val rfl) (One.val rfl) hK
        · rw [if_neg c59] at hK
          refine o_iload (pc' := 206) X hx (hb hby at_204) rfl rfl ?_
          refine o_ifP (P := x12 = (0 : Int32)) (pc1 := 218) (pc2 := 209) X hx XT.i0_eq_t XT.i0_eq_f (hb hby at_206) (by decide) (by decide) rfl (fun c60 => ?_) (fun c60 => ?_)
          · rw [if_pos c60] at hK
            exact b0_218 C X eT hz0 hz3 hz4 hz5 hz6 hz7 (One.val rfl) (One.val rfl) (One.val rfl) (One.val rfl) (One.val rfl) (One.val rfl) hK
          · rw [if_neg c60] at hK
            refine o_iload (pc' := 211) X hx (hb hby at_209) rfl rfl ?_
            refine o_ifP (P := t0 = (0 : Int32)) (pc1 := 218) (pc2 := 214) X hx XT.i0_eq_t XT.i0_eq_f (hb hby at_211) (by decide) (by decide) rfl (fun c61 => ?_) (fun c61 => ?_)
            · rw [if_pos c61] at hK
              exact b0_218 C X eT hz0 hz3 hz4 hz5 hz6 hz7 (One.val rfl) (One.val rfl) (One.val rfl) (One.val rfl) (One.val rfl) (One.val rfl) hK
            · rw [if_neg c61] at hK
              refine o_iconst (pc' := 215) (x := (1 : Int32)) X hx (hb hby at_214) (by decide) rfl ?_
              refine o_goto (pc' := 219) X hx (hb hby at_215) (by decide) (by decide) ?_
              exact b0_219 C (1 : Int32) X eT hz0 hz3 hz4 hz5 hz6 hz7 (One.val rfl) (One.val rfl) (One.val rfl) (One.val rfl) (One.val rfl) (One.val rfl) hK

def f0_162 (x4 : Int32) (x5 : Int32) (v0 : List Int32) (x8 : Int32) (x9 : Int32) (x10 : Int32) (x11 : Int32) (t0 : Int32) : Int32 := (if (own_get v0 (x4 + (8 : Int32))) = x5 then (f0_182 x8 x9 x10 x11 t0 (1 : Int32)) else (f0_182 x8 x9 x10 x11 t0 (0 : Int32)))
def s0_162 (x4 : Int32) (x5 : Int32) (v0 : List Int32) (x8 : Int32) (x9 : Int32) (x10 : Int32) (x11 : Int32) (t0 : Int32) : Prop := (own_in v0.length (x4 + (8 : Int32)) ∧ True)
set_option maxRecDepth 65536 in
set_option maxHeartbeats 40000000 in
theorem b0_162 (C : own_Cx p s m meth c Z ag code maxLocals "com/example/ledgerline/ledgerline/BigEndianPutLongPinLaw" ret "law") {T : State} {h : Heap} {z1 : Int64} {z0 : Slot} {z3 : Slot} {z7 : Slot} {z12 : Slot} {z13 : Slot} (x4 : Int32) (x5 : Int32) (a0 : Addr) (v0 : List Int32) (x8 : Int32) (x9 : Int32) (x10 : Int32) (x11 : Int32) (t0 : Int32) (X : Stand p l e R0 s m args below meth c T [] 2 26) (eT : T.heap = h) (Aa0 : own_AI Z h a0 .byte v0) (ga0 : s.heap.size ≤ a0) (hz0 : One z0) (hz3 : One z3) (hz7 : One z7) (hz12 : One z12) (hz13 : One z13) (hs : s0_162 x4 x5 v0 x8 x9 x10 x11 t0) (hK : ∀ h', K (some (.int (f0_162 x4 x5 v0 x8 x9 x10 x11 t0))) h' []) : own_Go p e below (own_Q s K cc0 ss0) T (mkF m 162 #[z0, .val (.long z1), .second, z3, .val (.int x4), .val (.int x5), .val (.ref a0), z7, .val (.int x8), .val (.int x9), .val (.int x10), .val (.int x11), z12, z13] [(.int t0)]) := by
  obtain ⟨hx, hZ, hw, hby, hml, hown, hret, hlk, hnm⟩ := id C
  unfold f0_162 at hK
  unfold s0_162 at hs
  refine o_istoreS (pc' := 164) (l' := #[z0, .val (.long z1), .second, z3, .val (.int x4), .val (.int x5), .val (.ref a0), z7, .val (.int x8), .val (.int x9), .val (.int x10), .val (.int x11), .val (.int t0), z13]) X hx (hb hby at_162) rfl hz12 rfl rfl ?_
  refine o_aload (pc' := 166) X hx (hb hby at_164) rfl rfl rfl ?_
  refine o_iload (pc' := 168) X hx (hb hby at_166) rfl rfl ?_
  refine o_bipush (pc' := 170) (x := (8 : Int32)) X hx (hb hby at_168) (by decide) rfl ?_
  refine o_iadd (pc' := 171)  X hx (hb hby at_170) rfl rfl ?_
  refine o_baload (pc' := 172)  X hx hZ eT Aa0 hs.1 (hb hby at_171) rfl rfl ?_
  refine o_iload (pc' := 174) X hx (hb hby at_172) rfl rfl ?_
  refine o_icN (P := (own_get v0 (x4 + (8 : Int32))) = x5) (pc1 := 181) (pc2 := 177) X hx XT.ii_ne_f XT.ii_ne_t (hb hby at_174) (by decide) (by decide) rfl (fun c55 => ?_) (fun c55 => ?_)
  · rw [if_neg c55] at hK
    refine o_iconst (pc' := 182) (x := (0 : Int32)) X hx (hb hby at_181) (by decide) rfl ?_
    exact b0_182 C x8 x9 x10 x11 t0 (0 : Int32) X eT hz0 hz3 (One.val rfl) (One.val rfl) (One.val rfl) hz7 hz13 hK
  · rw [if_pos c55] at hK
    refine o_iconst (pc' := 178) (x := (1 : Int32)) X hx (hb hby at_177) (by decide) rfl ?_
    refine o_goto (pc' := 182) X hx (hb hby at_178) (by decide) (by decide) ?_
    exact b0_182 C x8 x9 x10 x11 t0 (1 : Int32) X eT hz0 hz3 (One.val rfl) (One.val rfl) (One.val rfl) hz7 hz13 hK

def f0_157 (x4 : Int32) (x5 : Int32) (v0 : List Int32) (x8 : Int32) (x9 : Int32) (x10 : Int32) (x11 : Int32) : Int32 := (f0_162 x4 x5 v0 x8 x9 x10 x11 (1 : Int32))
def s0_157 (x4 : Int32) (x5 : Int32) (v0 : List Int32) (x8 : Int32) (x9 : Int32) (x10 : Int32) (x11 : Int32) : Prop := s0_162 x4 x5 v0 x8 x9 x10 x11 (1 : Int32)
set_option maxRecDepth 65536 in
set_option maxHeartbeats 40000000 in
theorem b0_157 (C : own_Cx p s m meth c Z ag code maxLocals "com/example/ledgerline/ledgerline/BigEndianPutLongPinLaw" ret "law") {T : State} {h : Heap} {z1 : Int64} {z0 : Slot} {z3 : Slot} {z7 : Slot} {z12 : Slot} {z13 : Slot} (x4 : Int32) (x5 : Int32) (a0 : Addr) (v0 : List Int32) (x8 : Int32) (x9 : Int32) (x10 : Int32) (x11 : Int32) (X : Stand p l e R0 s m args below meth c T [] 2 26) (eT : T.heap = h) (Aa0 : own_AI Z h a0 .byte v0) (ga0 : s.heap.size ≤ a0) (hz0 : One z0) (hz3 : One z3) (hz7 : One z7) (hz12 : One z12) (hz13 : One z13) (hs : s0_157 x4 x5 v0 x8 x9 x10 x11) (hK : ∀ h', K (some (.int (f0_157 x4 x5 v0 x8 x9 x10 x11))) h' []) : own_Go p e below (own_Q s K cc0 ss0) T (mkF m 157 #[z0, .val (.long z1), .second, z3, .val (.int x4), .val (.int x5), .val (.ref a0), z7, .val (.int x8), .val (.int x9), .val (.int x10), .val (.int x11), z12, z13] []) := by
  obtain ⟨hx, hZ, hw, hby, hml, hown, hret, hlk, hnm⟩ := id C
  unfold f0_157 at hK
  unfold s0_157 at hs
  refine o_iconst (pc' := 158) (x := (1 : Int32)) X hx (hb hby at_157) (by decide) rfl ?_
  refine o_goto (pc' := 162) X hx (hb hby at_158) (by decide) (by decide) ?_
  exact b0_162 C x4 x5 a0 v0 x8 x9 x10 x11 (1 : Int32) X eT Aa0 ga0 hz0 hz3 hz7 hz12 hz13 hs hK

def f0_138 (x4 : Int32) (x5 : Int32) (v0 : List Int32) (x8 : Int32) (x9 : Int32) (x10 : Int32) (t0 : Int32) : Int32 := (if x4 = (0 : Int32) then (f0_157 x4 x5 v0 x8 x9 x10 t0) else (if (own_get v0 (x4 - (1 : Int32))) = x5 then (f0_157 x4 x5 v0 x8 x9 x10 t0) else (f0_162 x4 x5 v0 x8 x9 x10 t0 (0 : Int32))))
def s0_138 (x4 : Int32) (x5 : Int32) (v0 : List Int32) (x8 : Int32) (x9 : Int32) (x10 : Int32) (t0 : Int32) : Prop := ((x4 = (0 : Int32) → s0_157 x4 x5 v0 x8 x9 x10 t0) ∧ (¬ (x4 = (0 : Int32)) → (own_in v0.length (x4 - (1 : Int32)) ∧ (((own_get v0 (x4 - (1 : Int32))) = x5 → s0_157 x4 x5 v0 x8 x9 x10 t0) ∧ (¬ ((own_get v0 (x4 - (1 : Int32))) = x5) → s0_162 x4 x5 v0 x8 x9 x10 t0 (0 : Int32))))))
set_option maxRecDepth 65536 in
set_option maxHeartbeats 40000000 in
theorem b0_138 (C : own_Cx p s m meth c Z ag code maxLocals "com/example/ledgerline/ledgerline/BigEndianPutLongPinLaw" ret "law") {T : State} {h : Heap} {z1 : Int64} {z0 : Slot} {z3 : Slot} {z7 : Slot} {z11 : Slot} {z12 : Slot} {z13 : Slot} (x4 : Int32) (x5 : Int32) (a0 : Addr) (v0 : List Int32) (x8 : Int32) (x9 : Int32) (x10 : Int32) (t0 : Int32) (X : Stand p l e R0 s m args below meth c T [] 2 26) (eT : T.heap = h) (Aa0 : own_AI Z h a0 .byte v0) (ga0 : s.heap.size ≤ a0) (hz0 : One z0) (hz3 : One z3) (hz7 : One z7) (hz11 : One z11) (hz12 : One z12) (hz13 : One z13) (hs : s0_138 x4 x5 v0 x8 x9 x10 t0) (hK : ∀ h', K (some (.int (f0_138 x4 x5 v0 x8 x9 x10 t0))) h' []) : own_Go p e below (own_Q s K cc0 ss0) T (mkF m 138 #[z0, .val (.long z1), .second, z3, .val (.int x4), .val (.int x5), .val (.ref a0), z7, .val (.int x8), .val (.int x9), .val (.int x10), z11, z12, z13] [(.int t0)]) := by
  obtain ⟨hx, hZ, hw, hby, hml, hown, hret, hlk, hnm⟩ := id C
  unfold f0_138 at hK
  unfold s0_138 at hs
  refine o_istoreS (pc' := 140) (l' := #[z0, .val (.long z1), .second, z3, .val (.int x4), .val (.int x5), .val (.ref a0), z7, .val (.int x8), .val (.int x9), .val (.int x10), .val (.int t0), z12, z13]) X hx (hb hby at_138) rfl hz11 rfl rfl ?_
  refine o_iload (pc' := 142) X hx (hb hby at_140) rfl rfl ?_
  refine o_ifP (P := x4 = (0 : Int32)) (pc1 := 157) (pc2 := 145) X hx XT.i0_eq_t XT.i0_eq_f (hb hby at_142) (by decide) (by decide) rfl (fun c54 => ?_) (fun c54 => ?_)
  · rw [if_pos c54] at hK
    exact b0_157 C x4 x5 a0 v0 x8 x9 x10 t0 X eT Aa0 ga0 hz0 hz3 hz7 hz12 hz13 (hs.1 c54) hK
  · rw [if_neg c54] at hK
    refine o_aload (pc' := 147) X hx (hb hby at_145) rfl rfl rfl ?_
    refine o_iload (pc' := 149) X hx (hb hby at_147) rfl rfl ?_
    refine o_iconst (pc' := 150) (x := (1 : Int32)) X hx (hb hby at_149) (by decide) rfl ?_
    refine o_isub (pc' := 151)  X hx (hb hby at_150) rfl rfl ?_
    refine o_baload (pc' := 152)  X hx hZ eT Aa0 (hs.2 c54).1 (hb hby at_151) rfl rfl ?_
    refine o_iload (pc' := 154) X hx (hb hby at_152) rfl rfl ?_
    refine o_icN (P := (own_get v0 (x4 - (1 : Int32))) = x5) (pc1 := 161) (pc2 := 157) X hx XT.ii_ne_f XT.ii_ne_t (hb hby at_154) (by decide) (by decide) rfl (fun c62 => ?_) (fun c62 => ?_)
    · rw [if_neg c62] at hK
      refine o_iconst (pc' := 162) (x := (0 : Int32)) X hx (hb hby at_161) (by decide) rfl ?_
      exact b0_162 C x4 x5 a0 v0 x8 x9 x10 t0 (0 : Int32) X eT Aa0 ga0 hz0 hz3 hz7 hz12 hz13 ((hs.2 c54).2.2 c62) hK
    · rw [if_pos c62] at hK
      exact b0_157 C x4 x5 a0 v0 x8 x9 x10 t0 X eT Aa0 ga0 hz0 hz3 hz7 hz12 hz13 ((hs.2 c54).2.1 c62) hK

def f0_117 (x1 : Int64) (x4 : Int32) (x5 : Int32) (v0 : List Int32) (x8 : Int32) (x9 : Int32) (t0 : Int32) : Int32 := (if (own_get v0 (x4 + (7 : Int32))) = (own_i2b x1.toInt32) then (f0_138 x4 x5 v0 x8 x9 t0 (1 : Int32)) else (f0_138 x4 x5 v0 x8 x9 t0 (0 : Int32)))
def s0_117 (x1 : Int64) (x4 : Int32) (x5 : Int32) (v0 : List Int32) (x8 : Int32) (x9 : Int32) (t0 : Int32) : Prop := (own_in v0.length (x4 + (7 : Int32)) ∧ (((own_get v0 (x4 + (7 : Int32))) = (own_i2b x1.toInt32) → s0_138 x4 x5 v0 x8 x9 t0 (1 : Int32)) ∧ (¬ ((own_get v0 (x4 + (7 : Int32))) = (own_i2b x1.toInt32)) → s0_138 x4 x5 v0 x8 x9 t0 (0 : Int32))))
set_option maxRecDepth 65536 in
set_option maxHeartbeats 40000000 in
theorem b0_117 (C : own_Cx p s m meth c Z ag code maxLocals "com/example/ledgerline/ledgerline/BigEndianPutLongPinLaw" ret "law") {T : State} {h : Heap} {z0 : Slot} {z3 : Slot} {z7 : Slot} {z10 : Slot} {z11 : Slot} {z12 : Slot} {z13 : Slot} (x1 : Int64) (x4 : Int32) (x5 : Int32) (a0 : Addr) (v0 : List Int32) (x8 : Int32) (x9 : Int32) (t0 : Int32) (X : Stand p l e R0 s m args below meth c T [] 2 26) (eT : T.heap = h) (Aa0 : own_AI Z h a0 .byte v0) (ga0 : s.heap.size ≤ a0) (hz0 : One z0) (hz3 : One z3) (hz7 : One z7) (hz10 : One z10) (hz11 : One z11) (hz12 : One z12) (hz13 : One z13) (hs : s0_117 x1 x4 x5 v0 x8 x9 t0) (hK : ∀ h', K (some (.int (f0_117 x1 x4 x5 v0 x8 x9 t0))) h' []) : own_Go p e below (own_Q s K cc0 ss0) T (mkF m 117 #[z0, .val (.long x1), .second, z3, .val (.int x4), .val (.int x5), .val (.ref a0), z7, .val (.int x8), .val (.int x9), z10, z11, z12, z13] [(.int t0)]) := by
  obtain ⟨hx, hZ, hw, hby, hml, hown, hret, hlk, hnm⟩ := id C
  unfold f0_117 at hK
  unfold s0_117 at hs
  refine o_istoreS (pc' := 119) (l' := #[z0, .val (.long x1), .second, z3, .val (.int x4), .val (.int x5), .val (.ref a0), z7, .val (.int x8), .val (.int x9), .val (.int t0), z11, z12, z13]) X hx (hb hby at_117) rfl hz10 rfl rfl ?_
  refine o_aload (pc' := 121) X hx (hb hby at_119) rfl rfl rfl ?_
  refine o_iload (pc' := 123) X hx (hb hby at_121) rfl rfl ?_
  refine o_bipush (pc' := 125) (x := (7 : Int32)) X hx (hb hby at_123) (by decide) rfl ?_
  refine o_iadd (pc' := 126)  X hx (hb hby at_125) rfl rfl ?_
  refine o_baload (pc' := 127)  X hx hZ eT Aa0 hs.1 (hb hby at_126) rfl rfl ?_
  refine o_lloadN (pc' := 128) X hx (hb hby at_127) rfl rfl ?_
  refine o_l2i (pc' := 129)  X hx (hb hby at_128) rfl rfl ?_
  refine o_i2b (pc' := 130)  X hx (hb hby at_129) rfl rfl ?_
  refine o_icN (P := (own_get v0 (x4 + (7 : Int32))) = (own_i2b x1.toInt32)) (pc1 := 137) (pc2 := 133) X hx XT.ii_ne_f XT.ii_ne_t (hb hby at_130) (by decide) (by decide) rfl (fun c53 => ?_) (fun c53 => ?_)
  · rw [if_neg c53] at hK
    refine o_iconst (pc' := 138) (x := (0 : Int32)) X hx (hb hby at_137) (by decide) rfl ?_
    exact b0_138 C x4 x5 a0 v0 x8 x9 t0 (0 : Int32) X eT Aa0 ga0 hz0 hz3 hz7 hz11 hz12 hz13 (hs.2.2 c53) hK
  · rw [if_pos c53] at hK
    refine o_iconst (pc' := 134) (x := (1 : Int32)) X hx (hb hby at_133) (by decide) rfl ?_
    refine o_goto (pc' := 138) X hx (hb hby at_134) (by decide) (by decide) ?_
    exact b0_138 C x4 x5 a0 v0 x8 x9 t0 (1 : Int32) X eT Aa0 ga0 hz0 hz3 hz7 hz11 hz12 hz13 (hs.2.1 c53) hK

def f0_109 (x1 : Int64) (x4 : Int32) (x5 : Int32) (v0 : List Int32) (x8 : Int32) (x9 : Int32) (t0 : Int32) (t1 : Int32) : Int32 := (if t1 = t0 then (f0_117 x1 x4 x5 v0 x8 x9 (1 : Int32)) else (f0_117 x1 x4 x5 v0 x8 x9 (0 : Int32)))
def s0_109 (x1 : Int64) (x4 : Int32) (x5 : Int32) (v0 : List Int32) (x8 : Int32) (x9 : Int32) (t0 : Int32) (t1 : Int32) : Prop := ((t1 = t0 → s0_117 x1 x4 x5 v0 x8 x9 (1 : Int32)) ∧ (¬ (t1 = t0) → s0_117 x1 x4 x5 v0 x8 x9 (0 : Int32)))
set_option maxRecDepth 65536 in
set_option maxHeartbeats 40000000 in
theorem b0_109 (C : own_Cx p s m meth c Z ag code maxLocals "com/example/ledgerline/ledgerline/BigEndianPutLongPinLaw" ret "law") {T : State} {h : Heap} {z0 : Slot} {z3 : Slot} {z7 : Slot} {z10 : Slot} {z11 : Slot} {z12 : Slot} {z13 : Slot} (x1 : Int64) (x4 : Int32) (x5 : Int32) (a0 : Addr) (v0 : List Int32) (x8 : Int32) (x9 : Int32) (t0 : Int32) (t1 : Int32) (X : Stand p l e R0 s m args below meth c T [] 2 26) (eT : T.heap = h) (Aa0 : own_AI Z h a0 .byte v0) (ga0 : s.heap.size ≤ a0) (hz0 : One z0) (hz3 : One z3) (hz7 : One z7) (hz10 : One z10) (hz11 : One z11) (hz12 : One z12) (hz13 : One z13) (hs : s0_109 x1 x4 x5 v0 x8 x9 t0 t1) (hK : ∀ h', K (some (.int (f0_109 x1 x4 x5 v0 x8 x9 t0 t1))) h' []) : own_Go p e below (own_Q s K cc0 ss0) T (mkF m 109 #[z0, .val (.long x1), .second, z3, .val (.int x4), .val (.int x5), .val (.ref a0), z7, .val (.int x8), .val (.int x9), z10, z11, z12, z13] [(.int t0), (.int t1)]) := by
  obtain ⟨hx, hZ, hw, hby, hml, hown, hret, hlk, hnm⟩ := id C
  unfold f0_109 at hK
  unfold s0_109 at hs
  refine o_icN (P := t1 = t0) (pc1 := 116) (pc2 := 112) X hx XT.ii_ne_f XT.ii_ne_t (hb hby at_109) (by decide) (by decide) rfl (fun c52 => ?_) (fun c52 => ?_)
  · rw [if_neg c52] at hK
    refine o_iconst (pc' := 117) (x := (0 : Int32)) X hx (hb hby at_116) (by decide) rfl ?_
    exact b0_117 C x1 x4 x5 a0 v0 x8 x9 (0 : Int32) X eT Aa0 ga0 hz0 hz3 hz7 hz10 hz11 hz12 hz13 (hs.2 c52) hK
  · rw [if_pos c52] at hK
    refine o_iconst (pc' := 113) (x := (1 : Int32)) X hx (hb hby at_112) (by decide) rfl ?_
    refine o_goto (pc' := 117) X hx (hb hby at_113) (by decide) (by decide) ?_
    exact b0_117 C x1 x4 x5 a0 v0 x8 x9 (1 : Int32) X eT Aa0 ga0 hz0 hz3 hz7 hz10 hz11 hz12 hz13 (hs.1 c52) hK

def f0_98 (x1 : Int64) (x4 : Int32) (x5 : Int32) (v0 : List Int32) (x8 : Int32) (x9 : Int32) (t0 : Int32) : Int32 := (if x1 < (0 : Int64) then (f0_109 x1 x4 x5 v0 x8 x9 (1 : Int32) t0) else (f0_109 x1 x4 x5 v0 x8 x9 (0 : Int32) t0))
def s0_98 (x1 : Int64) (x4 : Int32) (x5 : Int32) (v0 : List Int32) (x8 : Int32) (x9 : Int32) (t0 : Int32) : Prop := ((x1 < (0 : Int64) → s0_109 x1 x4 x5 v0 x8 x9 (1 : Int32) t0) ∧ (¬ (x1 < (0 : Int64)) → s0_109 x1 x4 x5 v0 x8 x9 (0 : Int32) t0))
set_option maxRecDepth 65536 in
set_option maxHeartbeats 40000000 in
theorem b0_98 (C : own_Cx p s m meth c Z ag code maxLocals "com/example/ledgerline/ledgerline/BigEndianPutLongPinLaw" ret "law") {T : State} {h : Heap} {z0 : Slot} {z3 : Slot} {z7 : Slot} {z10 : Slot} {z11 : Slot} {z12 : Slot} {z13 : Slot} (x1 : Int64) (x4 : Int32) (x5 : Int32) (a0 : Addr) (v0 : List Int32) (x8 : Int32) (x9 : Int32) (t0 : Int32) (X : Stand p l e R0 s m args below meth c T [] 2 26) (eT : T.heap = h) (Aa0 : own_AI Z h a0 .byte v0) (ga0 : s.heap.size ≤ a0) (hz0 : One z0) (hz3 : One z3) (hz7 : One z7) (hz10 : One z10) (hz11 : One z11) (hz12 : One z12) (hz13 : One z13) (hs : s0_98 x1 x4 x5 v0 x8 x9 t0) (hK : ∀ h', K (some (.int (f0_98 x1 x4 x5 v0 x8 x9 t0))) h' []) : own_Go p e below (own_Q s K cc0 ss0) T (mkF m 98 #[z0, .val (.long x1), .second, z3, .val (.int x4), .val (.int x5), .val (.ref a0), z7, .val (.int x8), .val (.int x9), z10, z11, z12, z13] [(.int t0)]) := by
  obtain ⟨hx, hZ, hw, hby, hml, hown, hret, hlk, hnm⟩ := id C
  unfold f0_98 at hK
  unfold s0_98 at hs
  refine o_lloadN (pc' := 99) X hx (hb hby at_98) rfl rfl ?_
  refine o_lconst (pc' := 100) (u := (0 : Int64)) X hx (hb hby at_99) (by decide) rfl ?_
  refine o_lcmp (pc' := 101) X hx (hb hby at_100) rfl ?_
  refine o_ifN (P := x1 < (0 : Int64)) (pc1 := 108) (pc2 := 104) X hx XT.ll_ge_f XT.ll_ge_t (hb hby at_101) (by decide) (by decide) rfl (fun c51 => ?_) (fun c51 => ?_)
  · rw [if_neg c51] at hK
    refine o_iconst (pc' := 109) (x := (0 : Int32)) X hx (hb hby at_108) (by decide) rfl ?_
    exact b0_109 C x1 x4 x5 a0 v0 x8 x9 (0 : Int32) t0 X eT Aa0 ga0 hz0 hz3 hz7 hz10 hz11 hz12 hz13 (hs.2 c51) hK
  · rw [if_pos c51] at hK
    refine o_iconst (pc' := 105) (x := (1 : Int32)) X hx (hb hby at_104) (by decide) rfl ?_
    refine o_goto (pc' := 109) X hx (hb hby at_105) (by decide) (by decide) ?_
    exact b0_109 C x1 x4 x5 a0 v0 x8 x9 (1 : Int32) t0 X eT Aa0 ga0 hz0 hz3 hz7 hz10 hz11 hz12 hz13 (hs.1 c51) hK

def f0_83 (x1 : Int64) (x4 : Int32) (x5 : Int32) (v0 : List Int32) (x8 : Int32) (t0 : Int32) : Int32 := (if (own_get v0 x4) < (0 : Int32) then (f0_98 x1 x4 x5 v0 x8 t0 (1 : Int32)) else (f0_98 x1 x4 x5 v0 x8 t0 (0 : Int32)))
def s0_83 (x1 : Int64) (x4 : Int32) (x5 : Int32) (v0 : List Int32) (x8 : Int32) (t0 : Int32) : Prop := (own_in v0.length x4 ∧ (((own_get v0 x4) < (0 : Int32) → s0_98 x1 x4 x5 v0 x8 t0 (1 : Int32)) ∧ (¬ ((own_get v0 x4) < (0 : Int32)) → s0_98 x1 x4 x5 v0 x8 t0 (0 : Int32))))
set_option maxRecDepth 65536 in
set_option maxHeartbeats 40000000 in
theorem b0_83 (C : own_Cx p s m meth c Z ag code maxLocals "com/example/ledgerline/ledgerline/BigEndianPutLongPinLaw" ret "law") {T : State} {h : Heap} {z0 : Slot} {z3 : Slot} {z7 : Slot} {z9 : Slot} {z10 : Slot} {z11 : Slot} {z12 : Slot} {z13 : Slot} (x1 : Int64) (x4 : Int32) (x5 : Int32) (a0 : Addr) (v0 : List Int32) (x8 : Int32) (t0 : Int32) (X : Stand p l e R0 s m args below meth c T [] 2 26) (eT : T.heap = h) (Aa0 : own_AI Z h a0 .byte v0) (ga0 : s.heap.size ≤ a0) (hz0 : One z0) (hz3 : One z3) (hz7 : One z7) (hz9 : One z9) (hz10 : One z10) (hz11 : One z11) (hz12 : One z12) (hz13 : One z13) (hs : s0_83 x1 x4 x5 v0 x8 t0) (hK : ∀ h', K (some (.int (f0_83 x1 x4 x5 v0 x8 t0))) h' []) : own_Go p e below (own_Q s K cc0 ss0) T (mkF m 83 #[z0, .val (.long x1), .second, z3, .val (.int x4), .val (.int x5), .val (.ref a0), z7, .val (.int x8), z9, z10, z11, z12, z13] [(.int t0)]) := by
  obtain ⟨hx, hZ, hw, hby, hml, hown, hret, hlk, hnm⟩ := id C
  unfold f0_83 at hK
  unfold s0_83 at hs
  refine o_istoreS (pc' := 85) (l' := #[z0, .val (.long x1), .second, z3, .val (.int x4), .val (.int x5), .val (.ref a0), z7, .val (.int x8), .val (.int t0), z10, z11, z12, z13]) X hx (hb hby at_83) rfl hz9 rfl rfl ?_
  refine o_aload (pc' := 87) X hx (hb hby at_85) rfl rfl rfl ?_
  refine o_iload (pc' := 89) X hx (hb hby at_87) rfl rfl ?_
  refine o_baload (pc' := 90)  X hx hZ eT Aa0 hs.1 (hb hby at_89) rfl rfl ?_
  refine o_ifN (P := (own_get v0 x4) < (0 : Int32)) (pc1 := 97) (pc2 := 93) X hx XT.i0_ge_f XT.i0_ge_t (hb hby at_90) (by decide) (by decide) rfl (fun c50 => ?_) (fun c50 => ?_)
  · rw [if_neg c50] at hK
    refine o_iconst (pc' := 98) (x := (0 : Int32)) X hx (hb hby at_97) (by decide) rfl ?_
    exact b0_98 C x1 x4 x5 a0 v0 x8 t0 (0 : Int32) X eT Aa0 ga0 hz0 hz3 hz7 hz10 hz11 hz12 hz13 (hs.2.2 c50) hK
  · rw [if_pos c50] at hK
    refine o_iconst (pc' := 94) (x := (1 : Int32)) X hx (hb hby at_93) (by decide) rfl ?_
    refine o_goto (pc' := 98) X hx (hb hby at_94) (by decide) (by decide) ?_
    exact b0_98 C x1 x4 x5 a0 v0 x8 t0 (1 : Int32) X eT Aa0 ga0 hz0 hz3 hz7 hz10 hz11 hz12 hz13 (hs.2.1 c50) hK

def f0_0 (p0 : Int32) (q1 : Int64) (p2 : Int32) : Int32 := (if (f5_0 (f2_0 (f1_0 (own_i2b p2)) (own_rem (p0 &&& (2147483647 : Int32)) (5 : Int32)) q1) (own_rem (p0 &&& (2147483647 : Int32)) (5 : Int32))) = q1 then (f0_83 q1 (own_rem (p0 &&& (2147483647 : Int32)) (5 : Int32)) (own_i2b p2) (f2_0 (f1_0 (own_i2b p2)) (own_rem (p0 &&& (2147483647 : Int32)) (5 : Int32)) q1) (f4_0 (f2_0 (f1_0 (own_i2b p2)) (own_rem (p0 &&& (2147483647 : Int32)) (5 : Int32)) q1) (f3_0 (f3_0 (f1_0 (own_i2b p2)) (own_rem (p0 &&& (2147483647 : Int32)) (5 : Int32)) ((own_lushr q1 (32 : Int32)).toInt32)) ((own_rem (p0 &&& (2147483647 : Int32)) (5 : Int32)) + (4 : Int32)) q1.toInt32)) (1 : Int32)) else (f0_83 q1 (own_rem (p0 &&& (2147483647 : Int32)) (5 : Int32)) (own_i2b p2) (f2_0 (f1_0 (own_i2b p2)) (own_rem (p0 &&& (2147483647 : Int32)) (5 : Int32)) q1) (f4_0 (f2_0 (f1_0 (own_i2b p2)) (own_rem (p0 &&& (2147483647 : Int32)) (5 : Int32)) q1) (f3_0 (f3_0 (f1_0 (own_i2b p2)) (own_rem (p0 &&& (2147483647 : Int32)) (5 : Int32)) ((own_lushr q1 (32 : Int32)).toInt32)) ((own_rem (p0 &&& (2147483647 : Int32)) (5 : Int32)) + (4 : Int32)) q1.toInt32)) (0 : Int32)))
def s0_0 (p0 : Int32) (q1 : Int64) (p2 : Int32) : Prop := ((s2_0 (f1_0 (own_i2b p2)) (own_rem (p0 &&& (2147483647 : Int32)) (5 : Int32)) q1) ∧ (s3_0 (f1_0 (own_i2b p2)) (own_rem (p0 &&& (2147483647 : Int32)) (5 : Int32)) ((own_lushr q1 (32 : Int32)).toInt32)) ∧ (s3_0 (f3_0 (f1_0 (own_i2b p2)) (own_rem (p0 &&& (2147483647 : Int32)) (5 : Int32)) ((own_lushr q1 (32 : Int32)).toInt32)) ((own_rem (p0 &&& (2147483647 : Int32)) (5 : Int32)) + (4 : Int32)) q1.toInt32) ∧ (s4_0 (f2_0 (f1_0 (own_i2b p2)) (own_rem (p0 &&& (2147483647 : Int32)) (5 : Int32)) q1) (f3_0 (f3_0 (f1_0 (own_i2b p2)) (own_rem (p0 &&& (2147483647 : Int32)) (5 : Int32)) ((own_lushr q1 (32 : Int32)).toInt32)) ((own_rem (p0 &&& (2147483647 : Int32)) (5 : Int32)) + (4 : Int32)) q1.toInt32)) ∧ (s5_0 (f2_0 (f1_0 (own_i2b p2)) (own_rem (p0 &&& (2147483647 : Int32)) (5 : Int32)) q1) (own_rem (p0 &&& (2147483647 : Int32)) (5 : Int32))) ∧ (((f5_0 (f2_0 (f1_0 (own_i2b p2)) (own_rem (p0 &&& (2147483647 : Int32)) (5 : Int32)) q1) (own_rem (p0 &&& (2147483647 : Int32)) (5 : Int32))) = q1 → s0_83 q1 (own_rem (p0 &&& (2147483647 : Int32)) (5 : Int32)) (own_i2b p2) (f2_0 (f1_0 (own_i2b p2)) (own_rem (p0 &&& (2147483647 : Int32)) (5 : Int32)) q1) (f4_0 (f2_0 (f1_0 (own_i2b p2)) (own_rem (p0 &&& (2147483647 : Int32)) (5 : Int32)) q1) (f3_0 (f3_0 (f1_0 (own_i2b p2)) (own_rem (p0 &&& (2147483647 : Int32)) (5 : Int32)) ((own_lushr q1 (32 : Int32)).toInt32)) ((own_rem (p0 &&& (2147483647 : Int32)) (5 : Int32)) + (4 : Int32)) q1.toInt32)) (1 : Int32)) ∧ (¬ ((f5_0 (f2_0 (f1_0 (own_i2b p2)) (own_rem (p0 &&& (2147483647 : Int32)) (5 : Int32)) q1) (own_rem (p0 &&& (2147483647 : Int32)) (5 : Int32))) = q1) → s0_83 q1 (own_rem (p0 &&& (2147483647 : Int32)) (5 : Int32)) (own_i2b p2) (f2_0 (f1_0 (own_i2b p2)) (own_rem (p0 &&& (2147483647 : Int32)) (5 : Int32)) q1) (f4_0 (f2_0 (f1_0 (own_i2b p2)) (own_rem (p0 &&& (2147483647 : Int32)) (5 : Int32)) q1) (f3_0 (f3_0 (f1_0 (own_i2b p2)) (own_rem (p0 &&& (2147483647 : Int32)) (5 : Int32)) ((own_lushr q1 (32 : Int32)).toInt32)) ((own_rem (p0 &&& (2147483647 : Int32)) (5 : Int32)) + (4 : Int32)) q1.toInt32)) (0 : Int32))))
set_option maxRecDepth 65536 in
set_option maxHeartbeats 40000000 in
theorem b0_0 (C : own_Cx p s m meth c Z ag code maxLocals "com/example/ledgerline/ledgerline/BigEndianPutLongPinLaw" ret "law") {T : State} {h : Heap} (p0 : Int32) (q1 : Int64) (p2 : Int32) (X : Stand p l e R0 s m args below meth c T [] 0 0) (eT : T.heap = h) (hs : s0_0 p0 q1 p2) (hK : ∀ h', K (some (.int (f0_0 p0 q1 p2))) h' []) : own_Go p e below (own_Q s K cc0 ss0) T (mkF m 0 #[.val (.int p0), .val (.long q1), .second, .val (.int p2), .unset, .unset, .unset, .unset, .unset, .unset, .unset, .unset, .unset, .unset] []) := by
  obtain ⟨hx, hZ, hw, hby, hml, hown, hret, hlk, hnm⟩ := id C
  unfold f0_0 at hK
  unfold s0_0 at hs
  refine o_iloadN (pc' := 1) X hx (hb hby at_0) rfl rfl ?_
  refine o_ldcI (pc' := 3) X hx hZ hown (hw _ (List.mem_of_getElem? (i := 0) rfl)) (hb hby at_1) rfl ?_
  refine o_iand (pc' := 4)  X hx (hb hby at_3) rfl rfl ?_
  refine o_iconst (pc' := 5) (x := (5 : Int32)) X hx (hb hby at_4) (by decide) rfl ?_
  refine o_irem (pc' := 6)  X hx (hb hby at_5) rfl (by decide) rfl ?_
  refine o_istore (pc' := 8) (l' := #[.val (.int p0), .val (.long q1), .second, .val (.int p2), .val (.int (own_rem (p0 &&& (2147483647 : Int32)) (5 : Int32))), .unset, .unset, .unset, .unset, .unset, .unset, .unset, .unset, .unset]) X hx (hb hby at_6) rfl rfl ?_
  refine o_iloadN (pc' := 9) X hx (hb hby at_8) rfl rfl ?_
  refine o_i2b (pc' := 10)  X hx (hb hby at_9) rfl rfl ?_
  refine o_istore (pc' := 12) (l' := #[.val (.int p0), .val (.long q1), .second, .val (.int p2), .val (.int (own_rem (p0 &&& (2147483647 : Int32)) (5 : Int32))), .val (.int (own_i2b p2)), .unset, .unset, .unset, .unset, .unset, .unset, .unset, .unset]) X hx (hb hby at_10) rfl rfl ?_
  refine o_iload (pc' := 14) X hx (hb hby at_12) rfl rfl ?_
  refine o_callS (W := 0) (pc' := 17) (argsL := [(.int (own_i2b p2))]) (rest := []) X hx hZ eT hown (hw _ (List.mem_of_getElem? (i := 1) rfl)) (hw _ (List.mem_of_getElem? (i := 2) rfl)) (hw _ (List.mem_of_getElem? (i := 3) rfl)) (hw _ (List.mem_of_getElem? (i := 4) rfl)) (by decide) (rm1 l Z ag hw [] (own_i2b p2) h) (by decide) (by decide) (by rw [hml]; rfl) pd_1 rfl rfl rfl rfl (hb hby at_14) rfl (by decide) (by decide) fun v42 T42 L42 X42 k42 => ?_
  obtain ⟨b42, rfl, rfl, P42, z42, A42⟩ := k42
  have Y42 : Stand p l e R0 s m args below meth c T42 [] 1 13 := own_nil X42
  have g42 : s.heap.size ≤ b42 := Nat.le_trans (own_sz X eT) z42
  refine o_astore (pc' := 19) (l' := #[.val (.int p0), .val (.long q1), .second, .val (.int p2), .val (.int (own_rem (p0 &&& (2147483647 : Int32)) (5 : Int32))), .val (.int (own_i2b p2)), .val (.ref b42), .unset, .unset, .unset, .unset, .unset, .unset, .unset]) Y42 hx (hb hby at_17) rfl rfl rfl ?_
  refine o_iload (pc' := 21) Y42 hx (hb hby at_19) rfl rfl ?_
  refine o_callS (W := 0) (pc' := 24) (argsL := [(.int (own_i2b p2))]) (rest := []) Y42 hx hZ rfl hown (hw _ (List.mem_of_getElem? (i := 1) rfl)) (hw _ (List.mem_of_getElem? (i := 2) rfl)) (hw _ (List.mem_of_getElem? (i := 3) rfl)) (hw _ (List.mem_of_getElem? (i := 4) rfl)) (by decide) (rm1 l Z ag hw [] (own_i2b p2) T42.heap) (by decide) (by decide) (by rw [hml]; rfl) pd_1 rfl rfl rfl rfl (hb hby at_21) rfl (by decide) (by decide) fun v43 T43 L43 X43 k43 => ?_
  obtain ⟨b43, rfl, rfl, P43, z43, A43⟩ := k43
  have Y43 : Stand p l e R0 s m args below meth c T43 [] 2 26 := own_nil X43
  have g43 : s.heap.size ≤ b43 := Nat.le_trans (own_sz Y42 rfl) z43
  have ne43_b42 : b42 ≠ b43 := Nat.ne_of_lt (Nat.lt_of_lt_of_le A42.lt z43)
  have B43_b42 := A42.keep P43 (fun q => nomatch q)
  refine o_astore (pc' := 26) (l' := #[.val (.int p0), .val (.long q1), .second, .val (.int p2), .val (.int (own_rem (p0 &&& (2147483647 : Int32)) (5 : Int32))), .val (.int (own_i2b p2)), .val (.ref b42), .val (.ref b43), .unset, .unset, .unset, .unset, .unset, .unset]) Y43 hx (hb hby at_24) rfl rfl rfl ?_
  refine o_aload (pc' := 28) Y43 hx (hb hby at_26) rfl rfl rfl ?_
  refine o_iload (pc' := 30) Y43 hx (hb hby at_28) rfl rfl ?_
  refine o_lloadN (pc' := 31) Y43 hx (hb hby at_30) rfl rfl ?_
  refine o_callS (W := 0) (pc' := 34) (argsL := [(.ref b42), (.int (own_rem (p0 &&& (2147483647 : Int32)) (5 : Int32))), (.long q1)]) (rest := []) Y43 hx hZ rfl hown (hw _ (List.mem_of_getElem? (i := 6) rfl)) (hw _ (List.mem_of_getElem? (i := 7) rfl)) (hw _ (List.mem_of_getElem? (i := 8) rfl)) (hw _ (List.mem_of_getElem? (i := 9) rfl)) (by decide) (rm2 l Z ag hw [] b42 (f1_0 (own_i2b p2)) (own_rem (p0 &&& (2147483647 : Int32)) (5 : Int32)) q1 T43.heap B43_b42 hs.1) (by decide) (by decide) (by rw [hml]; rfl) pd_2 rfl rfl rfl rfl (hb hby at_31) rfl (by decide) (by decide) fun v44 T44 L44 X44 k44 => ?_
  obtain ⟨rfl, N44, P44, A44⟩ := k44
  have B44_b43 := A43.keep P44 (fun q => absurd (List.mem_singleton.mp q) (Ne.symm ne43_b42))
  have Y44 : Stand p l e R0 s m args below meth c T44 [] 2 26 := own_dropL (k := b42) X44 g42 (fun y hy => Nat.le_of_eq (N44 y hy).symm)
  refine o_aload (pc' := 36) Y44 hx (hb hby at_34) rfl rfl rfl ?_
  refine o_iload (pc' := 38) Y44 hx (hb hby at_36) rfl rfl ?_
  refine o_lloadN (pc' := 39) Y44 hx (hb hby at_38) rfl rfl ?_
  refine o_bipush (pc' := 41) (x := (32 : Int32)) Y44 hx (hb hby at_39) (by decide) rfl ?_
  refine o_lushr (pc' := 42)  Y44 hx (hb hby at_41) rfl rfl ?_
  refine o_l2i (pc' := 43)  Y44 hx (hb hby at_42) rfl rfl ?_
  refine o_callS (W := 0) (pc' := 46) (argsL := [(.ref b43), (.int (own_rem (p0 &&& (2147483647 : Int32)) (5 : Int32))), (.int (own_lushr q1 (32 : Int32)).toInt32)]) (rest := []) Y44 hx hZ rfl hown (hw _ (List.mem_of_getElem? (i := 10) rfl)) (hw _ (List.mem_of_getElem? (i := 11) rfl)) (hw _ (List.mem_of_getElem? (i := 8) rfl)) (hw _ (List.mem_of_getElem? (i := 12) rfl)) (by decide) (rm3 l Z ag hw [] b43 (f1_0 (own_i2b p2)) (own_rem (p0 &&& (2147483647 : Int32)) (5 : Int32)) ((own_lushr q1 (32 : Int32)).toInt32) T44.heap B44_b43 hs.2.1) (by decide) (by decide) (by rw [hml]; rfl) pd_3 rfl rfl rfl rfl (hb hby at_43) rfl (by decide) (by decide) fun v45 T45 L45 X45 k45 => ?_
  obtain ⟨rfl, N45, P45, A45⟩ := k45
  have B45_b42 := A44.keep P45 (fun q => absurd (List.mem_singleton.mp q) ne43_b42)
  have Y45 : Stand p l e R0 s m args below meth c T45 [] 2 26 := own_dropL (k := b43) X45 g43 (fun y hy => Nat.le_of_eq (N45 y hy).symm)
  refine o_aload (pc' := 48) Y45 hx (hb hby at_46) rfl rfl rfl ?_
  refine o_iload (pc' := 50) Y45 hx (hb hby at_48) rfl rfl ?_
  refine o_iconst (pc' := 51) (x := (4 : Int32)) Y45 hx (hb hby at_50) (by decide) rfl ?_
  refine o_iadd (pc' := 52)  Y45 hx (hb hby at_51) rfl rfl ?_
  refine o_lloadN (pc' := 53) Y45 hx (hb hby at_52) rfl rfl ?_
  refine o_l2i (pc' := 54)  Y45 hx (hb hby at_53) rfl rfl ?_
  refine o_callS (W := 0) (pc' := 57) (argsL := [(.ref b43), (.int ((own_rem (p0 &&& (2147483647 : Int32)) (5 : Int32)) + (4 : Int32))), (.int q1.toInt32)]) (rest := []) Y45 hx hZ rfl hown (hw _ (List.mem_of_getElem? (i := 10) rfl)) (hw _ (List.mem_of_getElem? (i := 11) rfl)) (hw _ (List.mem_of_getElem? (i := 8) rfl)) (hw _ (List.mem_of_getElem? (i := 12) rfl)) (by decide) (rm3 l Z ag hw [] b43 (f3_0 (f1_0 (own_i2b p2)) (own_rem (p0 &&& (2147483647 : Int32)) (5 : Int32)) ((own_lushr q1 (32 : Int32)).toInt32)) ((own_rem (p0 &&& (2147483647 : Int32)) (5 : Int32)) + (4 : Int32)) q1.toInt32 T45.heap A45 hs.2.2.1) (by decide) (by decide) (by rw [hml]; rfl) pd_3 rfl rfl rfl rfl (hb hby at_54) rfl (by decide) (by decide) fun v46 T46 L46 X46 k46 => ?_
  obtain ⟨rfl, N46, P46, A46⟩ := k46
  have B46_b42 := B45_b42.keep P46 (fun q => absurd (List.mem_singleton.mp q) ne43_b42)
  have Y46 : Stand p l e R0 s m args below meth c T46 [] 2 26 := own_dropL (k := b43) X46 g43 (fun y hy => Nat.le_of_eq (N46 y hy).symm)
  refine o_aload (pc' := 59) Y46 hx (hb hby at_57) rfl rfl rfl ?_
  refine o_aload (pc' := 61) Y46 hx (hb hby at_59) rfl rfl rfl ?_
  refine o_callP (W := 0) (pc' := 64) (argsL := [(.ref b42), (.ref b43)]) (rest := []) (st' := [(.int (f4_0 (f2_0 (f1_0 (own_i2b p2)) (own_rem (p0 &&& (2147483647 : Int32)) (5 : Int32)) q1) (f3_0 (f3_0 (f1_0 (own_i2b p2)) (own_rem (p0 &&& (2147483647 : Int32)) (5 : Int32)) ((own_lushr q1 (32 : Int32)).toInt32)) ((own_rem (p0 &&& (2147483647 : Int32)) (5 : Int32)) + (4 : Int32)) q1.toInt32)))]) Y46 hx hZ rfl hown (hw _ (List.mem_of_getElem? (i := 13) rfl)) (hw _ (List.mem_of_getElem? (i := 14) rfl)) (hw _ (List.mem_of_getElem? (i := 3) rfl)) (hw _ (List.mem_of_getElem? (i := 15) rfl)) (by decide) (rm4 l Z ag hw [] b42 (f2_0 (f1_0 (own_i2b p2)) (own_rem (p0 &&& (2147483647 : Int32)) (5 : Int32)) q1) b43 (f3_0 (f3_0 (f1_0 (own_i2b p2)) (own_rem (p0 &&& (2147483647 : Int32)) (5 : Int32)) ((own_lushr q1 (32 : Int32)).toInt32)) ((own_rem (p0 &&& (2147483647 : Int32)) (5 : Int32)) + (4 : Int32)) q1.toInt32) T46.heap B46_b42 A46 hs.2.2.2.1) (by decide) (by decide) (by rw [hml]; rfl) pd_4 rfl rfl rfl rfl (hb hby at_61) rfl rfl rfl (by decide) (by decide) rfl fun T47 X47 e47 => ?_
  refine o_istore (pc' := 66) (l' := #[.val (.int p0), .val (.long q1), .second, .val (.int p2), .val (.int (own_rem (p0 &&& (2147483647 : Int32)) (5 : Int32))), .val (.int (own_i2b p2)), .val (.ref b42), .val (.ref b43), .val (.int (f4_0 (f2_0 (f1_0 (own_i2b p2)) (own_rem (p0 &&& (2147483647 : Int32)) (5 : Int32)) q1) (f3_0 (f3_0 (f1_0 (own_i2b p2)) (own_rem (p0 &&& (2147483647 : Int32)) (5 : Int32)) ((own_lushr q1 (32 : Int32)).toInt32)) ((own_rem (p0 &&& (2147483647 : Int32)) (5 : Int32)) + (4 : Int32)) q1.toInt32))), .unset, .unset, .unset, .unset, .unset]) X47 hx (hb hby at_64) rfl rfl ?_
  refine o_aload (pc' := 68) X47 hx (hb hby at_66) rfl rfl rfl ?_
  refine o_iload (pc' := 70) X47 hx (hb hby at_68) rfl rfl ?_
  refine o_callP (W := 0) (pc' := 73) (argsL := [(.ref b42), (.int (own_rem (p0 &&& (2147483647 : Int32)) (5 : Int32)))]) (rest := []) (st' := [(.long (f5_0 (f2_0 (f1_0 (own_i2b p2)) (own_rem (p0 &&& (2147483647 : Int32)) (5 : Int32)) q1) (own_rem (p0 &&& (2147483647 : Int32)) (5 : Int32))))]) X47 hx hZ e47 hown (hw _ (List.mem_of_getElem? (i := 16) rfl)) (hw _ (List.mem_of_getElem? (i := 17) rfl)) (hw _ (List.mem_of_getElem? (i := 8) rfl)) (hw _ (List.mem_of_getElem? (i := 18) rfl)) (by decide) (rm5 l Z ag hw [] b42 (f2_0 (f1_0 (own_i2b p2)) (own_rem (p0 &&& (2147483647 : Int32)) (5 : Int32)) q1) (own_rem (p0 &&& (2147483647 : Int32)) (5 : Int32)) T46.heap B46_b42 hs.2.2.2.2.1) (by decide) (by decide) (by rw [hml]; rfl) pd_5 rfl rfl rfl rfl (hb hby at_70) rfl rfl rfl (by decide) (by decide) rfl fun T48 X48 e48 => ?_
  refine o_lloadN (pc' := 74) X48 hx (hb hby at_73) rfl rfl ?_
  refine o_lcmp (pc' := 75) X48 hx (hb hby at_74) rfl ?_
  refine o_ifN (P := (f5_0 (f2_0 (f1_0 (own_i2b p2)) (own_rem (p0 &&& (2147483647 : Int32)) (5 : Int32)) q1) (own_rem (p0 &&& (2147483647 : Int32)) (5 : Int32))) = q1) (pc1 := 82) (pc2 := 78) X48 hx XT.ll_ne_f XT.ll_ne_t (hb hby at_75) (by decide) (by decide) rfl (fun c49 => ?_) (fun c49 => ?_)
  · rw [if_neg c49] at hK
    refine o_iconst (pc' := 83) (x := (0 : Int32)) X48 hx (hb hby at_82) (by decide) rfl ?_
    exact b0_83 C q1 (own_rem (p0 &&& (2147483647 : Int32)) (5 : Int32)) (own_i2b p2) b42 (f2_0 (f1_0 (own_i2b p2)) (own_rem (p0 &&& (2147483647 : Int32)) (5 : Int32)) q1) (f4_0 (f2_0 (f1_0 (own_i2b p2)) (own_rem (p0 &&& (2147483647 : Int32)) (5 : Int32)) q1) (f3_0 (f3_0 (f1_0 (own_i2b p2)) (own_rem (p0 &&& (2147483647 : Int32)) (5 : Int32)) ((own_lushr q1 (32 : Int32)).toInt32)) ((own_rem (p0 &&& (2147483647 : Int32)) (5 : Int32)) + (4 : Int32)) q1.toInt32)) (0 : Int32) X48 e48 B46_b42 g42 (One.val rfl) (One.val rfl) (One.val rfl) One.u One.u One.u One.u One.u (hs.2.2.2.2.2.2 c49) hK
  · rw [if_pos c49] at hK
    refine o_iconst (pc' := 79) (x := (1 : Int32)) X48 hx (hb hby at_78) (by decide) rfl ?_
    refine o_goto (pc' := 83) X48 hx (hb hby at_79) (by decide) (by decide) ?_
    exact b0_83 C q1 (own_rem (p0 &&& (2147483647 : Int32)) (5 : Int32)) (own_i2b p2) b42 (f2_0 (f1_0 (own_i2b p2)) (own_rem (p0 &&& (2147483647 : Int32)) (5 : Int32)) q1) (f4_0 (f2_0 (f1_0 (own_i2b p2)) (own_rem (p0 &&& (2147483647 : Int32)) (5 : Int32)) q1) (f3_0 (f3_0 (f1_0 (own_i2b p2)) (own_rem (p0 &&& (2147483647 : Int32)) (5 : Int32)) ((own_lushr q1 (32 : Int32)).toInt32)) ((own_rem (p0 &&& (2147483647 : Int32)) (5 : Int32)) + (4 : Int32)) q1.toInt32)) (1 : Int32) X48 e48 B46_b42 g42 (One.val rfl) (One.val rfl) (One.val rfl) One.u One.u One.u One.u One.u (hs.2.2.2.2.2.1 c49) hK

end Body0
theorem ef_0 (m : MethodId) (p0 : Int32) (q1 : Int64) (p2 : Int32) : entryFrame m #[(.int p0), (.long q1), (.int p2)] maxLocals = mkF m 0 #[.val (.int p0), .val (.long q1), .second, .val (.int p2), .unset, .unset, .unset, .unset, .unset, .unset, .unset, .unset, .unset, .unset] [] := by first | (simp [entryFrame, mkF, argsToLocals, Value.category, maxLocals]; done) | rfl
set_option maxRecDepth 65536 in
set_option maxHeartbeats 40000000 in
theorem rm0 (l : Launch) (Z : State) (ag : Array Value) (hw : ∀ d ∈ tables_1, d.before ag Z = true) (ws : List Jvm.Cond) (p0 : Int32) (q1 : Int64) (p2 : Int32) (h0 : Heap) (hs : s0_0 p0 q1 p2) :
    MetFree l x (head1 (Jvm.Cond.code x code maxLocals ret :: ws) R0) (fun a U => a = #[(.int p0), (.long q1), (.int p2)] ∧ Z.Warmed39 U.vm ∧ U.heap = h0) (fun _ _ _ _ _ => True) (fun _ U o U' => ∃ v L, o = .returned v ∧ own_KL (some (.int (f0_0 p0 q1 p2))) v U'.heap L ∧ FrameEnd U o U' L cc0 ss0) := by
  refine MetFree.of_bodySF (plainFor_of_name pn_BigEndianPutLongPinLaw) hisR ?_
  intro p e s m args below meth c s₁ Bd hml0 hP hK
  obtain ⟨rfl, hZ, hh⟩ := hP
  have C : own_Cx p s m meth c Z ag code maxLocals "com/example/ledgerline/ledgerline/BigEndianPutLongPinLaw" ret "law" := ⟨Bd.exec, hZ, hw, Bd.bytes, hml0, findClass_of_methodNamed Bd.named, Bd.returns, Bd.notSynchronized, (name_of_methodNamed Bd.named Bd.method).1⟩
  have X0 : Stand p l e R0 s m #[(.int p0), (.long q1), (.int p2)] below meth c s₁ [] 0 0 := Stand.of_body Bd
  have e0 : s₁.heap = h0 := by rw [← hh, Bd.state]; rfl
  rw [ef_0]
  exact b0_0 (K := own_KL (some (.int (f0_0 p0 q1 p2)))) C p0 q1 p2 X0 e0 hs (fun _ => ⟨rfl, rfl⟩)

theorem own_i2b_int (x : Int32) : (own_i2b x).toInt = x.toInt.bmod 256 := by
  show x.toInt8.toInt32.toInt = _
  rw [Int8.toInt_toInt32, Int32.toInt_toInt8]
theorem own_i2b_nat (x : Int32) : (own_i2b x).toBitVec.toNat % 256 = x.toBitVec.toNat % 256 := by
  have a := own_toNat (own_i2b x)
  have b := own_toNat x
  rw [own_i2b_int, Int.bmod_def] at a
  split at a <;> omega
theorem own_i2b_eq {x y : Int32} (h : x.toBitVec.toNat % 256 = y.toBitVec.toNat % 256) : own_i2b x = own_i2b y := by
  have a := own_toNat x
  have b := own_toNat y
  have e : x.toInt % 256 = y.toInt % 256 := by omega
  rw [own_eq, own_i2b_int, own_i2b_int, Int.bmod_def, Int.bmod_def]
  omega
theorem own_lo_nat (q : Int64) : q.toInt32.toBitVec.toNat = q.toBitVec.toNat % 2 ^ 32 := by
  have a := own_toNat q.toInt32
  have c : (q.toBitVec.toNat : Int) = q.toInt % 2 ^ 64 := by
    have e : q.toInt = q.toBitVec.toInt := rfl
    have h := q.toBitVec.isLt
    rw [e, BitVec.toInt_eq_toNat_cond]
    split <;> omega
  rw [Int64.toInt_toInt32, Int.bmod_def] at a
  split at a <;> omega
theorem own_lushr_nat (q : Int64) (y : Int32) {k : Nat} (hk : (y &&& 0x3f).toInt64.toUInt64.toNat = k) (h : k < 64) : (own_lushr q y).toBitVec.toNat = q.toBitVec.toNat / 2 ^ k := by
  show ((q.toUInt64 >>> (y &&& 0x3f).toInt64.toUInt64).toInt64).toBitVec.toNat = _
  rw [UInt64.toBitVec_toInt64, UInt64.toBitVec_shiftRight]
  have e : ((y &&& 0x3f).toInt64.toUInt64.toBitVec % 64).toNat = k := by
    have e0 : (y &&& 0x3f).toInt64.toUInt64.toBitVec.toNat = k := hk
    rw [BitVec.toNat_umod, e0]
    exact Nat.mod_eq_of_lt h
  show (q.toBitVec >>> ((y &&& 0x3f).toInt64.toUInt64.toBitVec % 64).toNat).toNat = _
  rw [e, BitVec.toNat_ushiftRight, Nat.shiftRight_eq_div_pow]
theorem own_shl_nat (x y : Int32) {k : Nat} (hk : ((y &&& 31).toBitVec.smod 32).toNat = k) : (own_shl x y).toBitVec.toNat = x.toBitVec.toNat * 2 ^ k % 2 ^ 32 := by
  show (x <<< (y &&& 31)).toBitVec.toNat = _
  rw [Int32.toBitVec_shiftLeft]
  show (x.toBitVec <<< ((y &&& 31).toBitVec.smod 32).toNat).toNat = _
  rw [hk, BitVec.toNat_shiftLeft, Nat.shiftLeft_eq]
theorem own_lshl_nat (x : Int64) (y : Int32) {k : Nat} (hk : ((y &&& 0x3f).toInt64.toBitVec.smod 64).toNat = k) : (own_lshl x y).toBitVec.toNat = x.toBitVec.toNat * 2 ^ k % 2 ^ 64 := by
  show (x <<< (y &&& 0x3f).toInt64).toBitVec.toNat = _
  rw [Int64.toBitVec_shiftLeft]
  show (x.toBitVec <<< ((y &&& 0x3f).toInt64.toBitVec.smod 64).toNat).toNat = _
  rw [hk, BitVec.toNat_shiftLeft, Nat.shiftLeft_eq]
theorem own_255_nat (x : Int32) : (x &&& 255).toBitVec.toNat = x.toBitVec.toNat % 256 := by
  rw [Int32.toBitVec_and, BitVec.toNat_and]
  exact Nat.and_two_pow_sub_one_eq_mod x.toBitVec.toNat 8
theorem own_or_nat (x y : Int32) {a b i : Nat} (hx : x.toBitVec.toNat = 2 ^ i * a) (hy : y.toBitVec.toNat = b) (hb : b < 2 ^ i) : (x ||| y).toBitVec.toNat = 2 ^ i * a + b := by
  rw [Int32.toBitVec_or, BitVec.toNat_or, hx, hy, Nat.two_pow_add_eq_or_of_lt hb]
theorem own_orL_nat (x y : Int64) {a b i : Nat} (hx : x.toBitVec.toNat = 2 ^ i * a) (hy : y.toBitVec.toNat = b) (hb : b < 2 ^ i) : (x ||| y).toBitVec.toNat = 2 ^ i * a + b := by
  rw [Int64.toBitVec_or, BitVec.toNat_or, hx, hy, Nat.two_pow_add_eq_or_of_lt hb]
/-- four bytes as one number -/
theorem own_four (b0 b1 b2 b3 : Int32) : ((((own_shl b0 24) ||| (own_shl (b1 &&& 255) 16)) ||| (own_shl (b2 &&& 255) 8)) ||| (b3 &&& 255)).toBitVec.toNat =
    (b0.toBitVec.toNat % 256) * 2 ^ 24 + (b1.toBitVec.toNat % 256) * 2 ^ 16 + (b2.toBitVec.toNat % 256) * 2 ^ 8 + b3.toBitVec.toNat % 256 := by
  have h0 : (own_shl b0 24).toBitVec.toNat = 2 ^ 24 * (b0.toBitVec.toNat % 256) := by rw [own_shl_nat b0 24 (k := 24) (by decide)]; omega
  have h1 : (own_shl (b1 &&& 255) 16).toBitVec.toNat = (b1.toBitVec.toNat % 256) * 2 ^ 16 := by rw [own_shl_nat _ 16 (k := 16) (by decide), own_255_nat]; omega
  have h2 : (own_shl (b2 &&& 255) 8).toBitVec.toNat = (b2.toBitVec.toNat % 256) * 2 ^ 8 := by rw [own_shl_nat _ 8 (k := 8) (by decide), own_255_nat]; omega
  have h3 := own_255_nat b3
  have g1 := own_or_nat _ _ h0 h1 (by omega)
  have g2 := own_or_nat _ _ (i := 16) (a := (b0.toBitVec.toNat % 256) * 256 + b1.toBitVec.toNat % 256) (by rw [g1]; omega) h2 (by omega)
  have g3 := own_or_nat _ _ (i := 8) (a := (b0.toBitVec.toNat % 256) * 65536 + (b1.toBitVec.toNat % 256) * 256 + b2.toBitVec.toNat % 256) (by rw [g2]; omega) h3 (by omega)
  rw [g3]; omega
/-- the k-th byte of a long -/
def own_B (q : Int64) (y : Int32) : Int32 := own_i2b (own_i2b ((own_lushr q y).toInt32))
theorem own_B_nat (q : Int64) (y : Int32) {k : Nat} (hk : (y &&& 0x3f).toInt64.toUInt64.toNat = k) (h : k < 64) : (own_B q y).toBitVec.toNat % 256 = q.toBitVec.toNat / 2 ^ k % 2 ^ 32 % 256 := by
  unfold own_B
  rw [own_i2b_nat, own_i2b_nat, own_lo_nat, own_lushr_nat q y hk h]
theorem own_B0_nat (q : Int64) : (own_i2b (own_i2b q.toInt32)).toBitVec.toNat % 256 = q.toBitVec.toNat % 2 ^ 32 % 256 := by
  rw [own_i2b_nat, own_i2b_nat, own_lo_nat]
theorem own_long (q : Int64) (X Y : Int32) (hX : X.toBitVec.toNat = q.toBitVec.toNat / 2 ^ 32) (hY : Y.toBitVec.toNat = q.toBitVec.toNat % 2 ^ 32) : (own_lshl X.toInt64 32 ||| (Y.toInt64 &&& 4294967295)) = q := by
  have hq := q.toBitVec.isLt
  have hx64 : X.toInt64.toBitVec.toNat % 2 ^ 32 = X.toBitVec.toNat := by
    have a := own_toNat X
    have c : (X.toInt64.toBitVec.toNat : Int) = X.toInt64.toInt % 2 ^ 64 := by
      have e : X.toInt64.toInt = X.toInt64.toBitVec.toInt := rfl
      have h := X.toInt64.toBitVec.isLt
      rw [e, BitVec.toInt_eq_toNat_cond]
      split <;> omega
    rw [Jvm.Kit.i64_of_i32] at c
    omega
  have hy64 : Y.toInt64.toBitVec.toNat % 2 ^ 32 = Y.toBitVec.toNat := by
    have a := own_toNat Y
    have c : (Y.toInt64.toBitVec.toNat : Int) = Y.toInt64.toInt % 2 ^ 64 := by
      have e : Y.toInt64.toInt = Y.toInt64.toBitVec.toInt := rfl
      have h := Y.toInt64.toBitVec.isLt
      rw [e, BitVec.toInt_eq_toNat_cond]
      split <;> omega
    rw [Jvm.Kit.i64_of_i32] at c
    omega
  have h0 : (own_lshl X.toInt64 32).toBitVec.toNat = 2 ^ 32 * (q.toBitVec.toNat / 2 ^ 32) := by rw [own_lshl_nat _ 32 (k := 32) (by decide)]; omega
  have h1 : (Y.toInt64 &&& 4294967295).toBitVec.toNat = q.toBitVec.toNat % 2 ^ 32 := by
    rw [Int64.toBitVec_and, BitVec.toNat_and]
    refine (Nat.and_two_pow_sub_one_eq_mod Y.toInt64.toBitVec.toNat 32).trans ?_
    omega
  have g := own_orL_nat _ _ h0 h1 (by omega)
  apply Int64.toBitVec_inj.mp
  apply BitVec.eq_of_toNat_eq
  rw [g]; omega
theorem own_C (q : Int64) (y z : Int32) {k j : Nat} (hk : (y &&& 0x3f).toInt64.toUInt64.toNat = k) (h : k < 64) (hj : (z &&& 31).toUInt32.toNat = j) (h1 : j < 32) (e : k = 32 + j) : own_i2b (own_i2b (own_ushr ((own_lushr q 32).toInt32) z)) = own_B q y := by
  have hq := q.toBitVec.isLt
  unfold own_B
  rw [own_i2b2, own_i2b2]
  apply own_i2b_eq
  rw [own_ushr_toNat _ z hj h1, own_lo_nat, own_lo_nat, own_lushr_nat q y hk h, own_lushr_nat q 32 (k := 32) (by decide) (by decide), e, Nat.pow_add, ← Nat.div_div_eq_div_mul]
  generalize 2 ^ j = w
  rw [Nat.mod_eq_of_lt (show q.toBitVec.toNat / 2 ^ 32 < 2 ^ 32 by omega), Nat.mod_eq_of_lt (show q.toBitVec.toNat / 2 ^ 32 / w < 2 ^ 32 from Nat.lt_of_le_of_lt (Nat.div_le_self _ _) (by omega))]
theorem own_C0 (q : Int64) : own_i2b (own_i2b ((own_lushr q 32).toInt32)) = own_B q 32 := rfl
theorem own_D (q : Int64) (y : Int32) {k j : Nat} (hk : (y &&& 0x3f).toInt64.toUInt64.toNat = k) (h : k < 64) (hj : (y &&& 31).toUInt32.toNat = j) (h1 : j < 32) (e : k = j) (h8 : j = 24 ∨ j = 16 ∨ j = 8) : own_i2b (own_i2b (own_ushr q.toInt32 y)) = own_B q y := by
  have hq := q.toBitVec.isLt
  unfold own_B
  rw [own_i2b2, own_i2b2]
  apply own_i2b_eq
  rw [own_ushr_toNat _ y hj h1, own_lo_nat, own_lo_nat, own_lushr_nat q y hk h, e]
  clear hk h hj h1 e
  rcases h8 with rfl | rfl | rfl <;> omega
theorem own_f4 (v : List Int32) : f4_0 v v = 1 := by
  unfold f4_0
  simp only [if_true]
  rfl
theorem own_i0 : own_in 13 0 = True := eq_true ⟨by decide, by decide⟩
theorem own_i1 : own_in 13 1 = True := eq_true ⟨by decide, by decide⟩
theorem own_i2 : own_in 13 2 = True := eq_true ⟨by decide, by decide⟩
theorem own_i3 : own_in 13 3 = True := eq_true ⟨by decide, by decide⟩
theorem own_i4 : own_in 13 4 = True := eq_true ⟨by decide, by decide⟩
theorem own_i5 : own_in 13 5 = True := eq_true ⟨by decide, by decide⟩
theorem own_i6 : own_in 13 6 = True := eq_true ⟨by decide, by decide⟩
theorem own_i7 : own_in 13 7 = True := eq_true ⟨by decide, by decide⟩
theorem own_i8 : own_in 13 8 = True := eq_true ⟨by decide, by decide⟩
theorem own_i9 : own_in 13 9 = True := eq_true ⟨by decide, by decide⟩
theorem own_i10 : own_in 13 10 = True := eq_true ⟨by decide, by decide⟩
theorem own_i11 : own_in 13 11 = True := eq_true ⟨by decide, by decide⟩
theorem own_i12 : own_in 13 12 = True := eq_true ⟨by decide, by decide⟩
theorem own_s4 (v w : List Int32) (hv : v.length = 13) (hw : w.length = 13) : s4_0 v w := by
  unfold s4_0
  rw [hv, hw]
  simp only [own_i0, own_i1, own_i2, own_i3, own_i4, own_i5, own_i6, own_i7, own_i8, own_i9, own_i10, own_i11, own_i12, true_and, and_true, implies_true]
theorem own_neg (q : Int64) : own_B q 56 < 0 ↔ q < 0 := by
  have hq := q.toBitVec.isLt
  have z : (0 : Int64).toInt = 0 := rfl
  have z' : (0 : Int32).toInt = 0 := rfl
  have e : q.toInt = q.toBitVec.toInt := rfl
  have b := own_B_nat q 56 (k := 56) (by decide) (by decide)
  have u := (own_B q 56).toInt_lt
  have t := own_toNat (own_B q 56)
  have r : -128 ≤ (own_B q 56).toInt ∧ (own_B q 56).toInt ≤ 127 := by
    unfold own_B
    rw [own_i2b_int, Int.bmod_def]
    omega
  rw [own_lt, own_ltL, z, z', e, BitVec.toInt_eq_toNat_cond]
  split <;> omega
theorem own_inl {l : List Int32} {n : Nat} {j : Int32} (h : l.length = n) (k : own_in n j) : own_in l.length j := by rw [h]; exact k
theorem own_at0 (q : Int64) (p2 : Int32) : s2_0 (f1_0 (own_i2b p2)) 0 q ∧ s3_0 (f1_0 (own_i2b p2)) 0 ((own_lushr q 32).toInt32) ∧ s3_0 (f3_0 (f1_0 (own_i2b p2)) 0 ((own_lushr q 32).toInt32)) (0 + 4) q.toInt32 ∧ s4_0 (f2_0 (f1_0 (own_i2b p2)) 0 q) (f3_0 (f3_0 (f1_0 (own_i2b p2)) 0 ((own_lushr q 32).toInt32)) (0 + 4) q.toInt32) ∧ s5_0 (f2_0 (f1_0 (own_i2b p2)) 0 q) 0 ∧ f5_0 (f2_0 (f1_0 (own_i2b p2)) 0 q) 0 = q ∧ s0_83 q 0 (own_i2b p2) (f2_0 (f1_0 (own_i2b p2)) 0 q) (f4_0 (f2_0 (f1_0 (own_i2b p2)) 0 q) (f3_0 (f3_0 (f1_0 (own_i2b p2)) 0 ((own_lushr q 32).toInt32)) (0 + 4) q.toInt32)) 1 ∧ f0_83 q 0 (own_i2b p2) (f2_0 (f1_0 (own_i2b p2)) 0 q) (f4_0 (f2_0 (f1_0 (own_i2b p2)) 0 q) (f3_0 (f3_0 (f1_0 (own_i2b p2)) 0 ((own_lushr q 32).toInt32)) (0 + 4) q.toInt32)) 1 = 1 := by
  have hq := q.toBitVec.isLt
  have e1 : f2_0 (f1_0 (own_i2b p2)) 0 q = [own_B q 56, own_B q 48, own_B q 40, own_B q 32, own_B q 24, own_B q 16, own_B q 8, own_i2b (own_i2b q.toInt32), own_i2b (own_i2b p2), own_i2b (own_i2b p2), own_i2b (own_i2b p2), own_i2b (own_i2b p2), own_i2b (own_i2b p2)] := rfl
  have e2 : f3_0 (f3_0 (f1_0 (own_i2b p2)) 0 ((own_lushr q 32).toInt32)) (0 + 4) q.toInt32 = [own_i2b (own_i2b (own_ushr ((own_lushr q 32).toInt32) 24)), own_i2b (own_i2b (own_ushr ((own_lushr q 32).toInt32) 16)), own_i2b (own_i2b (own_ushr ((own_lushr q 32).toInt32) 8)), own_i2b (own_i2b ((own_lushr q 32).toInt32)), own_i2b (own_i2b (own_ushr q.toInt32 24)), own_i2b (own_i2b (own_ushr q.toInt32 16)), own_i2b (own_i2b (own_ushr q.toInt32 8)), own_i2b (own_i2b q.toInt32), own_i2b (own_i2b p2), own_i2b (own_i2b p2), own_i2b (own_i2b p2), own_i2b (own_i2b p2), own_i2b (own_i2b p2)] := rfl
  rw [own_C q 56 24 (k := 56) (j := 24) (by decide) (by decide) (by decide) (by decide) (by decide), own_C q 48 16 (k := 48) (j := 16) (by decide) (by decide) (by decide) (by decide) (by decide), own_C q 40 8 (k := 40) (j := 8) (by decide) (by decide) (by decide) (by decide) (by decide), own_D q 24 (k := 24) (j := 24) (by decide) (by decide) (by decide) (by decide) (by decide) (by decide), own_D q 16 (k := 16) (j := 16) (by decide) (by decide) (by decide) (by decide) (by decide) (by decide), own_D q 8 (k := 8) (j := 8) (by decide) (by decide) (by decide) (by decide) (by decide) (by decide), own_C0] at e2
  have s3 : s3_0 (f1_0 (own_i2b p2)) 0 ((own_lushr q 32).toInt32) := ⟨own_inl (n := 13) rfl ⟨by decide, by decide⟩, own_inl (n := 13) rfl ⟨by decide, by decide⟩, own_inl (n := 13) rfl ⟨by decide, by decide⟩, own_inl (n := 13) rfl ⟨by decide, by decide⟩, trivial⟩
  have s3' : s3_0 (f3_0 (f1_0 (own_i2b p2)) 0 ((own_lushr q 32).toInt32)) (0 + 4) q.toInt32 := ⟨own_inl (n := 13) rfl ⟨by decide, by decide⟩, own_inl (n := 13) rfl ⟨by decide, by decide⟩, own_inl (n := 13) rfl ⟨by decide, by decide⟩, own_inl (n := 13) rfl ⟨by decide, by decide⟩, trivial⟩
  have s2 : s2_0 (f1_0 (own_i2b p2)) 0 q := ⟨own_inl (n := 13) rfl ⟨by decide, by decide⟩, own_inl (n := 13) rfl ⟨by decide, by decide⟩, own_inl (n := 13) rfl ⟨by decide, by decide⟩, own_inl (n := 13) rfl ⟨by decide, by decide⟩, own_inl (n := 13) rfl ⟨by decide, by decide⟩, own_inl (n := 13) rfl ⟨by decide, by decide⟩, own_inl (n := 13) rfl ⟨by decide, by decide⟩, own_inl (n := 13) rfl ⟨by decide, by decide⟩, trivial⟩
  rw [e1, e2, own_f4]
  refine ⟨s2, s3, s3', own_s4 _ _ rfl rfl, ⟨⟨own_inl (n := 13) rfl ⟨by decide, by decide⟩, own_inl (n := 13) rfl ⟨by decide, by decide⟩, own_inl (n := 13) rfl ⟨by decide, by decide⟩, own_inl (n := 13) rfl ⟨by decide, by decide⟩, trivial⟩, ⟨own_inl (n := 13) rfl ⟨by decide, by decide⟩, own_inl (n := 13) rfl ⟨by decide, by decide⟩, own_inl (n := 13) rfl ⟨by decide, by decide⟩, own_inl (n := 13) rfl ⟨by decide, by decide⟩, trivial⟩, trivial⟩, ?_, ?_, ?_⟩
  · refine own_long q _ _ ?_ ?_
    · refine (own_four (own_B q 56) (own_B q 48) (own_B q 40) (own_B q 32)).trans ?_
      rw [own_B_nat q 56 (k := 56) (by decide) (by decide), own_B_nat q 48 (k := 48) (by decide) (by decide), own_B_nat q 40 (k := 40) (by decide) (by decide), own_B_nat q 32 (k := 32) (by decide) (by decide)]; omega
    · refine (own_four (own_B q 24) (own_B q 16) (own_B q 8) (own_i2b (own_i2b q.toInt32))).trans ?_
      rw [own_B_nat q 24 (k := 24) (by decide) (by decide), own_B_nat q 16 (k := 16) (by decide) (by decide), own_B_nat q 8 (k := 8) (by decide) (by decide), own_B0_nat]; omega
  · have w : ∀ (v : List Int32) (hv : v.length = 13) (x8 t0 : Int32), s0_83 q 0 (own_i2b p2) v x8 t0 := by
      intro v hv x8 t0
      have i0 : own_in v.length 0 := own_inl hv ⟨by decide, by decide⟩
      have i7 : own_in v.length (0 + 7) := own_inl hv ⟨by decide, by decide⟩
      have i8 : own_in v.length (0 + 8) := own_inl hv ⟨by decide, by decide⟩
      have a162 : ∀ x8 x9 x10 x11 t0, s0_162 0 (own_i2b p2) v x8 x9 x10 x11 t0 := fun _ _ _ _ _ => ⟨i8, trivial⟩
      have a138 : ∀ x8 x9 x10 t0, s0_138 0 (own_i2b p2) v x8 x9 x10 t0 := fun _ _ _ _ => ⟨fun _ => a162 _ _ _ _ _, fun k => absurd rfl k⟩
      have a117 : ∀ x8 x9 t0, s0_117 q 0 (own_i2b p2) v x8 x9 t0 := fun _ _ _ => ⟨i7, fun _ => a138 _ _ _ _, fun _ => a138 _ _ _ _⟩
      have a109 : ∀ x8 x9 t0 t1, s0_109 q 0 (own_i2b p2) v x8 x9 t0 t1 := fun _ _ _ _ => ⟨fun _ => a117 _ _ _, fun _ => a117 _ _ _⟩
      have a98 : ∀ x8 x9 t0, s0_98 q 0 (own_i2b p2) v x8 x9 t0 := fun _ _ _ => ⟨fun _ => a109 _ _ _ _, fun _ => a109 _ _ _ _⟩
      exact ⟨i0, fun _ => a98 _ _ _, fun _ => a98 _ _ _⟩
    exact w _ rfl _ _
  · have k0 : own_get [own_B q 56, own_B q 48, own_B q 40, own_B q 32, own_B q 24, own_B q 16, own_B q 8, own_i2b (own_i2b q.toInt32), own_i2b (own_i2b p2), own_i2b (own_i2b p2), own_i2b (own_i2b p2), own_i2b (own_i2b p2), own_i2b (own_i2b p2)] 0 = own_B q 56 := rfl
    have k7 : own_get [own_B q 56, own_B q 48, own_B q 40, own_B q 32, own_B q 24, own_B q 16, own_B q 8, own_i2b (own_i2b q.toInt32), own_i2b (own_i2b p2), own_i2b (own_i2b p2), own_i2b (own_i2b p2), own_i2b (own_i2b p2), own_i2b (own_i2b p2)] (0 + 7) = own_i2b q.toInt32 := Eq.trans (b := own_i2b (own_i2b q.toInt32)) rfl (own_i2b2 _)
    have k8 : own_get [own_B q 56, own_B q 48, own_B q 40, own_B q 32, own_B q 24, own_B q 16, own_B q 8, own_i2b (own_i2b q.toInt32), own_i2b (own_i2b p2), own_i2b (own_i2b p2), own_i2b (own_i2b p2), own_i2b (own_i2b p2), own_i2b (own_i2b p2)] (0 + 8) = own_i2b p2 := Eq.trans (b := own_i2b (own_i2b p2)) rfl (own_i2b2 _)
    generalize [own_B q 56, own_B q 48, own_B q 40, own_B q 32, own_B q 24, own_B q 16, own_B q 8, own_i2b (own_i2b q.toInt32), own_i2b (own_i2b p2), own_i2b (own_i2b p2), own_i2b (own_i2b p2), own_i2b (own_i2b p2), own_i2b (own_i2b p2)] = v at k0 k7 k8 ⊢
    have d162 : f0_162 0 (own_i2b p2) v 1 1 1 1 1 = 1 := by rw [f0_162, if_pos k8]; rfl
    have d138 : f0_138 0 (own_i2b p2) v 1 1 1 1 = 1 := by rw [f0_138, if_pos (by decide)]; exact d162
    have d117 : f0_117 q 0 (own_i2b p2) v 1 1 1 = 1 := by rw [f0_117, if_pos k7]; exact d138
    unfold f0_83
    rw [k0]
    by_cases s : q < 0
    · rw [if_pos ((own_neg q).mpr s), f0_98, if_pos s, f0_109, if_pos rfl]; exact d117
    · rw [if_neg (fun k => s ((own_neg q).mp k)), f0_98, if_neg s, f0_109, if_pos rfl]; exact d117
theorem own_at1 (q : Int64) (p2 : Int32) : s2_0 (f1_0 (own_i2b p2)) 1 q ∧ s3_0 (f1_0 (own_i2b p2)) 1 ((own_lushr q 32).toInt32) ∧ s3_0 (f3_0 (f1_0 (own_i2b p2)) 1 ((own_lushr q 32).toInt32)) (1 + 4) q.toInt32 ∧ s4_0 (f2_0 (f1_0 (own_i2b p2)) 1 q) (f3_0 (f3_0 (f1_0 (own_i2b p2)) 1 ((own_lushr q 32).toInt32)) (1 + 4) q.toInt32) ∧ s5_0 (f2_0 (f1_0 (own_i2b p2)) 1 q) 1 ∧ f5_0 (f2_0 (f1_0 (own_i2b p2)) 1 q) 1 = q ∧ s0_83 q 1 (own_i2b p2) (f2_0 (f1_0 (own_i2b p2)) 1 q) (f4_0 (f2_0 (f1_0 (own_i2b p2)) 1 q) (f3_0 (f3_0 (f1_0 (own_i2b p2)) 1 ((own_lushr q 32).toInt32)) (1 + 4) q.toInt32)) 1 ∧ f0_83 q 1 (own_i2b p2) (f2_0 (f1_0 (own_i2b p2)) 1 q) (f4_0 (f2_0 (f1_0 (own_i2b p2)) 1 q) (f3_0 (f3_0 (f1_0 (own_i2b p2)) 1 ((own_lushr q 32).toInt32)) (1 + 4) q.toInt32)) 1 = 1 := by
  have hq := q.toBitVec.isLt
  have e1 : f2_0 (f1_0 (own_i2b p2)) 1 q = [own_i2b (own_i2b p2), own_B q 56, own_B q 48, own_B q 40, own_B q 32, own_B q 24, own_B q 16, own_B q 8, own_i2b (own_i2b q.toInt32), own_i2b (own_i2b p2), own_i2b (own_i2b p2), own_i2b (own_i2b p2), own_i2b (own_i2b p2)] := rfl
  have e2 : f3_0 (f3_0 (f1_0 (own_i2b p2)) 1 ((own_lushr q 32).toInt32)) (1 + 4) q.toInt32 = [own_i2b (own_i2b p2), own_i2b (own_i2b (own_ushr ((own_lushr q 32).toInt32) 24)), own_i2b (own_i2b (own_ushr ((own_lushr q 32).toInt32) 16)), own_i2b (own_i2b (own_ushr ((own_lushr q 32).toInt32) 8)), own_i2b (own_i2b ((own_lushr q 32).toInt32)), own_i2b (own_i2b (own_ushr q.toInt32 24)), own_i2b (own_i2b (own_ushr q.toInt32 16)), own_i2b (own_i2b (own_ushr q.toInt32 8)), own_i2b (own_i2b q.toInt32), own_i2b (own_i2b p2), own_i2b (own_i2b p2), own_i2b (own_i2b p2), own_i2b (own_i2b p2)] := rfl
  rw [own_C q 56 24 (k := 56) (j := 24) (by decide) (by decide) (by decide) (by decide) (by decide), own_C q 48 16 (k := 48) (j := 16) (by decide) (by decide) (by decide) (by decide) (by decide), own_C q 40 8 (k := 40) (j := 8) (by decide) (by decide) (by decide) (by decide) (by decide), own_D q 24 (k := 24) (j := 24) (by decide) (by decide) (by decide) (by decide) (by decide) (by decide), own_D q 16 (k := 16) (j := 16) (by decide) (by decide) (by decide) (by decide) (by decide) (by decide), own_D q 8 (k := 8) (j := 8) (by decide) (by decide) (by decide) (by decide) (by decide) (by decide), own_C0] at e2
  have s3 : s3_0 (f1_0 (own_i2b p2)) 1 ((own_lushr q 32).toInt32) := ⟨own_inl (n := 13) rfl ⟨by decide, by decide⟩, own_inl (n := 13) rfl ⟨by decide, by decide⟩, own_inl (n := 13) rfl ⟨by decide, by decide⟩, own_inl (n := 13) rfl ⟨by decide, by decide⟩, trivial⟩
  have s3' : s3_0 (f3_0 (f1_0 (own_i2b p2)) 1 ((own_lushr q 32).toInt32)) (1 + 4) q.toInt32 := ⟨own_inl (n := 13) rfl ⟨by decide, by decide⟩, own_inl (n := 13) rfl ⟨by decide, by decide⟩, own_inl (n := 13) rfl ⟨by decide, by decide⟩, own_inl (n := 13) rfl ⟨by decide, by decide⟩, trivial⟩
  have s2 : s2_0 (f1_0 (own_i2b p2)) 1 q := ⟨own_inl (n := 13) rfl ⟨by decide, by decide⟩, own_inl (n := 13) rfl ⟨by decide, by decide⟩, own_inl (n := 13) rfl ⟨by decide, by decide⟩, own_inl (n := 13) rfl ⟨by decide, by decide⟩, own_inl (n := 13) rfl ⟨by decide, by decide⟩, own_inl (n := 13) rfl ⟨by decide, by decide⟩, own_inl (n := 13) rfl ⟨by decide, by decide⟩, own_inl (n := 13) rfl ⟨by decide, by decide⟩, trivial⟩
  rw [e1, e2, own_f4]
  refine ⟨s2, s3, s3', own_s4 _ _ rfl rfl, ⟨⟨own_inl (n := 13) rfl ⟨by decide, by decide⟩, own_inl (n := 13) rfl ⟨by decide, by decide⟩, own_inl (n := 13) rfl ⟨by decide, by decide⟩, own_inl (n := 13) rfl ⟨by decide, by decide⟩, trivial⟩, ⟨own_inl (n := 13) rfl ⟨by decide, by decide⟩, own_inl (n := 13) rfl ⟨by decide, by decide⟩, own_inl (n := 13) rfl ⟨by decide, by decide⟩, own_inl (n := 13) rfl ⟨by decide, by decide⟩, trivial⟩, trivial⟩, ?_, ?_, ?_⟩
  · refine own_long q _ _ ?_ ?_
    · refine (own_four (own_B q 56) (own_B q 48) (own_B q 40) (own_B q 32)).trans ?_
      rw [own_B_nat q 56 (k := 56) (by decide) (by decide), own_B_nat q 48 (k := 48) (by decide) (by decide), own_B_nat q 40 (k := 40) (by decide) (by decide), own_B_nat q 32 (k := 32) (by decide) (by decide)]; omega
    · refine (own_four (own_B q 24) (own_B q 16) (own_B q 8) (own_i2b (own_i2b q.toInt32))).trans ?_
      rw [own_B_nat q 24 (k := 24) (by decide) (by decide), own_B_nat q 16 (k := 16) (by decide) (by decide), own_B_nat q 8 (k := 8) (by decide) (by decide), own_B0_nat]; omega
  · have w : ∀ (v : List Int32) (hv : v.length = 13) (x8 t0 : Int32), s0_83 q 1 (own_i2b p2) v x8 t0 := by
      intro v hv x8 t0
      have i0 : own_in v.length 1 := own_inl hv ⟨by decide, by decide⟩
      have i7 : own_in v.length (1 + 7) := own_inl hv ⟨by decide, by decide⟩
      have i8 : own_in v.length (1 + 8) := own_inl hv ⟨by decide, by decide⟩
      have i9 : own_in v.length (1 - 1) := own_inl hv ⟨by decide, by decide⟩
      have a162 : ∀ x8 x9 x10 x11 t0, s0_162 1 (own_i2b p2) v x8 x9 x10 x11 t0 := fun _ _ _ _ _ => ⟨i8, trivial⟩
      have a138 : ∀ x8 x9 x10 t0, s0_138 1 (own_i2b p2) v x8 x9 x10 t0 := fun _ _ _ _ => ⟨fun _ => a162 _ _ _ _ _, fun _ => ⟨i9, fun _ => a162 _ _ _ _ _, fun _ => a162 _ _ _ _ _⟩⟩
      have a117 : ∀ x8 x9 t0, s0_117 q 1 (own_i2b p2) v x8 x9 t0 := fun _ _ _ => ⟨i7, fun _ => a138 _ _ _ _, fun _ => a138 _ _ _ _⟩
      have a109 : ∀ x8 x9 t0 t1, s0_109 q 1 (own_i2b p2) v x8 x9 t0 t1 := fun _ _ _ _ => ⟨fun _ => a117 _ _ _, fun _ => a117 _ _ _⟩
      have a98 : ∀ x8 x9 t0, s0_98 q 1 (own_i2b p2) v x8 x9 t0 := fun _ _ _ => ⟨fun _ => a109 _ _ _ _, fun _ => a109 _ _ _ _⟩
      exact ⟨i0, fun _ => a98 _ _ _, fun _ => a98 _ _ _⟩
    exact w _ rfl _ _
  · have k0 : own_get [own_i2b (own_i2b p2), own_B q 56, own_B q 48, own_B q 40, own_B q 32, own_B q 24, own_B q 16, own_B q 8, own_i2b (own_i2b q.toInt32), own_i2b (own_i2b p2), own_i2b (own_i2b p2), own_i2b (own_i2b p2), own_i2b (own_i2b p2)] 1 = own_B q 56 := rfl
    have k7 : own_get [own_i2b (own_i2b p2), own_B q 56, own_B q 48, own_B q 40, own_B q 32, own_B q 24, own_B q 16, own_B q 8, own_i2b (own_i2b q.toInt32), own_i2b (own_i2b p2), own_i2b (own_i2b p2), own_i2b (own_i2b p2), own_i2b (own_i2b p2)] (1 + 7) = own_i2b q.toInt32 := Eq.trans (b := own_i2b (own_i2b q.toInt32)) rfl (own_i2b2 _)
    have k8 : own_get [own_i2b (own_i2b p2), own_B q 56, own_B q 48, own_B q 40, own_B q 32, own_B q 24, own_B q 16, own_B q 8, own_i2b (own_i2b q.toInt32), own_i2b (own_i2b p2), own_i2b (own_i2b p2), own_i2b (own_i2b p2), own_i2b (own_i2b p2)] (1 + 8) = own_i2b p2 := Eq.trans (b := own_i2b (own_i2b p2)) rfl (own_i2b2 _)
    have k9 : own_get [own_i2b (own_i2b p2), own_B q 56, own_B q 48, own_B q 40, own_B q 32, own_B q 24, own_B q 16, own_B q 8, own_i2b (own_i2b q.toInt32), own_i2b (own_i2b p2), own_i2b (own_i2b p2), own_i2b (own_i2b p2), own_i2b (own_i2b p2)] (1 - 1) = own_i2b p2 := Eq.trans (b := own_i2b (own_i2b p2)) rfl (own_i2b2 _)
    generalize [own_i2b (own_i2b p2), own_B q 56, own_B q 48, own_B q 40, own_B q 32, own_B q 24, own_B q 16, own_B q 8, own_i2b (own_i2b q.toInt32), own_i2b (own_i2b p2), own_i2b (own_i2b p2), own_i2b (own_i2b p2), own_i2b (own_i2b p2)] = v at k0 k7 k8 k9 ⊢
    have d162 : f0_162 1 (own_i2b p2) v 1 1 1 1 1 = 1 := by rw [f0_162, if_pos k8]; rfl
    have d138 : f0_138 1 (own_i2b p2) v 1 1 1 1 = 1 := by rw [f0_138, if_neg (by decide), if_pos k9]; exact d162
    have d117 : f0_117 q 1 (own_i2b p2) v 1 1 1 = 1 := by rw [f0_117, if_pos k7]; exact d138
    unfold f0_83
    rw [k0]
    by_cases s : q < 0
    · rw [if_pos ((own_neg q).mpr s), f0_98, if_pos s, f0_109, if_pos rfl]; exact d117
    · rw [if_neg (fun k => s ((own_neg q).mp k)), f0_98, if_neg s, f0_109, if_pos rfl]; exact d117
theorem own_at2 (q : Int64) (p2 : Int32) : s2_0 (f1_0 (own_i2b p2)) 2 q ∧ s3_0 (f1_0 (own_i2b p2)) 2 ((own_lushr q 32).toInt32) ∧ s3_0 (f3_0 (f1_0 (own_i2b p2)) 2 ((own_lushr q 32).toInt32)) (2 + 4) q.toInt32 ∧ s4_0 (f2_0 (f1_0 (own_i2b p2)) 2 q) (f3_0 (f3_0 (f1_0 (own_i2b p2)) 2 ((own_lushr q 32).toInt32)) (2 + 4) q.toInt32) ∧ s5_0 (f2_0 (f1_0 (own_i2b p2)) 2 q) 2 ∧ f5_0 (f2_0 (f1_0 (own_i2b p2)) 2 q) 2 = q ∧ s0_83 q 2 (own_i2b p2) (f2_0 (f1_0 (own_i2b p2)) 2 q) (f4_0 (f2_0 (f1_0 (own_i2b p2)) 2 q) (f3_0 (f3_0 (f1_0 (own_i2b p2)) 2 ((own_lushr q 32).toInt32)) (2 + 4) q.toInt32)) 1 ∧ f0_83 q 2 (own_i2b p2) (f2_0 (f1_0 (own_i2b p2)) 2 q) (f4_0 (f2_0 (f1_0 (own_i2b p2)) 2 q) (f3_0 (f3_0 (f1_0 (own_i2b p2)) 2 ((own_lushr q 32).toInt32)) (2 + 4) q.toInt32)) 1 = 1 := by
  have hq := q.toBitVec.isLt
  have e1 : f2_0 (f1_0 (own_i2b p2)) 2 q = [own_i2b (own_i2b p2), own_i2b (own_i2b p2), own_B q 56, own_B q 48, own_B q 40, own_B q 32, own_B q 24, own_B q 16, own_B q 8, own_i2b (own_i2b q.toInt32), own_i2b (own_i2b p2), own_i2b (own_i2b p2), own_i2b (own_i2b p2)] := rfl
  have e2 : f3_0 (f3_0 (f1_0 (own_i2b p2)) 2 ((own_lushr q 32).toInt32)) (2 + 4) q.toInt32 = [own_i2b (own_i2b p2), own_i2b (own_i2b p2), own_i2b (own_i2b (own_ushr ((own_lushr q 32).toInt32) 24)), own_i2b (own_i2b (own_ushr ((own_lushr q 32).toInt32) 16)), own_i2b (own_i2b (own_ushr ((own_lushr q 32).toInt32) 8)), own_i2b (own_i2b ((own_lushr q 32).toInt32)), own_i2b (own_i2b (own_ushr q.toInt32 24)), own_i2b (own_i2b (own_ushr q.toInt32 16)), own_i2b (own_i2b (own_ushr q.toInt32 8)), own_i2b (own_i2b q.toInt32), own_i2b (own_i2b p2), own_i2b (own_i2b p2), own_i2b (own_i2b p2)] := rfl
  rw [own_C q 56 24 (k := 56) (j := 24) (by decide) (by decide) (by decide) (by decide) (by decide), own_C q 48 16 (k := 48) (j := 16) (by decide) (by decide) (by decide) (by decide) (by decide), own_C q 40 8 (k := 40) (j := 8) (by decide) (by decide) (by decide) (by decide) (by decide), own_D q 24 (k := 24) (j := 24) (by decide) (by decide) (by decide) (by decide) (by decide) (by decide), own_D q 16 (k := 16) (j := 16) (by decide) (by decide) (by decide) (by decide) (by decide) (by decide), own_D q 8 (k := 8) (j := 8) (by decide) (by decide) (by decide) (by decide) (by decide) (by decide), own_C0] at e2
  have s3 : s3_0 (f1_0 (own_i2b p2)) 2 ((own_lushr q 32).toInt32) := ⟨own_inl (n := 13) rfl ⟨by decide, by decide⟩, own_inl (n := 13) rfl ⟨by decide, by decide⟩, own_inl (n := 13) rfl ⟨by decide, by decide⟩, own_inl (n := 13) rfl ⟨by decide, by decide⟩, trivial⟩
  have s3' : s3_0 (f3_0 (f1_0 (own_i2b p2)) 2 ((own_lushr q 32).toInt32)) (2 + 4) q.toInt32 := ⟨own_inl (n := 13) rfl ⟨by decide, by decide⟩, own_inl (n := 13) rfl ⟨by decide, by decide⟩, own_inl (n := 13) rfl ⟨by decide, by decide⟩, own_inl (n := 13) rfl ⟨by decide, by decide⟩, trivial⟩
  have s2 : s2_0 (f1_0 (own_i2b p2)) 2 q := ⟨own_inl (n := 13) rfl ⟨by decide, by decide⟩, own_inl (n := 13) rfl ⟨by decide, by decide⟩, own_inl (n := 13) rfl ⟨by decide, by decide⟩, own_inl (n := 13) rfl ⟨by decide, by decide⟩, own_inl (n := 13) rfl ⟨by decide, by decide⟩, own_inl (n := 13) rfl ⟨by decide, by decide⟩, own_inl (n := 13) rfl ⟨by decide, by decide⟩, own_inl (n := 13) rfl ⟨by decide, by decide⟩, trivial⟩
  rw [e1, e2, own_f4]
  refine ⟨s2, s3, s3', own_s4 _ _ rfl rfl, ⟨⟨own_inl (n := 13) rfl ⟨by decide, by decide⟩, own_inl (n := 13) rfl ⟨by decide, by decide⟩, own_inl (n := 13) rfl ⟨by decide, by decide⟩, own_inl (n := 13) rfl ⟨by decide, by decide⟩, trivial⟩, ⟨own_inl (n := 13) rfl ⟨by decide, by decide⟩, own_inl (n := 13) rfl ⟨by decide, by decide⟩, own_inl (n := 13) rfl ⟨by decide, by decide⟩, own_inl (n := 13) rfl ⟨by decide, by decide⟩, trivial⟩, trivial⟩, ?_, ?_, ?_⟩
  · refine own_long q _ _ ?_ ?_
    · refine (own_four (own_B q 56) (own_B q 48) (own_B q 40) (own_B q 32)).trans ?_
      rw [own_B_nat q 56 (k := 56) (by decide) (by decide), own_B_nat q 48 (k := 48) (by decide) (by decide), own_B_nat q 40 (k := 40) (by decide) (by decide), own_B_nat q 32 (k := 32) (by decide) (by decide)]; omega
    · refine (own_four (own_B q 24) (own_B q 16) (own_B q 8) (own_i2b (own_i2b q.toInt32))).trans ?_
      rw [own_B_nat q 24 (k := 24) (by decide) (by decide), own_B_nat q 16 (k := 16) (by decide) (by decide), own_B_nat q 8 (k := 8) (by decide) (by decide), own_B0_nat]; omega
  · have w : ∀ (v : List Int32) (hv : v.length = 13) (x8 t0 : Int32), s0_83 q 2 (own_i2b p2) v x8 t0 := by
      intro v hv x8 t0
      have i0 : own_in v.length 2 := own_inl hv ⟨by decide, by decide⟩
      have i7 : own_in v.length (2 + 7) := own_inl hv ⟨by decide, by decide⟩
      have i8 : own_in v.length (2 + 8) := own_inl hv ⟨by decide, by decide⟩
      have i9 : own_in v.length (2 - 1) := own_inl hv ⟨by decide, by decide⟩
      have a162 : ∀ x8 x9 x10 x11 t0, s0_162 2 (own_i2b p2) v x8 x9 x10 x11 t0 := fun _ _ _ _ _ => ⟨i8, trivial⟩
      have a138 : ∀ x8 x9 x10 t0, s0_138 2 (own_i2b p2) v x8 x9 x10 t0 := fun _ _ _ _ => ⟨fun _ => a162 _ _ _ _ _, fun _ => ⟨i9, fun _ => a162 _ _ _ _ _, fun _ => a162 _ _ _ _ _⟩⟩
      have a117 : ∀ x8 x9 t0, s0_117 q 2 (own_i2b p2) v x8 x9 t0 := fun _ _ _ => ⟨i7, fun _ => a138 _ _ _ _, fun _ => a138 _ _ _ _⟩
      have a109 : ∀ x8 x9 t0 t1, s0_109 q 2 (own_i2b p2) v x8 x9 t0 t1 := fun _ _ _ _ => ⟨fun _ => a117 _ _ _, fun _ => a117 _ _ _⟩
      have a98 : ∀ x8 x9 t0, s0_98 q 2 (own_i2b p2) v x8 x9 t0 := fun _ _ _ => ⟨fun _ => a109 _ _ _ _, fun _ => a109 _ _ _ _⟩
      exact ⟨i0, fun _ => a98 _ _ _, fun _ => a98 _ _ _⟩
    exact w _ rfl _ _
  · have k0 : own_get [own_i2b (own_i2b p2), own_i2b (own_i2b p2), own_B q 56, own_B q 48, own_B q 40, own_B q 32, own_B q 24, own_B q 16, own_B q 8, own_i2b (own_i2b q.toInt32), own_i2b (own_i2b p2), own_i2b (own_i2b p2), own_i2b (own_i2b p2)] 2 = own_B q 56 := rfl
    have k7 : own_get [own_i2b (own_i2b p2), own_i2b (own_i2b p2), own_B q 56, own_B q 48, own_B q 40, own_B q 32, own_B q 24, own_B q 16, own_B q 8, own_i2b (own_i2b q.toInt32), own_i2b (own_i2b p2), own_i2b (own_i2b p2), own_i2b (own_i2b p2)] (2 + 7) = own_i2b q.toInt32 := Eq.trans (b := own_i2b (own_i2b q.toInt32)) rfl (own_i2b2 _)
    have k8 : own_get [own_i2b (own_i2b p2), own_i2b (own_i2b p2), own_B q 56, own_B q 48, own_B q 40, own_B q 32, own_B q 24, own_B q 16, own_B q 8, own_i2b (own_i2b q.toInt32), own_i2b (own_i2b p2), own_i2b (own_i2b p2), own_i2b (own_i2b p2)] (2 + 8) = own_i2b p2 := Eq.trans (b := own_i2b (own_i2b p2)) rfl (own_i2b2 _)
    have k9 : own_get [own_i2b (own_i2b p2), own_i2b (own_i2b p2), own_B q 56, own_B q 48, own_B q 40, own_B q 32, own_B q 24, own_B q 16, own_B q 8, own_i2b (own_i2b q.toInt32), own_i2b (own_i2b p2), own_i2b (own_i2b p2), own_i2b (own_i2b p2)] (2 - 1) = own_i2b p2 := Eq.trans (b := own_i2b (own_i2b p2)) rfl (own_i2b2 _)
    generalize [own_i2b (own_i2b p2), own_i2b (own_i2b p2), own_B q 56, own_B q 48, own_B q 40, own_B q 32, own_B q 24, own_B q 16, own_B q 8, own_i2b (own_i2b q.toInt32), own_i2b (own_i2b p2), own_i2b (own_i2b p2), own_i2b (own_i2b p2)] = v at k0 k7 k8 k9 ⊢
    have d162 : f0_162 2 (own_i2b p2) v 1 1 1 1 1 = 1 := by rw [f0_162, if_pos k8]; rfl
    have d138 : f0_138 2 (own_i2b p2) v 1 1 1 1 = 1 := by rw [f0_138, if_neg (by decide), if_pos k9]; exact d162
    have d117 : f0_117 q 2 (own_i2b p2) v 1 1 1 = 1 := by rw [f0_117, if_pos k7]; exact d138
    unfold f0_83
    rw [k0]
    by_cases s : q < 0
    · rw [if_pos ((own_neg q).mpr s), f0_98, if_pos s, f0_109, if_pos rfl]; exact d117
    · rw [if_neg (fun k => s ((own_neg q).mp k)), f0_98, if_neg s, f0_109, if_pos rfl]; exact d117
theorem own_at3 (q : Int64) (p2 : Int32) : s2_0 (f1_0 (own_i2b p2)) 3 q ∧ s3_0 (f1_0 (own_i2b p2)) 3 ((own_lushr q 32).toInt32) ∧ s3_0 (f3_0 (f1_0 (own_i2b p2)) 3 ((own_lushr q 32).toInt32)) (3 + 4) q.toInt32 ∧ s4_0 (f2_0 (f1_0 (own_i2b p2)) 3 q) (f3_0 (f3_0 (f1_0 (own_i2b p2)) 3 ((own_lushr q 32).toInt32)) (3 + 4) q.toInt32) ∧ s5_0 (f2_0 (f1_0 (own_i2b p2)) 3 q) 3 ∧ f5_0 (f2_0 (f1_0 (own_i2b p2)) 3 q) 3 = q ∧ s0_83 q 3 (own_i2b p2) (f2_0 (f1_0 (own_i2b p2)) 3 q) (f4_0 (f2_0 (f1_0 (own_i2b p2)) 3 q) (f3_0 (f3_0 (f1_0 (own_i2b p2)) 3 ((own_lushr q 32).toInt32)) (3 + 4) q.toInt32)) 1 ∧ f0_83 q 3 (own_i2b p2) (f2_0 (f1_0 (own_i2b p2)) 3 q) (f4_0 (f2_0 (f1_0 (own_i2b p2)) 3 q) (f3_0 (f3_0 (f1_0 (own_i2b p2)) 3 ((own_lushr q 32).toInt32)) (3 + 4) q.toInt32)) 1 = 1 := by
  have hq := q.toBitVec.isLt
  have e1 : f2_0 (f1_0 (own_i2b p2)) 3 q = [own_i2b (own_i2b p2), own_i2b (own_i2b p2), own_i2b (own_i2b p2), own_B q 56, own_B q 48, own_B q 40, own_B q 32, own_B q 24, own_B q 16, own_B q 8, own_i2b (own_i2b q.toInt32), own_i2b (own_i2b p2), own_i2b (own_i2b p2)] := rfl
  have e2 : f3_0 (f3_0 (f1_0 (own_i2b p2)) 3 ((own_lushr q 32).toInt32)) (3 + 4) q.toInt32 = [own_i2b (own_i2b p2), own_i2b (own_i2b p2), own_i2b (own_i2b p2), own_i2b (own_i2b (own_ushr ((own_lushr q 32).toInt32) 24)), own_i2b (own_i2b (own_ushr ((own_lushr q 32).toInt32) 16)), own_i2b (own_i2b (own_ushr ((own_lushr q 32).toInt32) 8)), own_i2b (own_i2b ((own_lushr q 32).toInt32)), own_i2b (own_i2b (own_ushr q.toInt32 24)), own_i2b (own_i2b (own_ushr q.toInt32 16)), own_i2b (own_i2b (own_ushr q.toInt32 8)), own_i2b (own_i2b q.toInt32), own_i2b (own_i2b p2), own_i2b (own_i2b p2)] := rfl
  rw [own_C q 56 24 (k := 56) (j := 24) (by decide) (by decide) (by decide) (by decide) (by decide), own_C q 48 16 (k := 48) (j := 16) (by decide) (by decide) (by decide) (by decide) (by decide), own_C q 40 8 (k := 40) (j := 8) (by decide) (by decide) (by decide) (by decide) (by decide), own_D q 24 (k := 24) (j := 24) (by decide) (by decide) (by decide) (by decide) (by decide) (by decide), own_D q 16 (k := 16) (j := 16) (by decide) (by decide) (by decide) (by decide) (by decide) (by decide), own_D q 8 (k := 8) (j := 8) (by decide) (by decide) (by decide) (by decide) (by decide) (by decide), own_C0] at e2
  have s3 : s3_0 (f1_0 (own_i2b p2)) 3 ((own_lushr q 32).toInt32) := ⟨own_inl (n := 13) rfl ⟨by decide, by decide⟩, own_inl (n := 13) rfl ⟨by decide, by decide⟩, own_inl (n := 13) rfl ⟨by decide, by decide⟩, own_inl (n := 13) rfl ⟨by decide, by decide⟩, trivial⟩
  have s3' : s3_0 (f3_0 (f1_0 (own_i2b p2)) 3 ((own_lushr q 32).toInt32)) (3 + 4) q.toInt32 := ⟨own_inl (n := 13) rfl ⟨by decide, by decide⟩, own_inl (n := 13) rfl ⟨by decide, by decide⟩, own_inl (n := 13) rfl ⟨by decide, by decide⟩, own_inl (n := 13) rfl ⟨by decide, by decide⟩, trivial⟩
  have s2 : s2_0 (f1_0 (own_i2b p2)) 3 q := ⟨own_inl (n := 13) rfl ⟨by decide, by decide⟩, own_inl (n := 13) rfl ⟨by decide, by decide⟩, own_inl (n := 13) rfl ⟨by decide, by decide⟩, own_inl (n := 13) rfl ⟨by decide, by decide⟩, own_inl (n := 13) rfl ⟨by decide, by decide⟩, own_inl (n := 13) rfl ⟨by decide, by decide⟩, own_inl (n := 13) rfl ⟨by decide, by decide⟩, own_inl (n := 13) rfl ⟨by decide, by decide⟩, trivial⟩
  rw [e1, e2, own_f4]
  refine ⟨s2, s3, s3', own_s4 _ _ rfl rfl, ⟨⟨own_inl (n := 13) rfl ⟨by decide, by decide⟩, own_inl (n := 13) rfl ⟨by decide, by decide⟩, own_inl (n := 13) rfl ⟨by decide, by decide⟩, own_inl (n := 13) rfl ⟨by decide, by decide⟩, trivial⟩, ⟨own_inl (n := 13) rfl ⟨by decide, by decide⟩, own_inl (n := 13) rfl ⟨by decide, by decide⟩, own_inl (n := 13) rfl ⟨by decide, by decide⟩, own_inl (n := 13) rfl ⟨by decide, by decide⟩, trivial⟩, trivial⟩, ?_, ?_, ?_⟩
  · refine own_long q _ _ ?_ ?_
    · refine (own_four (own_B q 56) (own_B q 48) (own_B q 40) (own_B q 32)).trans ?_
      rw [own_B_nat q 56 (k := 56) (by decide) (by decide), own_B_nat q 48 (k := 48) (by decide) (by decide), own_B_nat q 40 (k := 40) (by decide) (by decide), own_B_nat q 32 (k := 32) (by decide) (by decide)]; omega
    · refine (own_four (own_B q 24) (own_B q 16) (own_B q 8) (own_i2b (own_i2b q.toInt32))).trans ?_
      rw [own_B_nat q 24 (k := 24) (by decide) (by decide), own_B_nat q 16 (k := 16) (by decide) (by decide), own_B_nat q 8 (k := 8) (by decide) (by decide), own_B0_nat]; omega
  · have w : ∀ (v : List Int32) (hv : v.length = 13) (x8 t0 : Int32), s0_83 q 3 (own_i2b p2) v x8 t0 := by
      intro v hv x8 t0
      have i0 : own_in v.length 3 := own_inl hv ⟨by decide, by decide⟩
      have i7 : own_in v.length (3 + 7) := own_inl hv ⟨by decide, by decide⟩
      have i8 : own_in v.length (3 + 8) := own_inl hv ⟨by decide, by decide⟩
      have i9 : own_in v.length (3 - 1) := own_inl hv ⟨by decide, by decide⟩
      have a162 : ∀ x8 x9 x10 x11 t0, s0_162 3 (own_i2b p2) v x8 x9 x10 x11 t0 := fun _ _ _ _ _ => ⟨i8, trivial⟩
      have a138 : ∀ x8 x9 x10 t0, s0_138 3 (own_i2b p2) v x8 x9 x10 t0 := fun _ _ _ _ => ⟨fun _ => a162 _ _ _ _ _, fun _ => ⟨i9, fun _ => a162 _ _ _ _ _, fun _ => a162 _ _ _ _ _⟩⟩
      have a117 : ∀ x8 x9 t0, s0_117 q 3 (own_i2b p2) v x8 x9 t0 := fun _ _ _ => ⟨i7, fun _ => a138 _ _ _ _, fun _ => a138 _ _ _ _⟩
      have a109 : ∀ x8 x9 t0 t1, s0_109 q 3 (own_i2b p2) v x8 x9 t0 t1 := fun _ _ _ _ => ⟨fun _ => a117 _ _ _, fun _ => a117 _ _ _⟩
      have a98 : ∀ x8 x9 t0, s0_98 q 3 (own_i2b p2) v x8 x9 t0 := fun _ _ _ => ⟨fun _ => a109 _ _ _ _, fun _ => a109 _ _ _ _⟩
      exact ⟨i0, fun _ => a98 _ _ _, fun _ => a98 _ _ _⟩
    exact w _ rfl _ _
  · have k0 : own_get [own_i2b (own_i2b p2), own_i2b (own_i2b p2), own_i2b (own_i2b p2), own_B q 56, own_B q 48, own_B q 40, own_B q 32, own_B q 24, own_B q 16, own_B q 8, own_i2b (own_i2b q.toInt32), own_i2b (own_i2b p2), own_i2b (own_i2b p2)] 3 = own_B q 56 := rfl
    have k7 : own_get [own_i2b (own_i2b p2), own_i2b (own_i2b p2), own_i2b (own_i2b p2), own_B q 56, own_B q 48, own_B q 40, own_B q 32, own_B q 24, own_B q 16, own_B q 8, own_i2b (own_i2b q.toInt32), own_i2b (own_i2b p2), own_i2b (own_i2b p2)] (3 + 7) = own_i2b q.toInt32 := Eq.trans (b := own_i2b (own_i2b q.toInt32)) rfl (own_i2b2 _)
    have k8 : own_get [own_i2b (own_i2b p2), own_i2b (own_i2b p2), own_i2b (own_i2b p2), own_B q 56, own_B q 48, own_B q 40, own_B q 32, own_B q 24, own_B q 16, own_B q 8, own_i2b (own_i2b q.toInt32), own_i2b (own_i2b p2), own_i2b (own_i2b p2)] (3 + 8) = own_i2b p2 := Eq.trans (b := own_i2b (own_i2b p2)) rfl (own_i2b2 _)
    have k9 : own_get [own_i2b (own_i2b p2), own_i2b (own_i2b p2), own_i2b (own_i2b p2), own_B q 56, own_B q 48, own_B q 40, own_B q 32, own_B q 24, own_B q 16, own_B q 8, own_i2b (own_i2b q.toInt32), own_i2b (own_i2b p2), own_i2b (own_i2b p2)] (3 - 1) = own_i2b p2 := Eq.trans (b := own_i2b (own_i2b p2)) rfl (own_i2b2 _)
    generalize [own_i2b (own_i2b p2), own_i2b (own_i2b p2), own_i2b (own_i2b p2), own_B q 56, own_B q 48, own_B q 40, own_B q 32, own_B q 24, own_B q 16, own_B q 8, own_i2b (own_i2b q.toInt32), own_i2b (own_i2b p2), own_i2b (own_i2b p2)] = v at k0 k7 k8 k9 ⊢
    have d162 : f0_162 3 (own_i2b p2) v 1 1 1 1 1 = 1 := by rw [f0_162, if_pos k8]; rfl
    have d138 : f0_138 3 (own_i2b p2) v 1 1 1 1 = 1 := by rw [f0_138, if_neg (by decide), if_pos k9]; exact d162
    have d117 : f0_117 q 3 (own_i2b p2) v 1 1 1 = 1 := by rw [f0_117, if_pos k7]; exact d138
    unfold f0_83
    rw [k0]
    by_cases s : q < 0
    · rw [if_pos ((own_neg q).mpr s), f0_98, if_pos s, f0_109, if_pos rfl]; exact d117
    · rw [if_neg (fun k => s ((own_neg q).mp k)), f0_98, if_neg s, f0_109, if_pos rfl]; exact d117
theorem own_at4 (q : Int64) (p2 : Int32) : s2_0 (f1_0 (own_i2b p2)) 4 q ∧ s3_0 (f1_0 (own_i2b p2)) 4 ((own_lushr q 32).toInt32) ∧ s3_0 (f3_0 (f1_0 (own_i2b p2)) 4 ((own_lushr q 32).toInt32)) (4 + 4) q.toInt32 ∧ s4_0 (f2_0 (f1_0 (own_i2b p2)) 4 q) (f3_0 (f3_0 (f1_0 (own_i2b p2)) 4 ((own_lushr q 32).toInt32)) (4 + 4) q.toInt32) ∧ s5_0 (f2_0 (f1_0 (own_i2b p2)) 4 q) 4 ∧ f5_0 (f2_0 (f1_0 (own_i2b p2)) 4 q) 4 = q ∧ s0_83 q 4 (own_i2b p2) (f2_0 (f1_0 (own_i2b p2)) 4 q) (f4_0 (f2_0 (f1_0 (own_i2b p2)) 4 q) (f3_0 (f3_0 (f1_0 (own_i2b p2)) 4 ((own_lushr q 32).toInt32)) (4 + 4) q.toInt32)) 1 ∧ f0_83 q 4 (own_i2b p2) (f2_0 (f1_0 (own_i2b p2)) 4 q) (f4_0 (f2_0 (f1_0 (own_i2b p2)) 4 q) (f3_0 (f3_0 (f1_0 (own_i2b p2)) 4 ((own_lushr q 32).toInt32)) (4 + 4) q.toInt32)) 1 = 1 := by
  have hq := q.toBitVec.isLt
  have e1 : f2_0 (f1_0 (own_i2b p2)) 4 q = [own_i2b (own_i2b p2), own_i2b (own_i2b p2), own_i2b (own_i2b p2), own_i2b (own_i2b p2), own_B q 56, own_B q 48, own_B q 40, own_B q 32, own_B q 24, own_B q 16, own_B q 8, own_i2b (own_i2b q.toInt32), own_i2b (own_i2b p2)] := rfl
  have e2 : f3_0 (f3_0 (f1_0 (own_i2b p2)) 4 ((own_lushr q 32).toInt32)) (4 + 4) q.toInt32 = [own_i2b (own_i2b p2), own_i2b (own_i2b p2), own_i2b (own_i2b p2), own_i2b (own_i2b p2), own_i2b (own_i2b (own_ushr ((own_lushr q 32).toInt32) 24)), own_i2b (own_i2b (own_ushr ((own_lushr q 32).toInt32) 16)), own_i2b (own_i2b (own_ushr ((own_lushr q 32).toInt32) 8)), own_i2b (own_i2b ((own_lushr q 32).toInt32)), own_i2b (own_i2b (own_ushr q.toInt32 24)), own_i2b (own_i2b (own_ushr q.toInt32 16)), own_i2b (own_i2b (own_ushr q.toInt32 8)), own_i2b (own_i2b q.toInt32), own_i2b (own_i2b p2)] := rfl
  rw [own_C q 56 24 (k := 56) (j := 24) (by decide) (by decide) (by decide) (by decide) (by decide), own_C q 48 16 (k := 48) (j := 16) (by decide) (by decide) (by decide) (by decide) (by decide), own_C q 40 8 (k := 40) (j := 8) (by decide) (by decide) (by decide) (by decide) (by decide), own_D q 24 (k := 24) (j := 24) (by decide) (by decide) (by decide) (by decide) (by decide) (by decide), own_D q 16 (k := 16) (j := 16) (by decide) (by decide) (by decide) (by decide) (by decide) (by decide), own_D q 8 (k := 8) (j := 8) (by decide) (by decide) (by decide) (by decide) (by decide) (by decide), own_C0] at e2
  have s3 : s3_0 (f1_0 (own_i2b p2)) 4 ((own_lushr q 32).toInt32) := ⟨own_inl (n := 13) rfl ⟨by decide, by decide⟩, own_inl (n := 13) rfl ⟨by decide, by decide⟩, own_inl (n := 13) rfl ⟨by decide, by decide⟩, own_inl (n := 13) rfl ⟨by decide, by decide⟩, trivial⟩
  have s3' : s3_0 (f3_0 (f1_0 (own_i2b p2)) 4 ((own_lushr q 32).toInt32)) (4 + 4) q.toInt32 := ⟨own_inl (n := 13) rfl ⟨by decide, by decide⟩, own_inl (n := 13) rfl ⟨by decide, by decide⟩, own_inl (n := 13) rfl ⟨by decide, by decide⟩, own_inl (n := 13) rfl ⟨by decide, by decide⟩, trivial⟩
  have s2 : s2_0 (f1_0 (own_i2b p2)) 4 q := ⟨own_inl (n := 13) rfl ⟨by decide, by decide⟩, own_inl (n := 13) rfl ⟨by decide, by decide⟩, own_inl (n := 13) rfl ⟨by decide, by decide⟩, own_inl (n := 13) rfl ⟨by decide, by decide⟩, own_inl (n := 13) rfl ⟨by decide, by decide⟩, own_inl (n := 13) rfl ⟨by decide, by decide⟩, own_inl (n := 13) rfl ⟨by decide, by decide⟩, own_inl (n := 13) rfl ⟨by decide, by decide⟩, trivial⟩
  rw [e1, e2, own_f4]
  refine ⟨s2, s3, s3', own_s4 _ _ rfl rfl, ⟨⟨own_inl (n := 13) rfl ⟨by decide, by decide⟩, own_inl (n := 13) rfl ⟨by decide, by decide⟩, own_inl (n := 13) rfl ⟨by decide, by decide⟩, own_inl (n := 13) rfl ⟨by decide, by decide⟩, trivial⟩, ⟨own_inl (n := 13) rfl ⟨by decide, by decide⟩, own_inl (n := 13) rfl ⟨by decide, by decide⟩, own_inl (n := 13) rfl ⟨by decide, by decide⟩, own_inl (n := 13) rfl ⟨by decide, by decide⟩, trivial⟩, trivial⟩, ?_, ?_, ?_⟩
  · refine own_long q _ _ ?_ ?_
    · refine (own_four (own_B q 56) (own_B q 48) (own_B q 40) (own_B q 32)).trans ?_
      rw [own_B_nat q 56 (k := 56) (by decide) (by decide), own_B_nat q 48 (k := 48) (by decide) (by decide), own_B_nat q 40 (k := 40) (by decide) (by decide), own_B_nat q 32 (k := 32) (by decide) (by decide)]; omega
    · refine (own_four (own_B q 24) (own_B q 16) (own_B q 8) (own_i2b (own_i2b q.toInt32))).trans ?_
      rw [own_B_nat q 24 (k := 24) (by decide) (by decide), own_B_nat q 16 (k := 16) (by decide) (by decide), own_B_nat q 8 (k := 8) (by decide) (by decide), own_B0_nat]; omega
  · have w : ∀ (v : List Int32) (hv : v.length = 13) (x8 t0 : Int32), s0_83 q 4 (own_i2b p2) v x8 t0 := by
      intro v hv x8 t0
      have i0 : own_in v.length 4 := own_inl hv ⟨by decide, by decide⟩
      have i7 : own_in v.length (4 + 7) := own_inl hv ⟨by decide, by decide⟩
      have i8 : own_in v.length (4 + 8) := own_inl hv ⟨by decide, by decide⟩
      have i9 : own_in v.length (4 - 1) := own_inl hv ⟨by decide, by decide⟩
      have a162 : ∀ x8 x9 x10 x11 t0, s0_162 4 (own_i2b p2) v x8 x9 x10 x11 t0 := fun _ _ _ _ _ => ⟨i8, trivial⟩
      have a138 : ∀ x8 x9 x10 t0, s0_138 4 (own_i2b p2) v x8 x9 x10 t0 := fun _ _ _ _ => ⟨fun _ => a162 _ _ _ _ _, fun _ => ⟨i9, fun _ => a162 _ _ _ _ _, fun _ => a162 _ _ _ _ _⟩⟩
      have a117 : ∀ x8 x9 t0, s0_117 q 4 (own_i2b p2) v x8 x9 t0 := fun _ _ _ => ⟨i7, fun _ => a138 _ _ _ _, fun _ => a138 _ _ _ _⟩
      have a109 : ∀ x8 x9 t0 t1, s0_109 q 4 (own_i2b p2) v x8 x9 t0 t1 := fun _ _ _ _ => ⟨fun _ => a117 _ _ _, fun _ => a117 _ _ _⟩
      have a98 : ∀ x8 x9 t0, s0_98 q 4 (own_i2b p2) v x8 x9 t0 := fun _ _ _ => ⟨fun _ => a109 _ _ _ _, fun _ => a109 _ _ _ _⟩
      exact ⟨i0, fun _ => a98 _ _ _, fun _ => a98 _ _ _⟩
    exact w _ rfl _ _
  · have k0 : own_get [own_i2b (own_i2b p2), own_i2b (own_i2b p2), own_i2b (own_i2b p2), own_i2b (own_i2b p2), own_B q 56, own_B q 48, own_B q 40, own_B q 32, own_B q 24, own_B q 16, own_B q 8, own_i2b (own_i2b q.toInt32), own_i2b (own_i2b p2)] 4 = own_B q 56 := rfl
    have k7 : own_get [own_i2b (own_i2b p2), own_i2b (own_i2b p2), own_i2b (own_i2b p2), own_i2b (own_i2b p2), own_B q 56, own_B q 48, own_B q 40, own_B q 32, own_B q 24, own_B q 16, own_B q 8, own_i2b (own_i2b q.toInt32), own_i2b (own_i2b p2)] (4 + 7) = own_i2b q.toInt32 := Eq.trans (b := own_i2b (own_i2b q.toInt32)) rfl (own_i2b2 _)
    have k8 : own_get [own_i2b (own_i2b p2), own_i2b (own_i2b p2), own_i2b (own_i2b p2), own_i2b (own_i2b p2), own_B q 56, own_B q 48, own_B q 40, own_B q 32, own_B q 24, own_B q 16, own_B q 8, own_i2b (own_i2b q.toInt32), own_i2b (own_i2b p2)] (4 + 8) = own_i2b p2 := Eq.trans (b := own_i2b (own_i2b p2)) rfl (own_i2b2 _)
    have k9 : own_get [own_i2b (own_i2b p2), own_i2b (own_i2b p2), own_i2b (own_i2b p2), own_i2b (own_i2b p2), own_B q 56, own_B q 48, own_B q 40, own_B q 32, own_B q 24, own_B q 16, own_B q 8, own_i2b (own_i2b q.toInt32), own_i2b (own_i2b p2)] (4 - 1) = own_i2b p2 := Eq.trans (b := own_i2b (own_i2b p2)) rfl (own_i2b2 _)
    generalize [own_i2b (own_i2b p2), own_i2b (own_i2b p2), own_i2b (own_i2b p2), own_i2b (own_i2b p2), own_B q 56, own_B q 48, own_B q 40, own_B q 32, own_B q 24, own_B q 16, own_B q 8, own_i2b (own_i2b q.toInt32), own_i2b (own_i2b p2)] = v at k0 k7 k8 k9 ⊢
    have d162 : f0_162 4 (own_i2b p2) v 1 1 1 1 1 = 1 := by rw [f0_162, if_pos k8]; rfl
    have d138 : f0_138 4 (own_i2b p2) v 1 1 1 1 = 1 := by rw [f0_138, if_neg (by decide), if_pos k9]; exact d162
    have d117 : f0_117 q 4 (own_i2b p2) v 1 1 1 = 1 := by rw [f0_117, if_pos k7]; exact d138
    unfold f0_83
    rw [k0]
    by_cases s : q < 0
    · rw [if_pos ((own_neg q).mpr s), f0_98, if_pos s, f0_109, if_pos rfl]; exact d117
    · rw [if_neg (fun k => s ((own_neg q).mp k)), f0_98, if_neg s, f0_109, if_pos rfl]; exact d117
theorem own_both (p0 : Int32) (q1 : Int64) (p2 : Int32) : s0_0 p0 q1 p2 ∧ f0_0 p0 q1 p2 = 1 := by
  unfold s0_0 f0_0
  have m := own_max p0
  have e : (own_rem (p0 &&& 2147483647) 5).toInt = (p0 &&& 2147483647).toInt % 5 := own_emod (by omega)
  have k : own_rem (p0 &&& 2147483647) 5 = 0 ∨ own_rem (p0 &&& 2147483647) 5 = 1 ∨ own_rem (p0 &&& 2147483647) 5 = 2 ∨ own_rem (p0 &&& 2147483647) 5 = 3 ∨ own_rem (p0 &&& 2147483647) 5 = 4 := by
    rw [own_eq, own_eq, own_eq, own_eq, own_eq, show (0 : Int32).toInt = 0 from rfl, show (1 : Int32).toInt = 1 from rfl, show (2 : Int32).toInt = 2 from rfl, show (3 : Int32).toInt = 3 from rfl, show (4 : Int32).toInt = 4 from rfl]
    omega
  generalize own_rem (p0 &&& 2147483647) 5 = a at *
  rcases k with rfl | rfl | rfl | rfl | rfl
  · obtain ⟨r1, r2, r3, r4, r5, r6, r7, r8⟩ := own_at0 q1 p2
    rw [if_pos r6]
    exact ⟨⟨r1, r2, r3, r4, r5, fun _ => r7, fun k => absurd r6 k⟩, r8⟩
  · obtain ⟨r1, r2, r3, r4, r5, r6, r7, r8⟩ := own_at1 q1 p2
    rw [if_pos r6]
    exact ⟨⟨r1, r2, r3, r4, r5, fun _ => r7, fun k => absurd r6 k⟩, r8⟩
  · obtain ⟨r1, r2, r3, r4, r5, r6, r7, r8⟩ := own_at2 q1 p2
    rw [if_pos r6]
    exact ⟨⟨r1, r2, r3, r4, r5, fun _ => r7, fun k => absurd r6 k⟩, r8⟩
  · obtain ⟨r1, r2, r3, r4, r5, r6, r7, r8⟩ := own_at3 q1 p2
    rw [if_pos r6]
    exact ⟨⟨r1, r2, r3, r4, r5, fun _ => r7, fun k => absurd r6 k⟩, r8⟩
  · obtain ⟨r1, r2, r3, r4, r5, r6, r7, r8⟩ := own_at4 q1 p2
    rw [if_pos r6]
    exact ⟨⟨r1, r2, r3, r4, r5, fun _ => r7, fun k => absurd r6 k⟩, r8⟩
theorem own_law (p0 : Int32) (q1 : Int64) (p2 : Int32) : f0_0 p0 q1 p2 = 1 := (own_both p0 q1 p2).2
theorem own_safe (p0 : Int32) (q1 : Int64) (p2 : Int32) : s0_0 p0 q1 p2 := (own_both p0 q1 p2).1

set_option maxRecDepth 65536 in
set_option maxHeartbeats 40000000 in
theorem comes_1 {Post : Tables → Env → Array Value → State → Outcome → State → Prop} (hpost : ∀ tb e args s v u, (limb_1_1.after args s (.returned v) u = true ∧ limb_1_2.after args s (.returned v) u = true) → FrameEnd s (.returned v) u (Jvm.fieldLocs frame_1_writes args s ++ Jvm.arrayLocs frame_1_arrays args s ++ Jvm.staticLocs frame_1_statics s) 16 128 → Post tb e args s (.returned v) u) :
    ArmFor flags0 classFile x code maxLocals ret World_1 tables_1 room_1 Calls_1 rest_1 Pre_1 Post := by
  intro l hfl _ _ p e ha hc hk s m args below hf hA hF happ hP
  obtain ⟨hcalls, hrest, hpre⟩ := hP
  obtain ⟨-, -, -, hnamed, -, -, -, hat⟩ := (Spec.applies_iff hf).mp happ
  obtain ⟨hg, hn⟩ := and_e (Cond.before_iff.mp (show (Jvm.Cond.and given_1 narrow_1).before args s = true from hpre))
  obtain ⟨g1a, g1b⟩ := and_e hg
  obtain ⟨g2a, g2b⟩ := and_e g1b
  obtain ⟨g3a, g3b⟩ := and_e g2b
  obtain ⟨w0, w1, w2, rfl⟩ : ∃ w0 w1 w2 : Value, args = #[w0, w1, w2] := by
    have hs : args.size = 3 := by simpa [Cond.value, given_1] using g1a
    obtain ⟨L⟩ := args
    match L, hs with
    | [w0, w1, w2], _ => exact ⟨w0, w1, w2, rfl⟩
  have hw := fun d (hd : d ∈ tables_1) => atoms_spec (ws := Jvm.Cond.code x code maxLocals ret :: tables_1) hat d (List.mem_cons_of_mem _ hd)
  obtain ⟨i0, ei0⟩ := is_v g2a
  obtain rfl : w0 = (.int i0) := Option.some.inj ei0
  obtain ⟨i1, ei1⟩ := isL_v g3a
  obtain rfl : w1 = (.long i1) := Option.some.inj ei1
  obtain ⟨i2, ei2⟩ := is_v g3b
  obtain rfl : w2 = (.int i2) := Option.some.inj ei2
  obtain ⟨n, o, h1, h2, h3, v, L, rfl, ⟨rfl, rfl⟩, hq⟩ := rm0 l s _ hw tables_1 i0 i1 i2 s.heap (own_safe i0 i1 i2) p e ha hc hk s m _ below hf ((Spec.applies_iff_loose hf).mp happ).1 ⟨rfl, State.Warmed39.refl s, rfl⟩ trivial
  have hv1 := own_law i0 i1 i2
  refine ⟨n, _, h1, h2, h3, hpost _ _ _ _ _ _ ⟨Cond.after_iff.mpr rfl, Cond.after_iff.mpr (eq_i res_at (Term.int_eval (1)) (by rw [hv1]) rfl)⟩ ⟨hq.1, hq.2.1, (hq.2.2.sift fun y hy => nomatch hy).mono (by decide) (by decide)⟩⟩
theorem main_1_1 : Claimed_1_1 := comes_1 fun _ _ _ _ _ _ h hF => ⟨h.1, hF⟩
theorem main_1_2 : Claimed_1_2 := comes_1 fun _ _ _ _ _ _ h hF => ⟨h.2, hF⟩
end Jvm.Pilot.@@N@@
namespace Jvm.Pilot.@@N@@
open Jvm Jvm.ClassFile Sem Op Lib Jvm.Free Jvm.Stand Jvm.Pilot.@@N@@.Jvm.D
/-! MADE BY PROGRAM (witnessworld.py) out of the Statement's table words and the real class files: 9 classes; the members and pool entries that the words name. The judged class is class 1, her method 3. -/
namespace start1
open Jvm.ClassFile
def u (s : String) : CpInfo := .utf8 (stringToUtf16 s)
/-- a pool by its gaps: so many unusable entries, then the entry; so many at the end -/
def gap : Nat → List CpInfo → List CpInfo
  | 0, r => r
  | n + 1, r => .unusable :: gap n r
def poolList (es : List (Nat × CpInfo)) (last : Nat) : List CpInfo := es.foldr (fun e r => gap e.1 (e.2 :: r)) (gap last [])
def pool (es : List (Nat × CpInfo)) (last : Nat) : Array CpInfo := ⟨poolList es last⟩
def fileOf (pool : Array CpInfo) (this : Nat) (attrs : Array Attribute := #[]) (ms : Array MethodInfo := #[]) (fl : Nat := 33) (sup : Nat := 0) (ifs : Array Nat := #[]) (fds : Array FieldInfo := #[]) : ClassFile where
  minorVersion := 0
  majorVersion := 65
  constantPool := pool
  accessFlags := fl
  thisClass := this
  superClass := sup
  interfaces := ifs
  fields := fds
  methods := ms
  attributes := attrs
def plain (name : String) (sup : Option ClassId) : Class where
  name := name
  kind := .ordinary
  loader := none
  accessFlags := 33
  super := sup
  interfaces := #[]
  cf := none
  fields := #[]
  methods := #[]
  instanceTypes := #[]
  staticTypes := #[]
  resolved := #[]
  callSites := []
  init := .initialized
  statics := none
  mirror := none

def pool0 : Array CpInfo := pool [(5, u "<init>"), (0, u "()V"), (1, .class_ 10), (1, u "java/lang/Object")] 113

def k0m0 : Method := { name := "<init>", desc := "()V", sig := { parameters := [], returnType := none }, accessFlags := 1, code := none }
/-- java/lang/Object -/
def k0 : Class := { plain "java/lang/Object" none with
  accessFlags := 33
  interfaces := #[]
  cf := some (fileOf pool0 8 #[] #[{ accessFlags := 1, nameIndex := 5, descriptorIndex := 6, attributes := #[] }] 33 0 #[] #[])
  fields := #[]
  methods := #[k0m0]
  instanceTypes := #[]
  staticTypes := #[]
  resolved := Array.replicate 124 none
  statics := none }

def pool1 : Array CpInfo := pool [(2, .class_ 4), (1, u "java/lang/Object"), (0, u "<init>"), (0, u "()V"), (0, .integer 2147483647), (0, .methodref 9 10), (0, .class_ 11), (0, .nameAndType 12 13), (0, u "com/example/ledgerline/ledgerline/BigEndianPutLongPinLaw"), (0, u "filled"), (0, u "(B)[B"), (0, .methodref 15 16), (0, .class_ 17), (0, .nameAndType 18 19), (0, u "com/example/ledgerline/ledgerline/BigEndian"), (0, u "putLong"), (0, u "([BIJ)V"), (0, .methodref 15 21), (0, .nameAndType 22 23), (0, u "putInt"), (0, u "([BII)V"), (0, .methodref 9 25), (0, .nameAndType 26 27), (0, u "eq13"), (0, u "([B[B)Z"), (0, .methodref 15 29), (0, .nameAndType 30 31), (0, u "getLong"), (0, u "([BI)J"), (3, u "law"), (0, u "(IJI)Z")] 4

def k1m0 : Method := { name := "<init>", desc := "()V", sig := { parameters := [], returnType := none }, accessFlags := 2, code := none }
def k1c1 : Code := { maxStack := 4, maxLocals := 1, code := method_2_code, exceptionTable := #[], attributes := #[] }
def k1m1 : Method := { name := "filled", desc := "(B)[B", sig := { parameters := [.byte], returnType := some (.array .byte) }, accessFlags := 10, code := some k1c1 }
def k1c2 : Code := { maxStack := 3, maxLocals := 2, code := method_3_code, exceptionTable := #[], attributes := #[] }
def k1m2 : Method := { name := "eq13", desc := "([B[B)Z", sig := { parameters := [(.array .byte), (.array .byte)], returnType := some .boolean }, accessFlags := 10, code := some k1c2 }
def k1c3 : Code := { maxStack := 5, maxLocals := 14, code := code, exceptionTable := #[], attributes := #[] }
def k1m3 : Method := { name := "law", desc := "(IJI)Z", sig := { parameters := [.int, .long, .int], returnType := some .boolean }, accessFlags := 9, code := some k1c3 }
/-- com/example/ledgerline/ledgerline/BigEndianPutLongPinLaw -/
def k1 : Class := { plain "com/example/ledgerline/ledgerline/BigEndianPutLongPinLaw" (some 0) with
  accessFlags := 49
  interfaces := #[]
  cf := some (fileOf pool1 9 #[] #[{ accessFlags := 2, nameIndex := 5, descriptorIndex := 6, attributes := #[] }, { accessFlags := 10, nameIndex := 12, descriptorIndex := 13, attributes := #[] }, { accessFlags := 10, nameIndex := 26, descriptorIndex := 27, attributes := #[] }, { accessFlags := 9, nameIndex := 35, descriptorIndex := 36, attributes := #[] }] 49 2 #[] #[])
  fields := #[]
  methods := #[k1m0, k1m1, k1m2, k1m3]
  instanceTypes := #[]
  staticTypes := #[]
  resolved := Array.replicate 41 none
  statics := none }

def pool2 : Array CpInfo := pool [(2, .class_ 4), (1, u "java/lang/Object"), (0, u "<init>"), (0, u "()V"), (0, .methodref 8 9), (0, .class_ 10), (0, .nameAndType 11 12), (0, u "com/example/ledgerline/ledgerline/BigEndian"), (0, u "getInt"), (0, u "([BI)I"), (0, .long 4294967295), (3, u "putInt"), (0, u "([BII)V"), (0, u "putLong"), (0, u "([BIJ)V"), (2, u "getLong"), (0, u "([BI)J")] 2

def k2m0 : Method := { name := "<init>", desc := "()V", sig := { parameters := [], returnType := none }, accessFlags := 2, code := none }
def k2c1 : Code := { maxStack := 4, maxLocals := 3, code := prog_2_method_2_code, exceptionTable := #[], attributes := #[] }
def k2m1 : Method := { name := "putInt", desc := "([BII)V", sig := { parameters := [(.array .byte), .int, .int], returnType := none }, accessFlags := 8, code := some k2c1 }
def k2c2 : Code := { maxStack := 5, maxLocals := 4, code := prog_2_method_3_code, exceptionTable := #[], attributes := #[] }
def k2m2 : Method := { name := "putLong", desc := "([BIJ)V", sig := { parameters := [(.array .byte), .int, .long], returnType := none }, accessFlags := 8, code := some k2c2 }
def k2c3 : Code := { maxStack := 4, maxLocals := 2, code := prog_2_method_5_code, exceptionTable := #[], attributes := #[] }
def k2m3 : Method := { name := "getInt", desc := "([BI)I", sig := { parameters := [(.array .byte), .int], returnType := some .int }, accessFlags := 8, code := some k2c3 }
def k2c4 : Code := { maxStack := 6, maxLocals := 2, code := prog_2_method_6_code, exceptionTable := #[], attributes := #[] }
def k2m4 : Method := { name := "getLong", desc := "([BI)J", sig := { parameters := [(.array .byte), .int], returnType := some .long }, accessFlags := 8, code := some k2c4 }
/-- com/example/ledgerline/ledgerline/BigEndian -/
def k2 : Class := { plain "com/example/ledgerline/ledgerline/BigEndian" (some 0) with
  accessFlags := 48
  interfaces := #[]
  cf := some (fileOf pool2 8 #[] #[{ accessFlags := 2, nameIndex := 5, descriptorIndex := 6, attributes := #[] }, { accessFlags := 8, nameIndex := 17, descriptorIndex := 18, attributes := #[] }, { accessFlags := 8, nameIndex := 19, descriptorIndex := 20, attributes := #[] }, { accessFlags := 8, nameIndex := 11, descriptorIndex := 12, attributes := #[] }, { accessFlags := 8, nameIndex := 23, descriptorIndex := 24, attributes := #[] }] 48 2 #[] #[])
  fields := #[]
  methods := #[k2m0, k2m1, k2m2, k2m3, k2m4]
  instanceTypes := #[]
  staticTypes := #[]
  resolved := Array.replicate 27 none
  statics := none }

def pool3 : Array CpInfo := pool [(1, u "java/lang/Cloneable"), (0, .class_ 1), (0, u "java/lang/Object"), (0, .class_ 3)] 3

/-- java/lang/Cloneable -/
def k3 : Class := { plain "java/lang/Cloneable" (some 0) with
  accessFlags := 1537
  interfaces := #[]
  cf := some (fileOf pool3 2 #[] #[] 1537 4 #[] #[])
  fields := #[]
  methods := #[]
  instanceTypes := #[]
  staticTypes := #[]
  resolved := Array.replicate 8 none
  statics := none }

def pool4 : Array CpInfo := pool [(1, u "java/io/Serializable"), (0, .class_ 1), (0, u "java/lang/Object"), (0, .class_ 3)] 3

/-- java/io/Serializable -/
def k4 : Class := { plain "java/io/Serializable" (some 0) with
  accessFlags := 1537
  interfaces := #[]
  cf := some (fileOf pool4 2 #[] #[] 1537 4 #[] #[])
  fields := #[]
  methods := #[]
  instanceTypes := #[]
  staticTypes := #[]
  resolved := Array.replicate 8 none
  statics := none }

/-- the primitive byte -/
def k5 : Class := { plain "byte" none with kind := .primitive 'B', accessFlags := 0x411 }
/-- [B -/
def k6 : Class := { plain "[B" (some 0) with kind := .array 5 .byte, interfaces := #[3, 4], accessFlags := 1041 }

/-- the primitive int -/
def k7 : Class := { plain "int" none with kind := .primitive 'I', accessFlags := 0x411 }
/-- [I -/
def k8 : Class := { plain "[I" (some 0) with kind := .array 7 .int, interfaces := #[3, 4], accessFlags := 1041 }

def heap : Heap := #[]
def classes : Array Class := #[k0, k1, k2, k3, k4, k5, k6, k7, k8]
def interned : List (Array UInt16 × Addr) := []
def slotsUsed : Nat := 0
def theMethod : MethodId := ⟨1, 3⟩
def args0 : Array Value := #[.int 5, .long 5, .int 5]
def aboutOver (below : List Frame) : State where
  vm := { classes := classes, interned := interned.toArray }
  heap := heap
  slotsUsed := slotsUsed
  threads := #[{ frames := .invoking theMethod args0 :: below }]
def below0 : List Frame := [.native { method := ⟨0, 0⟩, args := #[] }]
def about1 : State := aboutOver below0
def p0 : Program := .bare "" "" ""
def e0 : Env := launch0.env 0 0 0
theorem w_frames : about1.frames = Frame.invoking theMethod args0 :: below0 := rfl
set_option maxRecDepth 65536 in
theorem w_args : argsFit about1.vm theMethod args0 = true := by decide +kernel
set_option maxRecDepth 65536 in
theorem w_heap : heapFits about1 = true := by decide +kernel
set_option maxRecDepth 65536 in
theorem w_runnable : about1.curStatus? = some .runnable := by decide +kernel
set_option maxRecDepth 65536 in
theorem w_alone : about1.alone = true := by decide +kernel
set_option maxRecDepth 65536 in
theorem w_named : about1.methodNamed? x = some theMethod := by decide +kernel
set_option maxRecDepth 65536 in
theorem w_hears : about1.hears theMethod below0 = true := by decide +kernel
set_option maxRecDepth 65536 in
theorem w_ripe : about1.ripe theMethod args0 below0 = true := by decide +kernel
theorem w_running : about1.status = .running := rfl
set_option maxRecDepth 65536 in
theorem w_room : about1.hasRoom e0.platform room_1 = true :=
  launch0.hasRoom_least _ room_1 (by decide +kernel) (by decide +kernel) (by decide +kernel) (by decide +kernel) (by decide +kernel) (by decide +kernel)
theorem allAtoms_all (ts : List Jvm.Cond) (a : Array Jvm.Value) (st : Jvm.State) : (allAtoms ts).before a st = ts.all (fun c => c.before a st) := by
  induction ts with
  | nil => rfl
  | cons c t ih =>
    show (Jvm.Cond.and c (allAtoms t)).before a st = _
    rw [Jvm.Cond.before_and, ih, List.all_cons]
def words1 : List Jvm.Cond := Jvm.Cond.code x code maxLocals ret :: tables_1
/-- a 'code' word, met by the world's own term for the bytes: nothing is compared byte by byte -/
theorem code_word {y : MethodName} {bytes : ByteArray} {mx : Nat} {rt : Option FieldType} {a : Array Value} {s : State} {m : MethodId} {meth : Method} {c : Code} (h1 : s.methodNamed? y = some m) (h2 : s.vm.method? m = some meth) (h3 : meth.code = some c) (h4 : c.code = bytes)
    (h5 : (c.maxLocals == mx && c.exceptionTable.isEmpty && decide (c.maxStack ≤ mostOperands) && decide (meth.sig.returnType = rt) && !meth.locks && decide (parseMethodDescriptor y.desc = some meth.sig)) = true) : (Jvm.Cond.code y bytes mx rt).before a s = true := by
  simp only [Bool.and_eq_true, beq_iff_eq, Bool.not_eq_true', decide_eq_true_eq] at h5
  obtain ⟨⟨⟨⟨⟨g1, g2⟩, g3⟩, g4⟩, g5⟩, g6⟩ := h5
  simp [Cond.before, Cond.holds, Cond.value, h1, h2, h3, h4, g1, g2, g3, g4, g5, g6]
def isCode : Jvm.Cond → Bool
  | .code _ _ _ _ => true
  | _ => false
theorem all_split {L : List Jvm.Cond} {P : Jvm.Cond → Bool} (h1 : L.all (fun c => isCode c || P c) = true) (h2 : ∀ c ∈ L.filter isCode, P c = true) : L.all P = true := by
  refine List.all_eq_true.mpr fun c hc => ?_
  have h := List.all_eq_true.mp h1 c hc
  rcases Bool.eq_false_or_eq_true (isCode c) with hi | hi
  · exact h2 c (List.mem_filter.mpr ⟨hc, hi⟩)
  · simpa [hi] using h
set_option maxRecDepth 65536 in
theorem w_c0 : (Jvm.Cond.code x code maxLocals ret).before args0 about1 = true := code_word (m := ⟨1, 3⟩) (meth := k1m3) (c := k1c3) (by decide +kernel) rfl rfl rfl (by decide +kernel)
set_option maxRecDepth 65536 in
theorem w_c1 : (Jvm.Cond.code ({ cls := "com/example/ledgerline/ledgerline/BigEndianPutLongPinLaw", name := "filled", desc := "(B)[B" } : Jvm.MethodName) method_2_code (1 : Nat) (Option.some (Jvm.ClassFile.FieldType.array Jvm.ClassFile.FieldType.byte))).before args0 about1 = true := code_word (m := ⟨1, 1⟩) (meth := k1m1) (c := k1c1) (by decide +kernel) rfl rfl rfl (by decide +kernel)
set_option maxRecDepth 65536 in
theorem w_c2 : (Jvm.Cond.code ({ cls := "com/example/ledgerline/ledgerline/BigEndian", name := "putLong", desc := "([BIJ)V" } : Jvm.MethodName) prog_2_method_3_code (4 : Nat) (Option.none : Option Jvm.ClassFile.FieldType)).before args0 about1 = true := code_word (m := ⟨2, 2⟩) (meth := k2m2) (c := k2c2) (by decide +kernel) rfl rfl rfl (by decide +kernel)
set_option maxRecDepth 65536 in
theorem w_c3 : (Jvm.Cond.code ({ cls := "com/example/ledgerline/ledgerline/BigEndian", name := "putInt", desc := "([BII)V" } : Jvm.MethodName) prog_2_method_2_code (3 : Nat) (Option.none : Option Jvm.ClassFile.FieldType)).before args0 about1 = true := code_word (m := ⟨2, 1⟩) (meth := k2m1) (c := k2c1) (by decide +kernel) rfl rfl rfl (by decide +kernel)
set_option maxRecDepth 65536 in
theorem w_c4 : (Jvm.Cond.code ({ cls := "com/example/ledgerline/ledgerline/BigEndianPutLongPinLaw", name := "eq13", desc := "([B[B)Z" } : Jvm.MethodName) method_3_code (2 : Nat) (Option.some Jvm.ClassFile.FieldType.boolean)).before args0 about1 = true := code_word (m := ⟨1, 2⟩) (meth := k1m2) (c := k1c2) (by decide +kernel) rfl rfl rfl (by decide +kernel)
set_option maxRecDepth 65536 in
theorem w_c5 : (Jvm.Cond.code ({ cls := "com/example/ledgerline/ledgerline/BigEndian", name := "getLong", desc := "([BI)J" } : Jvm.MethodName) prog_2_method_6_code (2 : Nat) (Option.some Jvm.ClassFile.FieldType.long)).before args0 about1 = true := code_word (m := ⟨2, 4⟩) (meth := k2m4) (c := k2c4) (by decide +kernel) rfl rfl rfl (by decide +kernel)
set_option maxRecDepth 65536 in
theorem w_c6 : (Jvm.Cond.code ({ cls := "com/example/ledgerline/ledgerline/BigEndian", name := "getInt", desc := "([BI)I" } : Jvm.MethodName) prog_2_method_5_code (2 : Nat) (Option.some Jvm.ClassFile.FieldType.int)).before args0 about1 = true := code_word (m := ⟨2, 3⟩) (meth := k2m3) (c := k2c3) (by decide +kernel) rfl rfl rfl (by decide +kernel)
def codes1 : List Jvm.Cond := [Jvm.Cond.code x code maxLocals ret, Jvm.Cond.code ({ cls := "com/example/ledgerline/ledgerline/BigEndianPutLongPinLaw", name := "filled", desc := "(B)[B" } : Jvm.MethodName) method_2_code (1 : Nat) (Option.some (Jvm.ClassFile.FieldType.array Jvm.ClassFile.FieldType.byte)), Jvm.Cond.code ({ cls := "com/example/ledgerline/ledgerline/BigEndian", name := "putLong", desc := "([BIJ)V" } : Jvm.MethodName) prog_2_method_3_code (4 : Nat) (Option.none : Option Jvm.ClassFile.FieldType), Jvm.Cond.code ({ cls := "com/example/ledgerline/ledgerline/BigEndian", name := "putInt", desc := "([BII)V" } : Jvm.MethodName) prog_2_method_2_code (3 : Nat) (Option.none : Option Jvm.ClassFile.FieldType), Jvm.Cond.code ({ cls := "com/example/ledgerline/ledgerline/BigEndianPutLongPinLaw", name := "eq13", desc := "([B[B)Z" } : Jvm.MethodName) method_3_code (2 : Nat) (Option.some Jvm.ClassFile.FieldType.boolean), Jvm.Cond.code ({ cls := "com/example/ledgerline/ledgerline/BigEndian", name := "getLong", desc := "([BI)J" } : Jvm.MethodName) prog_2_method_6_code (2 : Nat) (Option.some Jvm.ClassFile.FieldType.long), Jvm.Cond.code ({ cls := "com/example/ledgerline/ledgerline/BigEndian", name := "getInt", desc := "([BI)I" } : Jvm.MethodName) prog_2_method_5_code (2 : Nat) (Option.some Jvm.ClassFile.FieldType.int)]
set_option maxRecDepth 65536 in
theorem codes_eq : words1.filter isCode = codes1 := rfl
theorem w_codes : ∀ c ∈ words1.filter isCode, c.before args0 about1 = true := by
  rw [codes_eq]
  intro c hc
  simp only [codes1, List.mem_cons, List.not_mem_nil, or_false] at hc
  rcases hc with rfl | rfl | rfl | rfl | rfl | rfl | rfl
  · exact w_c0
  · exact w_c1
  · exact w_c2
  · exact w_c3
  · exact w_c4
  · exact w_c5
  · exact w_c6
set_option maxRecDepth 65536 in
theorem w_t1 : words1.all (fun c => isCode c || c.before args0 about1) = true := by decide +kernel
theorem w_tables : (allAtoms (Jvm.Cond.code x code maxLocals ret :: tables_1)).before args0 about1 = true := by
  rw [allAtoms_all]
  show words1.all (fun c => c.before args0 about1) = true
  refine all_split ?_ w_codes
  rw [w_t1]
set_option maxRecDepth 65536 in
theorem w_case : (Jvm.Cond.and given_1 narrow_1).before args0 about1 = true := by decide +kernel
theorem w_applies : (headSpec (Jvm.Cond.code x code maxLocals ret :: tables_1) room_1).applies x e0.platform about1 = true :=
  (Spec.applies_iff w_frames).mpr ⟨w_running, w_runnable, w_alone, w_named, w_hears, w_ripe, w_room, w_tables⟩
theorem atStart : AtStart classFile x code maxLocals ret World_1 tables_1 room_1 Calls_1 rest_1 Pre_1 launch0 p0 e0 about1 theMethod args0 below0 :=
  ⟨lists_1, trivial, launch0.admits_env _ _ _, launch0.least_env, fairChoices_fair.cas, fairChoices_fair.clock, w_frames, w_args, w_heap, w_applies, trivial, trivial, w_case⟩
end start1
theorem witness_1 : WitnessClaimed_1 := ⟨start1.p0, start1.e0, start1.about1, start1.theMethod, start1.args0, start1.below0, start1.atStart⟩
end Jvm.Pilot.@@N@@
