import JvmDerived
import JvmDerived.Pilot.@@N@@Statement
import JvmDerived.Pilot.@@N@@Code
set_option linter.unusedVariables false
set_option linter.unusedSimpArgs false
@@BLOCK:NumsL.lean.txt@@
namespace Jvm.RoadKit
open Sem ClassFile Op Lib Jvm.Stand Jvm.Free Jvm.LawKit
section New
variable {p : Program} {l : Launch} {e : Env} {R : Room} {s : State} {m : MethodId} {args : Array Value} {below : List Frame} {meth : Method} {c : Code} {T : State} {locs : List Loc} {cells slots : Nat}
theorem retI (X : Stand p l e R s m args below meth c T locs cells slots) (hx : p.tables.exec = Jvm.exec) {pc : Nat} {Ls : Array Slot} {z : Int32} {rest : List Value} (hret : meth.sig.returnType = some .int) (hd : decode c.code pc = .ok (.ireturn, 1)) {fs : List Frame}
    (hl : ∀ (f : JFrame) (acts : List Action), f.method = m → f.locked = none → f.entered = [] → (doReturn e (T.setTop f) acts (some (.int z))).1 = T.setFrames fs) : Steps p.tables e below (T.setTop (mkF m pc Ls (.int z :: rest))) (T.setFrames fs) := by
  have hm' : T.vm.method? m = some meth := X.method'
  have hn : narrow .int (.int z) = .int z := rfl
  show Steps p.tables e below (T.setTop { method := m, pc := pc, locals := Ls, stack := _ :: rest, locked := none }) _
  jvm_step X.here [X.here.top, hx, hd, hm', hret, hn]
  first | (intro acts; rw [hl _ acts rfl rfl rfl]) | rw [hl _ _ rfl rfl rfl]
  exact Steps.refl _
end New
end Jvm.RoadKit
namespace Jvm.Pilot.@@N@@
open Jvm Jvm.ClassFile Sem Op Lib Jvm.Free Jvm.Stand Jvm.LawKit Jvm.RoadKit Bundle Jvm.Pilot.@@N@@.Jvm.D
/-! OWN KIT: a run that comes to an end, one law an instruction, arrays as lists (written once, pasted by wip/gen/lawgen.py) -/
section OwnKit
variable {p : Program} {l : Launch} {e : Env} {R : Room} {s : State} {m : MethodId} {args : Array Value} {below : List Frame} {meth : Method} {c : Code} {T T' : State} {locs : List Loc} {cells slots : Nat} {Z : State} {a0 : Array Value} {h h' : Heap}
variable {Q : Outcome → State → Prop} {K : Option Value → Heap → List Loc → Prop} {cc ss : Nat}
variable {pc pc' pc1 pc2 : Nat} {Ls l' : Array Slot} {rest : List Value} {x y : Int32} {u w : Int64}
/-- from T, with g on top, the run comes to an end of which Q holds -/
def own_Go (p : Program) (e : Env) (below : List Frame) (Q : Outcome → State → Prop) (T : State) (g : JFrame) : Prop :=
  ∃ s₂ o, Steps p.tables e below (T.setTop g) s₂ ∧ s₂.status = .running ∧ Ended s₂ below o ∧ Q o s₂
/-- what a body's end says: it returned, K holds of the value, the heap and the old places written -/
def own_Q (s : State) (K : Option Value → Heap → List Loc → Prop) (cc ss : Nat) : Outcome → State → Prop := fun o t => ∃ v L, o = .returned v ∧ K v t.heap L ∧ FrameEnd s o t L cc ss
/-- what stands fast in one body -/
def own_Cx (p : Program) (s : State) (m : MethodId) (meth : Method) (c : Code) (Z : State) (a0 : Array Value) (bytes : ByteArray) (ml : Nat) (own : String) (rt : Option FieldType) (nm : String) : Prop :=
  p.tables.exec = Jvm.exec ∧ Z.Warmed39 s.vm ∧ (∀ d ∈ tables_1, d.before a0 Z = true) ∧ c.code = bytes ∧ c.maxLocals = ml ∧ s.vm.findClass own = some m.cls ∧ meth.sig.returnType = rt ∧ meth.locks = false ∧ meth.name = nm
theorem own_go {g g' : JFrame} (st : ∀ t, Steps p.tables e below (T'.setTop g') t → Steps p.tables e below (T.setTop g) t) (k : own_Go p e below Q T' g') : own_Go p e below Q T g := by
  obtain ⟨s₂, o, h1, h2⟩ := k
  exact ⟨s₂, o, st _ h1, h2⟩
theorem o_iloadN (X : Stand p l e R s m args below meth c T locs cells slots) (hx : p.tables.exec = Jvm.exec) {k : Fin 4} {v : Int32} (hd : decode c.code pc = .ok (.iload_n k, 1)) (hl : Ls[k.val]? = some (.val (.int v))) (hp : pc + 1 = pc') (q : own_Go p e below Q T (mkF m pc' Ls (.int v :: rest))) : own_Go p e below Q T (mkF m pc Ls rest) := by
  subst hp; exact own_go (fun t k' => XS.iloadN X.here hx rfl hd hl k') q
theorem o_iload (X : Stand p l e R s m args below meth c T locs cells slots) (hx : p.tables.exec = Jvm.exec) {k : Nat} {v : Int32} (hd : decode c.code pc = .ok (.iload k, 2)) (hl : Ls[k]? = some (.val (.int v))) (hp : pc + 2 = pc') (q : own_Go p e below Q T (mkF m pc' Ls (.int v :: rest))) : own_Go p e below Q T (mkF m pc Ls rest) := by
  subst hp; exact own_go (fun t k' => XS.iload X.here hx rfl hd hl k') q
theorem o_lloadN (X : Stand p l e R s m args below meth c T locs cells slots) (hx : p.tables.exec = Jvm.exec) {k : Fin 4} {v : Int64} (hd : decode c.code pc = .ok (.lload_n k, 1)) (hl : Ls[k.val]? = some (.val (.long v))) (hp : pc + 1 = pc') (q : own_Go p e below Q T (mkF m pc' Ls (.long v :: rest))) : own_Go p e below Q T (mkF m pc Ls rest) := by
  subst hp; exact own_go (fun t k' => XS.lloadN X.here hx rfl hd hl k') q
theorem o_lload (X : Stand p l e R s m args below meth c T locs cells slots) (hx : p.tables.exec = Jvm.exec) {k : Nat} {v : Int64} (hd : decode c.code pc = .ok (.lload k, 2)) (hl : Ls[k]? = some (.val (.long v))) (hp : pc + 2 = pc') (q : own_Go p e below Q T (mkF m pc' Ls (.long v :: rest))) : own_Go p e below Q T (mkF m pc Ls rest) := by
  subst hp; exact own_go (fun t k' => XS.lload X.here hx rfl hd hl k') q
theorem o_aloadN (X : Stand p l e R s m args below meth c T locs cells slots) (hx : p.tables.exec = Jvm.exec) {k : Fin 4} {v : Value} (hd : decode c.code pc = .ok (.aload_n k, 1)) (hl : Ls[k.val]? = some (.val v)) (hv : v.isRef = true) (hp : pc + 1 = pc') (q : own_Go p e below Q T (mkF m pc' Ls (v :: rest))) : own_Go p e below Q T (mkF m pc Ls rest) := by
  subst hp; exact own_go (fun t k' => XS.aloadN X.here hx rfl hd hl hv k') q
theorem o_aload (X : Stand p l e R s m args below meth c T locs cells slots) (hx : p.tables.exec = Jvm.exec) {k : Nat} {v : Value} (hd : decode c.code pc = .ok (.aload k, 2)) (hl : Ls[k]? = some (.val v)) (hv : v.isRef = true) (hp : pc + 2 = pc') (q : own_Go p e below Q T (mkF m pc' Ls (v :: rest))) : own_Go p e below Q T (mkF m pc Ls rest) := by
  subst hp; exact own_go (fun t k' => XS.aload X.here hx rfl hd hl hv k') q
theorem o_istoreN (X : Stand p l e R s m args below meth c T locs cells slots) (hx : p.tables.exec = Jvm.exec) {k : Fin 4} (hd : decode c.code pc = .ok (.istore_n k, 1)) (hl : storeLocals Ls k.val (.int x) = some l') (hp : pc + 1 = pc') (q : own_Go p e below Q T (mkF m pc' l' rest)) : own_Go p e below Q T (mkF m pc Ls (.int x :: rest)) := by
  subst hp; exact own_go (fun t k' => XS.istoreN X.here hx rfl hd rfl hl k') q
theorem o_istore (X : Stand p l e R s m args below meth c T locs cells slots) (hx : p.tables.exec = Jvm.exec) {k : Nat} (hd : decode c.code pc = .ok (.istore k, 2)) (hl : storeLocals Ls k (.int x) = some l') (hp : pc + 2 = pc') (q : own_Go p e below Q T (mkF m pc' l' rest)) : own_Go p e below Q T (mkF m pc Ls (.int x :: rest)) := by
  subst hp; exact own_go (fun t k' => XS.istore X.here hx rfl hd rfl hl k') q
theorem o_lstoreN (X : Stand p l e R s m args below meth c T locs cells slots) (hx : p.tables.exec = Jvm.exec) {k : Fin 4} (hd : decode c.code pc = .ok (.lstore_n k, 1)) (hl : storeLocals Ls k.val (.long u) = some l') (hp : pc + 1 = pc') (q : own_Go p e below Q T (mkF m pc' l' rest)) : own_Go p e below Q T (mkF m pc Ls (.long u :: rest)) := by
  subst hp; exact own_go (fun t k' => XS.lstoreN X.here hx rfl hd rfl hl k') q
theorem o_lstore (X : Stand p l e R s m args below meth c T locs cells slots) (hx : p.tables.exec = Jvm.exec) {k : Nat} (hd : decode c.code pc = .ok (.lstore k, 2)) (hl : storeLocals Ls k (.long u) = some l') (hp : pc + 2 = pc') (q : own_Go p e below Q T (mkF m pc' l' rest)) : own_Go p e below Q T (mkF m pc Ls (.long u :: rest)) := by
  subst hp; exact own_go (fun t k' => XS.lstore X.here hx rfl hd rfl hl k') q
theorem o_astoreN (X : Stand p l e R s m args below meth c T locs cells slots) (hx : p.tables.exec = Jvm.exec) {k : Fin 4} {v : Value} (hd : decode c.code pc = .ok (.astore_n k, 1)) (hv : v.isRef = true) (hl : storeLocals Ls k.val v = some l') (hp : pc + 1 = pc') (q : own_Go p e below Q T (mkF m pc' l' rest)) : own_Go p e below Q T (mkF m pc Ls (v :: rest)) := by
  subst hp; exact own_go (fun t k' => XS.astoreN X.here hx rfl hd rfl hv hl k') q
theorem o_astore (X : Stand p l e R s m args below meth c T locs cells slots) (hx : p.tables.exec = Jvm.exec) {k : Nat} {v : Value} (hd : decode c.code pc = .ok (.astore k, 2)) (hv : v.isRef = true) (hl : storeLocals Ls k v = some l') (hp : pc + 2 = pc') (q : own_Go p e below Q T (mkF m pc' l' rest)) : own_Go p e below Q T (mkF m pc Ls (v :: rest)) := by
  subst hp; exact own_go (fun t k' => XS.astore X.here hx rfl hd rfl hv hl k') q
theorem o_iconst (X : Stand p l e R s m args below meth c T locs cells slots) (hx : p.tables.exec = Jvm.exec) {i : Int} (hd : decode c.code pc = .ok (.iconst i, 1)) (hv : Int32.ofInt i = x) (hp : pc + 1 = pc') (q : own_Go p e below Q T (mkF m pc' Ls (.int x :: rest))) : own_Go p e below Q T (mkF m pc Ls rest) := by
  subst hp hv; exact own_go (fun t k' => XS.iconst X.here hx rfl hd k') q
theorem o_bipush (X : Stand p l e R s m args below meth c T locs cells slots) (hx : p.tables.exec = Jvm.exec) {i : Int} (hd : decode c.code pc = .ok (.bipush i, 2)) (hv : (Int8.ofInt i).toInt32 = x) (hp : pc + 2 = pc') (q : own_Go p e below Q T (mkF m pc' Ls (.int x :: rest))) : own_Go p e below Q T (mkF m pc Ls rest) := by
  subst hp hv; exact own_go (fun t k' => XS.bipush X.here hx rfl hd k') q
theorem o_sipush (X : Stand p l e R s m args below meth c T locs cells slots) (hx : p.tables.exec = Jvm.exec) {i : Int} (hd : decode c.code pc = .ok (.sipush i, 3)) (hv : (Int16.ofInt i).toInt32 = x) (hp : pc + 3 = pc') (q : own_Go p e below Q T (mkF m pc' Ls (.int x :: rest))) : own_Go p e below Q T (mkF m pc Ls rest) := by
  subst hp hv; exact own_go (fun t k' => XS.sipush X.here hx rfl hd k') q
theorem o_lconst (X : Stand p l e R s m args below meth c T locs cells slots) (hx : p.tables.exec = Jvm.exec) {k : Fin 2} (hd : decode c.code pc = .ok (.lconst k, 1)) (hv : Int64.ofNat k = u) (hp : pc + 1 = pc') (q : own_Go p e below Q T (mkF m pc' Ls (.long u :: rest))) : own_Go p e below Q T (mkF m pc Ls rest) := by
  subst hp hv; exact own_go (fun t k' => XS.lconst X.here hx rfl hd k') q
theorem o_ldcI (X : Stand p l e R s m args below meth c T locs cells slots) (hx : p.tables.exec = Jvm.exec) (hZ : Z.Warmed39 s.vm) {own : String} {index : Nat} (hown : s.vm.findClass own = some m.cls) (w1 : (Cond.constant own index x).before a0 Z = true) (hd : decode c.code pc = .ok (.ldc index, 2)) (hp : pc + 2 = pc') (q : own_Go p e below Q T (mkF m pc' Ls (.int x :: rest))) : own_Go p e below Q T (mkF m pc Ls rest) := by
  subst hp; exact own_go (fun t k' => X.ldcInt hx hown (mvT hZ w1) (g := mkF m pc Ls rest) rfl hd t k') q
theorem o_ldcL (X : Stand p l e R s m args below meth c T locs cells slots) (hx : p.tables.exec = Jvm.exec) (hZ : Z.Warmed39 s.vm) {own : String} {index : Nat} (hown : s.vm.findClass own = some m.cls) (w1 : (Cond.constantLong own index u).before a0 Z = true) (hd : decode c.code pc = .ok (.ldc2_w index, 3)) (hp : pc + 3 = pc') (q : own_Go p e below Q T (mkF m pc' Ls (.long u :: rest))) : own_Go p e below Q T (mkF m pc Ls rest) := by
  subst hp; exact own_go (fun t k' => X.ldc2Long hx hown (mvT hZ w1) (g := mkF m pc Ls rest) rfl hd t k') q
theorem o_iadd (X : Stand p l e R s m args below meth c T locs cells slots) (hx : p.tables.exec = Jvm.exec) (hd : decode c.code pc = .ok (.iadd, 1)) (hp : pc + 1 = pc') {z : Int32} (hz : x + y = z) (q : own_Go p e below Q T (mkF m pc' Ls (.int z :: rest))) : own_Go p e below Q T (mkF m pc Ls (.int y :: .int x :: rest)) := by
  subst hp hz; exact own_go (fun t k' => XS.iadd X.here hx rfl hd rfl k') q
theorem o_isub (X : Stand p l e R s m args below meth c T locs cells slots) (hx : p.tables.exec = Jvm.exec) (hd : decode c.code pc = .ok (.isub, 1)) (hp : pc + 1 = pc') {z : Int32} (hz : x - y = z) (q : own_Go p e below Q T (mkF m pc' Ls (.int z :: rest))) : own_Go p e below Q T (mkF m pc Ls (.int y :: .int x :: rest)) := by
  subst hp hz; exact own_go (fun t k' => XS.isub X.here hx rfl hd rfl k') q
theorem o_imul (X : Stand p l e R s m args below meth c T locs cells slots) (hx : p.tables.exec = Jvm.exec) (hd : decode c.code pc = .ok (.imul, 1)) (hp : pc + 1 = pc') {z : Int32} (hz : x * y = z) (q : own_Go p e below Q T (mkF m pc' Ls (.int z :: rest))) : own_Go p e below Q T (mkF m pc Ls (.int y :: .int x :: rest)) := by
  subst hp hz; exact own_go (fun t k' => XS.imul X.here hx rfl hd rfl k') q
theorem o_iand (X : Stand p l e R s m args below meth c T locs cells slots) (hx : p.tables.exec = Jvm.exec) (hd : decode c.code pc = .ok (.iand, 1)) (hp : pc + 1 = pc') {z : Int32} (hz : x &&& y = z) (q : own_Go p e below Q T (mkF m pc' Ls (.int z :: rest))) : own_Go p e below Q T (mkF m pc Ls (.int y :: .int x :: rest)) := by
  subst hp hz; exact own_go (fun t k' => XS.iand X.here hx rfl hd rfl k') q
theorem o_ior (X : Stand p l e R s m args below meth c T locs cells slots) (hx : p.tables.exec = Jvm.exec) (hd : decode c.code pc = .ok (.ior, 1)) (hp : pc + 1 = pc') {z : Int32} (hz : x ||| y = z) (q : own_Go p e below Q T (mkF m pc' Ls (.int z :: rest))) : own_Go p e below Q T (mkF m pc Ls (.int y :: .int x :: rest)) := by
  subst hp hz; exact own_go (fun t k' => XS.ior X.here hx rfl hd rfl k') q
theorem o_ixor (X : Stand p l e R s m args below meth c T locs cells slots) (hx : p.tables.exec = Jvm.exec) (hd : decode c.code pc = .ok (.ixor, 1)) (hp : pc + 1 = pc') {z : Int32} (hz : x ^^^ y = z) (q : own_Go p e below Q T (mkF m pc' Ls (.int z :: rest))) : own_Go p e below Q T (mkF m pc Ls (.int y :: .int x :: rest)) := by
  subst hp hz; exact own_go (fun t k' => XS.ixor X.here hx rfl hd rfl k') q
/-- Java's shifts, remainders: under names of our own -/
def own_shl (x y : Int32) : Int32 := x <<< (y &&& 31)
def own_shr (x y : Int32) : Int32 := x >>> (y &&& 31)
def own_ushr (x y : Int32) : Int32 := (x.toUInt32 >>> (y &&& 31).toUInt32).toInt32
def own_rem (x y : Int32) : Int32 := x - (x / y) * y
def own_lshl (u : Int64) (y : Int32) : Int64 := u <<< (y &&& 0x3f).toInt64
def own_lushr (u : Int64) (y : Int32) : Int64 := (u.toUInt64 >>> (y &&& 0x3f).toInt64.toUInt64).toInt64
def own_lrem (u w : Int64) : Int64 := u - (u / w) * w
theorem o_ishl (X : Stand p l e R s m args below meth c T locs cells slots) (hx : p.tables.exec = Jvm.exec) (hd : decode c.code pc = .ok (.ishl, 1)) (hp : pc + 1 = pc') {z : Int32} (hz : own_shl x y = z) (q : own_Go p e below Q T (mkF m pc' Ls (.int z :: rest))) : own_Go p e below Q T (mkF m pc Ls (.int y :: .int x :: rest)) := by
  subst hp hz; exact own_go (fun t k' => XS.ishl X.here hx rfl hd rfl k') q
theorem o_ishr (X : Stand p l e R s m args below meth c T locs cells slots) (hx : p.tables.exec = Jvm.exec) (hd : decode c.code pc = .ok (.ishr, 1)) (hp : pc + 1 = pc') {z : Int32} (hz : own_shr x y = z) (q : own_Go p e below Q T (mkF m pc' Ls (.int z :: rest))) : own_Go p e below Q T (mkF m pc Ls (.int y :: .int x :: rest)) := by
  subst hp hz; exact own_go (fun t k' => XS.ishr X.here hx rfl hd rfl k') q
theorem o_iushr (X : Stand p l e R s m args below meth c T locs cells slots) (hx : p.tables.exec = Jvm.exec) (hd : decode c.code pc = .ok (.iushr, 1)) (hp : pc + 1 = pc') {z : Int32} (hz : own_ushr x y = z) (q : own_Go p e below Q T (mkF m pc' Ls (.int z :: rest))) : own_Go p e below Q T (mkF m pc Ls (.int y :: .int x :: rest)) := by
  subst hp hz; exact own_go (fun t k' => XS.iushr X.here hx rfl hd rfl k') q
theorem o_irem (X : Stand p l e R s m args below meth c T locs cells slots) (hx : p.tables.exec = Jvm.exec) (hd : decode c.code pc = .ok (.irem, 1)) (hp : pc + 1 = pc') (hy : y ≠ 0) {z : Int32} (hz : own_rem x y = z) (q : own_Go p e below Q T (mkF m pc' Ls (.int z :: rest))) : own_Go p e below Q T (mkF m pc Ls (.int y :: .int x :: rest)) := by
  subst hp hz; exact own_go (fun t k' => XS.irem X.here hx rfl hd rfl hy k') q
theorem o_idiv (X : Stand p l e R s m args below meth c T locs cells slots) (hx : p.tables.exec = Jvm.exec) (hd : decode c.code pc = .ok (.idiv, 1)) (hp : pc + 1 = pc') (hy : y ≠ 0) {z : Int32} (hz : x / y = z) (q : own_Go p e below Q T (mkF m pc' Ls (.int z :: rest))) : own_Go p e below Q T (mkF m pc Ls (.int y :: .int x :: rest)) := by
  subst hp hz; exact own_go (fun t k' => XS.idiv X.here hx rfl hd rfl hy k') q
theorem o_ineg (X : Stand p l e R s m args below meth c T locs cells slots) (hx : p.tables.exec = Jvm.exec) (hd : decode c.code pc = .ok (.ineg, 1)) (hp : pc + 1 = pc') {z : Int32} (hz : -x = z) (q : own_Go p e below Q T (mkF m pc' Ls (.int z :: rest))) : own_Go p e below Q T (mkF m pc Ls (.int x :: rest)) := by
  subst hp hz; exact own_go (fun t k' => XS.ineg X.here hx rfl hd rfl k') q
theorem o_ladd (X : Stand p l e R s m args below meth c T locs cells slots) (hx : p.tables.exec = Jvm.exec) (hd : decode c.code pc = .ok (.ladd, 1)) (hp : pc + 1 = pc') {z : Int64} (hz : u + w = z) (q : own_Go p e below Q T (mkF m pc' Ls (.long z :: rest))) : own_Go p e below Q T (mkF m pc Ls (.long w :: .long u :: rest)) := by
  subst hp hz; exact own_go (fun t k' => XS.ladd X.here hx rfl hd rfl k') q
theorem o_lsub (X : Stand p l e R s m args below meth c T locs cells slots) (hx : p.tables.exec = Jvm.exec) (hd : decode c.code pc = .ok (.lsub, 1)) (hp : pc + 1 = pc') {z : Int64} (hz : u - w = z) (q : own_Go p e below Q T (mkF m pc' Ls (.long z :: rest))) : own_Go p e below Q T (mkF m pc Ls (.long w :: .long u :: rest)) := by
  subst hp hz; exact own_go (fun t k' => XS.lsub X.here hx rfl hd rfl k') q
theorem o_lmul (X : Stand p l e R s m args below meth c T locs cells slots) (hx : p.tables.exec = Jvm.exec) (hd : decode c.code pc = .ok (.lmul, 1)) (hp : pc + 1 = pc') {z : Int64} (hz : u * w = z) (q : own_Go p e below Q T (mkF m pc' Ls (.long z :: rest))) : own_Go p e below Q T (mkF m pc Ls (.long w :: .long u :: rest)) := by
  subst hp hz; exact own_go (fun t k' => XS.lmul X.here hx rfl hd rfl k') q
theorem o_land (X : Stand p l e R s m args below meth c T locs cells slots) (hx : p.tables.exec = Jvm.exec) (hd : decode c.code pc = .ok (.land, 1)) (hp : pc + 1 = pc') {z : Int64} (hz : u &&& w = z) (q : own_Go p e below Q T (mkF m pc' Ls (.long z :: rest))) : own_Go p e below Q T (mkF m pc Ls (.long w :: .long u :: rest)) := by
  subst hp hz; exact own_go (fun t k' => XS.land X.here hx rfl hd rfl k') q
theorem o_lor (X : Stand p l e R s m args below meth c T locs cells slots) (hx : p.tables.exec = Jvm.exec) (hd : decode c.code pc = .ok (.lor, 1)) (hp : pc + 1 = pc') {z : Int64} (hz : u ||| w = z) (q : own_Go p e below Q T (mkF m pc' Ls (.long z :: rest))) : own_Go p e below Q T (mkF m pc Ls (.long w :: .long u :: rest)) := by
  subst hp hz; exact own_go (fun t k' => XS.lor X.here hx rfl hd rfl k') q
theorem o_lxor (X : Stand p l e R s m args below meth c T locs cells slots) (hx : p.tables.exec = Jvm.exec) (hd : decode c.code pc = .ok (.lxor, 1)) (hp : pc + 1 = pc') {z : Int64} (hz : u ^^^ w = z) (q : own_Go p e below Q T (mkF m pc' Ls (.long z :: rest))) : own_Go p e below Q T (mkF m pc Ls (.long w :: .long u :: rest)) := by
  subst hp hz; exact own_go (fun t k' => XS.lxor X.here hx rfl hd rfl k') q
theorem o_lshl (X : Stand p l e R s m args below meth c T locs cells slots) (hx : p.tables.exec = Jvm.exec) (hd : decode c.code pc = .ok (.lshl, 1)) (hp : pc + 1 = pc') {z : Int64} (hz : own_lshl u y = z) (q : own_Go p e below Q T (mkF m pc' Ls (.long z :: rest))) : own_Go p e below Q T (mkF m pc Ls (.int y :: .long u :: rest)) := by
  subst hp hz; exact own_go (fun t k' => XS.lshl X.here hx rfl hd rfl k') q
theorem o_lushr (X : Stand p l e R s m args below meth c T locs cells slots) (hx : p.tables.exec = Jvm.exec) (hd : decode c.code pc = .ok (.lushr, 1)) (hp : pc + 1 = pc') {z : Int64} (hz : own_lushr u y = z) (q : own_Go p e below Q T (mkF m pc' Ls (.long z :: rest))) : own_Go p e below Q T (mkF m pc Ls (.int y :: .long u :: rest)) := by
  subst hp hz; exact own_go (fun t k' => XS.lushr X.here hx rfl hd rfl k') q
theorem o_ldiv (X : Stand p l e R s m args below meth c T locs cells slots) (hx : p.tables.exec = Jvm.exec) (hd : decode c.code pc = .ok (.ldiv, 1)) (hp : pc + 1 = pc') (hy : w ≠ 0) {z : Int64} (hz : u / w = z) (q : own_Go p e below Q T (mkF m pc' Ls (.long z :: rest))) : own_Go p e below Q T (mkF m pc Ls (.long w :: .long u :: rest)) := by
  subst hp hz; exact own_go (fun t k' => XS.ldiv X.here hx rfl hd rfl hy k') q
theorem o_lrem (X : Stand p l e R s m args below meth c T locs cells slots) (hx : p.tables.exec = Jvm.exec) (hd : decode c.code pc = .ok (.lrem, 1)) (hp : pc + 1 = pc') (hy : w ≠ 0) {z : Int64} (hz : own_lrem u w = z) (q : own_Go p e below Q T (mkF m pc' Ls (.long z :: rest))) : own_Go p e below Q T (mkF m pc Ls (.long w :: .long u :: rest)) := by
  subst hp hz; exact own_go (fun t k' => XS.lrem X.here hx rfl hd rfl hy k') q
theorem o_i2l (X : Stand p l e R s m args below meth c T locs cells slots) (hx : p.tables.exec = Jvm.exec) (hd : decode c.code pc = .ok (.i2l, 1)) (hp : pc + 1 = pc') {z : Int64} (hz : x.toInt64 = z) (q : own_Go p e below Q T (mkF m pc' Ls (.long z :: rest))) : own_Go p e below Q T (mkF m pc Ls (.int x :: rest)) := by
  subst hp hz; exact own_go (fun t k' => XS.i2l X.here hx rfl hd rfl k') q
theorem o_l2i (X : Stand p l e R s m args below meth c T locs cells slots) (hx : p.tables.exec = Jvm.exec) (hd : decode c.code pc = .ok (.l2i, 1)) (hp : pc + 1 = pc') {z : Int32} (hz : u.toInt32 = z) (q : own_Go p e below Q T (mkF m pc' Ls (.int z :: rest))) : own_Go p e below Q T (mkF m pc Ls (.long u :: rest)) := by
  subst hp hz; exact own_go (fun t k' => XS.l2i X.here hx rfl hd rfl k') q
def own_i2b (x : Int32) : Int32 := x.toInt8.toInt32
def own_i2c (x : Int32) : Int32 := x.toUInt32.toUInt16.toUInt32.toInt32
theorem o_i2b (X : Stand p l e R s m args below meth c T locs cells slots) (hx : p.tables.exec = Jvm.exec) (hd : decode c.code pc = .ok (.i2b, 1)) (hp : pc + 1 = pc') {z : Int32} (hz : own_i2b x = z) (q : own_Go p e below Q T (mkF m pc' Ls (.int z :: rest))) : own_Go p e below Q T (mkF m pc Ls (.int x :: rest)) := by
  subst hp hz; exact own_go (fun t k' => XS.i2b X.here hx rfl hd rfl k') q
theorem o_i2c (X : Stand p l e R s m args below meth c T locs cells slots) (hx : p.tables.exec = Jvm.exec) (hd : decode c.code pc = .ok (.i2c, 1)) (hp : pc + 1 = pc') {z : Int32} (hz : own_i2c x = z) (q : own_Go p e below Q T (mkF m pc' Ls (.int z :: rest))) : own_Go p e below Q T (mkF m pc Ls (.int x :: rest)) := by
  subst hp hz; exact own_go (fun t k' => XS.i2c X.here hx rfl hd rfl k') q
theorem o_iinc (X : Stand p l e R s m args below meth c T locs cells slots) (hx : p.tables.exec = Jvm.exec) {k : Nat} {i : Int} (hd : decode c.code pc = .ok (.iinc k i, 3)) (hl : Ls[k]? = some (.val (.int x))) (hz : x + Int32.ofInt i = y) (hl' : storeLocals Ls k (.int y) = some l') (hp : pc + 3 = pc') (q : own_Go p e below Q T (mkF m pc' l' rest)) : own_Go p e below Q T (mkF m pc Ls rest) := by
  subst hp hz; exact own_go (fun t k' => XS.iinc X.here hx rfl hd hl hl' k') q
theorem o_dup (X : Stand p l e R s m args below meth c T locs cells slots) (hx : p.tables.exec = Jvm.exec) {v : Value} (hd : decode c.code pc = .ok (.dup, 1)) (hv : v.category = 1) (hp : pc + 1 = pc') (q : own_Go p e below Q T (mkF m pc' Ls (v :: v :: rest))) : own_Go p e below Q T (mkF m pc Ls (v :: rest)) := by
  subst hp; exact own_go (fun t k' => XS.dup X.here hx rfl hd rfl hv k') q
theorem o_pop (X : Stand p l e R s m args below meth c T locs cells slots) (hx : p.tables.exec = Jvm.exec) {v : Value} (hd : decode c.code pc = .ok (.pop, 1)) (hv : v.category = 1) (hp : pc + 1 = pc') (q : own_Go p e below Q T (mkF m pc' Ls rest)) : own_Go p e below Q T (mkF m pc Ls (v :: rest)) := by
  subst hp; exact own_go (fun t k' => XS.pop X.here hx rfl hd rfl hv k') q
theorem o_goto (X : Stand p l e R s m args below meth c T locs cells slots) (hx : p.tables.exec = Jvm.exec) {o : Int} (hd : decode c.code pc = .ok (.goto o, 3)) (ho : 0 ≤ (pc : Int) + o) (hp : ((pc : Int) + o).toNat = pc') (q : own_Go p e below Q T (mkF m pc' Ls rest)) : own_Go p e below Q T (mkF m pc Ls rest) :=
  own_go (fun t k' => XS.goto X.here hx rfl rfl hd ho hp k') q
theorem o_ifP (X : Stand p l e R s m args below meth c T locs cells slots) (hx : p.tables.exec = Jvm.exec) {cd : ClassFile.Cond} {o : Int} {P : Prop} [Decidable P] (hP : P → ifCond.holds cd x = true) (hN : ¬ P → ifCond.holds cd x = false) (hd : decode c.code pc = .ok (.ifCond cd o, 3)) (ho : 0 ≤ (pc : Int) + o) (hp : ((pc : Int) + o).toNat = pc1) (hp2 : pc + 3 = pc2)
    (kt : P → own_Go p e below Q T (mkF m pc1 Ls rest)) (kf : ¬ P → own_Go p e below Q T (mkF m pc2 Ls rest)) : own_Go p e below Q T (mkF m pc Ls (.int x :: rest)) := by
  subst hp2
  by_cases q : P
  · exact own_go (fun t k' => XS.ifYes X.here hx rfl rfl hd rfl (hP q) ho hp k') (kt q)
  · exact own_go (fun t k' => XS.ifNo X.here hx rfl hd rfl (hN q) k') (kf q)
theorem o_ifN (X : Stand p l e R s m args below meth c T locs cells slots) (hx : p.tables.exec = Jvm.exec) {cd : ClassFile.Cond} {o : Int} {P : Prop} [Decidable P] (hP : P → ifCond.holds cd x = false) (hN : ¬ P → ifCond.holds cd x = true) (hd : decode c.code pc = .ok (.ifCond cd o, 3)) (ho : 0 ≤ (pc : Int) + o) (hp : ((pc : Int) + o).toNat = pc1) (hp2 : pc + 3 = pc2)
    (kt : ¬ P → own_Go p e below Q T (mkF m pc1 Ls rest)) (kf : P → own_Go p e below Q T (mkF m pc2 Ls rest)) : own_Go p e below Q T (mkF m pc Ls (.int x :: rest)) := by
  subst hp2
  by_cases q : P
  · exact own_go (fun t k' => XS.ifNo X.here hx rfl hd rfl (hP q) k') (kf q)
  · exact own_go (fun t k' => XS.ifYes X.here hx rfl rfl hd rfl (hN q) ho hp k') (kt q)
theorem o_icP (X : Stand p l e R s m args below meth c T locs cells slots) (hx : p.tables.exec = Jvm.exec) {cd : ClassFile.Cond} {o : Int} {P : Prop} [Decidable P] (hP : P → if_icmp.holds cd x y = true) (hN : ¬ P → if_icmp.holds cd x y = false) (hd : decode c.code pc = .ok (.if_icmp cd o, 3)) (ho : 0 ≤ (pc : Int) + o) (hp : ((pc : Int) + o).toNat = pc1) (hp2 : pc + 3 = pc2)
    (kt : P → own_Go p e below Q T (mkF m pc1 Ls rest)) (kf : ¬ P → own_Go p e below Q T (mkF m pc2 Ls rest)) : own_Go p e below Q T (mkF m pc Ls (.int y :: .int x :: rest)) := by
  subst hp2
  by_cases q : P
  · exact own_go (fun t k' => XS.icmpYes X.here hx rfl rfl hd rfl (hP q) ho hp k') (kt q)
  · exact own_go (fun t k' => XS.icmpNo X.here hx rfl hd rfl (hN q) k') (kf q)
theorem o_icN (X : Stand p l e R s m args below meth c T locs cells slots) (hx : p.tables.exec = Jvm.exec) {cd : ClassFile.Cond} {o : Int} {P : Prop} [Decidable P] (hP : P → if_icmp.holds cd x y = false) (hN : ¬ P → if_icmp.holds cd x y = true) (hd : decode c.code pc = .ok (.if_icmp cd o, 3)) (ho : 0 ≤ (pc : Int) + o) (hp : ((pc : Int) + o).toNat = pc1) (hp2 : pc + 3 = pc2)
    (kt : ¬ P → own_Go p e below Q T (mkF m pc1 Ls rest)) (kf : P → own_Go p e below Q T (mkF m pc2 Ls rest)) : own_Go p e below Q T (mkF m pc Ls (.int y :: .int x :: rest)) := by
  subst hp2
  by_cases q : P
  · exact own_go (fun t k' => XS.icmpNo X.here hx rfl hd rfl (hP q) k') (kf q)
  · exact own_go (fun t k' => XS.icmpYes X.here hx rfl rfl hd rfl (hN q) ho hp k') (kt q)
/-- a branch that goes one way for sure -/
theorem o_ifY (X : Stand p l e R s m args below meth c T locs cells slots) (hx : p.tables.exec = Jvm.exec) {cd : ClassFile.Cond} {o : Int} (hc : ifCond.holds cd x = true) (hd : decode c.code pc = .ok (.ifCond cd o, 3)) (ho : 0 ≤ (pc : Int) + o) (hp : ((pc : Int) + o).toNat = pc') (q : own_Go p e below Q T (mkF m pc' Ls rest)) : own_Go p e below Q T (mkF m pc Ls (.int x :: rest)) :=
  own_go (fun t k' => XS.ifYes X.here hx rfl rfl hd rfl hc ho hp k') q
theorem o_ifX (X : Stand p l e R s m args below meth c T locs cells slots) (hx : p.tables.exec = Jvm.exec) {cd : ClassFile.Cond} {o : Int} (hc : ifCond.holds cd x = false) (hd : decode c.code pc = .ok (.ifCond cd o, 3)) (hp : pc + 3 = pc') (q : own_Go p e below Q T (mkF m pc' Ls rest)) : own_Go p e below Q T (mkF m pc Ls (.int x :: rest)) := by
  subst hp; exact own_go (fun t k' => XS.ifNo X.here hx rfl hd rfl hc k') q
theorem o_icY (X : Stand p l e R s m args below meth c T locs cells slots) (hx : p.tables.exec = Jvm.exec) {cd : ClassFile.Cond} {o : Int} (hc : if_icmp.holds cd x y = true) (hd : decode c.code pc = .ok (.if_icmp cd o, 3)) (ho : 0 ≤ (pc : Int) + o) (hp : ((pc : Int) + o).toNat = pc') (q : own_Go p e below Q T (mkF m pc' Ls rest)) : own_Go p e below Q T (mkF m pc Ls (.int y :: .int x :: rest)) :=
  own_go (fun t k' => XS.icmpYes X.here hx rfl rfl hd rfl hc ho hp k') q
theorem o_icX (X : Stand p l e R s m args below meth c T locs cells slots) (hx : p.tables.exec = Jvm.exec) {cd : ClassFile.Cond} {o : Int} (hc : if_icmp.holds cd x y = false) (hd : decode c.code pc = .ok (.if_icmp cd o, 3)) (hp : pc + 3 = pc') (q : own_Go p e below Q T (mkF m pc' Ls rest)) : own_Go p e below Q T (mkF m pc Ls (.int y :: .int x :: rest)) := by
  subst hp; exact own_go (fun t k' => XS.icmpNo X.here hx rfl hd rfl hc k') q
theorem o_lcmp (X : Stand p l e R s m args below meth c T locs cells slots) (hx : p.tables.exec = Jvm.exec) (hd : decode c.code pc = .ok (.lcmp, 1)) (hp : pc + 1 = pc') (q : own_Go p e below Q T (mkF m pc' Ls (.int (XT.cmpL u w) :: rest))) : own_Go p e below Q T (mkF m pc Ls (.long w :: .long u :: rest)) := by
  subst hp; exact own_go (fun t k' => XS.lcmp X.here hx rfl hd rfl k') q
theorem o_ifnullX (X : Stand p l e R s m args below meth c T locs cells slots) (hx : p.tables.exec = Jvm.exec) {o : Int} {a : Addr} (hd : decode c.code pc = .ok (.ifnull o, 3)) (hp : pc + 3 = pc') (q : own_Go p e below Q T (mkF m pc' Ls rest)) : own_Go p e below Q T (mkF m pc Ls (.ref a :: rest)) := by
  subst hp; exact own_go (fun t k' => XS.ifnullNo X.here hx rfl hd rfl k') q
/-- the ends -/
theorem o_ret (X : Stand p l e R s m args below meth c T locs cells slots) {v : Option Value} {g : JFrame} (hv : meth.sig.returnType = none → v = none) (hlk : meth.locks = false) (hc : cells ≤ cc) (hs : slots ≤ ss) (eT : T.heap = h) (hK : K v h locs)
    (st : ∀ fs : List Frame, (∀ (f : JFrame) (acts : List Action), f.method = m → f.locked = none → f.entered = [] → (doReturn e (T.setTop f) acts v).1 = T.setFrames fs) → Steps p.tables e below (T.setTop g) (T.setFrames fs)) : own_Go p e below (own_Q s K cc ss) T g := by
  subst eT
  obtain ⟨fs, hr, hrun, hended, hW, hsame⟩ := X.leave (v := v) hv hlk
  exact ⟨_, _, st fs hr, hrun, hended, _, _, rfl, hK, ⟨_, rfl⟩, hW, hsame.mono hc hs⟩
theorem o_retV (X : Stand p l e R s m args below meth c T locs cells slots) (hx : p.tables.exec = Jvm.exec) (hret : meth.sig.returnType = none) (hlk : meth.locks = false) (hd : decode c.code pc = .ok (.return_, 1)) (hc : cells ≤ cc) (hs : slots ≤ ss) (eT : T.heap = h) (hK : K none h locs) : own_Go p e below (own_Q s K cc ss) T (mkF m pc Ls []) :=
  o_ret X (fun _ => rfl) hlk hc hs eT hK fun fs hr => X.returnOut hx hret hd hr
theorem o_retI (X : Stand p l e R s m args below meth c T locs cells slots) (hx : p.tables.exec = Jvm.exec) (hret : meth.sig.returnType = some .int) (hlk : meth.locks = false) (hd : decode c.code pc = .ok (.ireturn, 1)) (hc : cells ≤ cc) (hs : slots ≤ ss) (eT : T.heap = h) (hK : K (some (.int x)) h locs) : own_Go p e below (own_Q s K cc ss) T (mkF m pc Ls (.int x :: rest)) :=
  o_ret X (fun h => by rw [hret] at h; cases h) hlk hc hs eT hK fun fs hr => retI X hx hret hd hr
theorem o_retN (X : Stand p l e R s m args below meth c T locs cells slots) (hx : p.tables.exec = Jvm.exec) {t : FieldType} (hret : meth.sig.returnType = some t) (ht : t = .boolean ∨ t = .byte ∨ t = .char ∨ t = .short) (hlk : meth.locks = false) (hd : decode c.code pc = .ok (.ireturn, 1)) (hc : cells ≤ cc) (hs : slots ≤ ss) (eT : T.heap = h) (hK : K (some (.int (nar t x))) h locs) : own_Go p e below (own_Q s K cc ss) T (mkF m pc Ls (.int x :: rest)) :=
  o_ret X (fun h => by rw [hret] at h; cases h) hlk hc hs eT hK fun fs hr => retN X hx hret ht hd hr
theorem o_retL (X : Stand p l e R s m args below meth c T locs cells slots) (hx : p.tables.exec = Jvm.exec) (hret : meth.sig.returnType = some .long) (hlk : meth.locks = false) (hd : decode c.code pc = .ok (.lreturn, 1)) (hc : cells ≤ cc) (hs : slots ≤ ss) (eT : T.heap = h) (hK : K (some (.long u)) h locs) : own_Go p e below (own_Q s K cc ss) T (mkF m pc Ls (.long u :: rest)) :=
  o_ret X (fun h => by rw [hret] at h; cases h) hlk hc hs eT hK fun fs hr => by
    jvm_step X.here [X.here.top, hx, hd, X.method', hret, narrow]
    first | (intro acts; rw [hr _ acts rfl rfl rfl]) | rw [hr _ _ rfl rfl rfl]
    exact Steps.refl _
theorem o_retA (X : Stand p l e R s m args below meth c T locs cells slots) (hx : p.tables.exec = Jvm.exec) {t : FieldType} (hret : meth.sig.returnType = some (.array t)) (hlk : meth.locks = false) {a : Addr} (hd : decode c.code pc = .ok (.areturn, 1)) (hc : cells ≤ cc) (hs : slots ≤ ss) (eT : T.heap = h) (hK : K (some (.ref a)) h locs) : own_Go p e below (own_Q s K cc ss) T (mkF m pc Ls (.ref a :: rest)) :=
  o_ret X (fun h => by rw [hret] at h; cases h) hlk hc hs eT hK fun fs hr => by
    jvm_step X.here [X.here.top, hx, hd, X.method', hret, Value.isRef, FieldType.isReference]
    first | (intro acts; rw [hr _ acts rfl rfl rfl]) | rw [hr _ _ rfl rfl rfl]
    exact Steps.refl _
/-- arrays as lists -/
def own_AI (Z : State) (h : Heap) (a : Addr) (ty : FieldType) (vs : List Int32) : Prop := ∃ cl : Cell, Arr Z h a cl ty ∧ cl.slots = (vs.map Value.int).toArray
def own_AJ (Z : State) (h : Heap) (a : Addr) (vs : List Int64) : Prop := ∃ cl : Cell, Arr Z h a cl .long ∧ cl.slots = (vs.map Value.long).toArray
def own_in (n : Nat) (j : Int32) : Prop := ¬ j < 0 ∧ j.toNatClampNeg < n
def own_get (vs : List Int32) (j : Int32) : Int32 := vs.getD j.toNatClampNeg 0
def own_getL (vs : List Int64) (j : Int32) : Int64 := vs.getD j.toNatClampNeg 0
def own_set (vs : List Int32) (j x : Int32) : List Int32 := vs.set j.toNatClampNeg x
def own_setL (vs : List Int64) (j : Int32) (u : Int64) : List Int64 := vs.set j.toNatClampNeg u
theorem own_AI.lt {a : Addr} {ty : FieldType} {vs : List Int32} (A : own_AI Z h a ty vs) : a < h.size := by obtain ⟨cl, A, -⟩ := A; exact A.lt
theorem own_AI.ext {a : Addr} {ty : FieldType} {vs : List Int32} (A : own_AI Z h a ty vs) (E : Ext h h') : own_AI Z h' a ty vs := by obtain ⟨cl, A, q⟩ := A; exact ⟨cl, A.ext E, q⟩
theorem own_AI.other {a b : Addr} {ty : FieldType} {vs : List Int32} {sl : Nat} {v : Value} (A : own_AI Z h a ty vs) (W : Wr h h' b sl v) (ne : a ≠ b) : own_AI Z h' a ty vs := by obtain ⟨cl, A, q⟩ := A; exact ⟨cl, A.other W ne, q⟩
theorem own_AI.keep {a : Addr} {ty : FieldType} {vs : List Int32} {ws : List Addr} (A : own_AI Z h a ty vs) (K : Keep h h' ws) (ne : a ∉ ws) : own_AI Z h' a ty vs := by obtain ⟨cl, A, q⟩ := A; exact ⟨cl, ⟨K.2.1 a cl A.1 ne, A.2⟩, q⟩
theorem own_AI.put {a : Addr} {ty : FieldType} {vs : List Int32} {j : Int32} (A : own_AI Z h a ty vs) (W : Wr h h' a j.toNatClampNeg (.int x)) : own_AI Z h' a ty (own_set vs j x) := by
  obtain ⟨cl, A, q⟩ := A
  refine ⟨_, A.same W, ?_⟩
  show cl.slots.setIfInBounds _ _ = _
  rw [q, own_set, List.map_set, List.setIfInBounds_toArray]
theorem own_AJ.lt {a : Addr} {vs : List Int64} (A : own_AJ Z h a vs) : a < h.size := by obtain ⟨cl, A, -⟩ := A; exact A.lt
theorem own_AJ.ext {a : Addr} {vs : List Int64} (A : own_AJ Z h a vs) (E : Ext h h') : own_AJ Z h' a vs := by obtain ⟨cl, A, q⟩ := A; exact ⟨cl, A.ext E, q⟩
theorem own_AJ.other {a b : Addr} {vs : List Int64} {sl : Nat} {v : Value} (A : own_AJ Z h a vs) (W : Wr h h' b sl v) (ne : a ≠ b) : own_AJ Z h' a vs := by obtain ⟨cl, A, q⟩ := A; exact ⟨cl, A.other W ne, q⟩
theorem own_AJ.keep {a : Addr} {vs : List Int64} {ws : List Addr} (A : own_AJ Z h a vs) (K : Keep h h' ws) (ne : a ∉ ws) : own_AJ Z h' a vs := by obtain ⟨cl, A, q⟩ := A; exact ⟨cl, ⟨K.2.1 a cl A.1 ne, A.2⟩, q⟩
theorem own_AJ.put {a : Addr} {vs : List Int64} {j : Int32} (A : own_AJ Z h a vs) (W : Wr h h' a j.toNatClampNeg (.long u)) : own_AJ Z h' a (own_setL vs j u) := by
  obtain ⟨cl, A, q⟩ := A
  refine ⟨_, A.same W, ?_⟩
  show cl.slots.setIfInBounds _ _ = _
  rw [q, own_setL, List.map_set, List.setIfInBounds_toArray]
theorem own_inA {n : Nat} {j : Int32} {cl : Cell} (hj : own_in n j) (hn : cl.slots.size = n) : ¬ (j < 0 ∨ cl.slots.size ≤ j.toNatClampNeg) := fun q => q.elim hj.1 fun q => by rw [hn] at q; exact Nat.not_lt.mpr q hj.2
theorem own_szI {cl : Cell} {vs : List Int32} (q : cl.slots = (vs.map Value.int).toArray) : cl.slots.size = vs.length := by rw [q]; simp
theorem own_szJ {cl : Cell} {vs : List Int64} (q : cl.slots = (vs.map Value.long).toArray) : cl.slots.size = vs.length := by rw [q]; simp
theorem own_atI {cl : Cell} {vs : List Int32} {j : Int32} (q : cl.slots = (vs.map Value.int).toArray) (hj : own_in vs.length j) : cl.slots[j.toNatClampNeg]? = some (.int (own_get vs j)) := by
  rw [q, List.getElem?_toArray, List.getElem?_map, List.getElem?_eq_getElem hj.2, own_get, List.getD_eq_getElem?_getD, List.getElem?_eq_getElem hj.2]; rfl
theorem own_atJ {cl : Cell} {vs : List Int64} {j : Int32} (q : cl.slots = (vs.map Value.long).toArray) (hj : own_in vs.length j) : cl.slots[j.toNatClampNeg]? = some (.long (own_getL vs j)) := by
  rw [q, List.getElem?_toArray, List.getElem?_map, List.getElem?_eq_getElem hj.2, own_getL, List.getD_eq_getElem?_getD, List.getElem?_eq_getElem hj.2]; rfl
theorem o_iaload (X : Stand p l e R s m args below meth c T locs cells slots) (hx : p.tables.exec = Jvm.exec) (hZ : Z.Warmed39 s.vm) (eT : T.heap = h) {a : Addr} {vs : List Int32} {j : Int32} (A : own_AI Z h a .int vs) (hj : own_in vs.length j) (hd : decode c.code pc = .ok (.iaload, 1)) (hp : pc + 1 = pc') (hv : own_get vs j = x) (q : own_Go p e below Q T (mkF m pc' Ls (.int x :: rest))) : own_Go p e below Q T (mkF m pc Ls (.int j :: .ref a :: rest)) := by
  subst hp hv
  obtain ⟨cl, A, qs⟩ := A
  exact own_go (fun t k' => X.iaload hx (by rw [eT]; exact A.1) (State.isArrayOf_alike hZ.alike A.2.1) A.2.2 (own_inA hj (own_szI qs)) (own_atI qs hj) (g := mkF m pc Ls (.int j :: .ref a :: rest)) rfl rfl hd t k') q
theorem o_baload (X : Stand p l e R s m args below meth c T locs cells slots) (hx : p.tables.exec = Jvm.exec) (hZ : Z.Warmed39 s.vm) (eT : T.heap = h) {a : Addr} {vs : List Int32} {j : Int32} (A : own_AI Z h a .byte vs) (hj : own_in vs.length j) (hd : decode c.code pc = .ok (.baload, 1)) (hp : pc + 1 = pc') (hv : own_get vs j = x) (q : own_Go p e below Q T (mkF m pc' Ls (.int x :: rest))) : own_Go p e below Q T (mkF m pc Ls (.int j :: .ref a :: rest)) := by
  subst hp hv
  obtain ⟨cl, A, qs⟩ := A
  exact own_go (fun t k' => X.baloadBytes hx (by rw [eT]; exact A.1) (State.isArrayOf_alike hZ.alike A.2.1) A.2.2 (own_inA hj (own_szI qs)) (own_atI qs hj) (g := mkF m pc Ls (.int j :: .ref a :: rest)) rfl rfl hd t k') q
theorem o_laload (X : Stand p l e R s m args below meth c T locs cells slots) (hx : p.tables.exec = Jvm.exec) (hZ : Z.Warmed39 s.vm) (eT : T.heap = h) {a : Addr} {vs : List Int64} {j : Int32} (A : own_AJ Z h a vs) (hj : own_in vs.length j) (hd : decode c.code pc = .ok (.laload, 1)) (hp : pc + 1 = pc') (hv : own_getL vs j = u) (q : own_Go p e below Q T (mkF m pc' Ls (.long u :: rest))) : own_Go p e below Q T (mkF m pc Ls (.int j :: .ref a :: rest)) := by
  subst hp hv
  obtain ⟨cl, A, qs⟩ := A
  exact own_go (fun t k' => X.laload hx (by rw [eT]; exact A.1) (State.isArrayOf_alike hZ.alike A.2.1) A.2.2 (own_inA hj (own_szJ qs)) (own_atJ qs hj) (g := mkF m pc Ls (.int j :: .ref a :: rest)) rfl rfl hd t k') q
/-- the length as arraylength pushes it -/
def own_len (n : Nat) : Int32 := n.toInt32
theorem o_alenI (X : Stand p l e R s m args below meth c T locs cells slots) (hx : p.tables.exec = Jvm.exec) (hZ : Z.Warmed39 s.vm) (eT : T.heap = h) {a : Addr} {ty : FieldType} {vs : List Int32} (A : own_AI Z h a ty vs) (hd : decode c.code pc = .ok (.arraylength, 1)) (hp : pc + 1 = pc') (hv : own_len vs.length = x) (q : own_Go p e below Q T (mkF m pc' Ls (.int x :: rest))) : own_Go p e below Q T (mkF m pc Ls (.ref a :: rest)) := by
  subst hp hv
  obtain ⟨cl, A, qs⟩ := A
  refine own_go (fun t k' => X.arraylength hx (by rw [eT]; exact A.1) (State.isArrayOf_alike hZ.alike A.2.1) (g := mkF m pc Ls (.ref a :: rest)) rfl rfl hd t k') ?_
  rw [own_szI qs]; exact q
theorem o_alenJ (X : Stand p l e R s m args below meth c T locs cells slots) (hx : p.tables.exec = Jvm.exec) (hZ : Z.Warmed39 s.vm) (eT : T.heap = h) {a : Addr} {vs : List Int64} (A : own_AJ Z h a vs) (hd : decode c.code pc = .ok (.arraylength, 1)) (hp : pc + 1 = pc') (hv : own_len vs.length = x) (q : own_Go p e below Q T (mkF m pc' Ls (.int x :: rest))) : own_Go p e below Q T (mkF m pc Ls (.ref a :: rest)) := by
  subst hp hv
  obtain ⟨cl, A, qs⟩ := A
  refine own_go (fun t k' => X.arraylength hx (by rw [eT]; exact A.1) (State.isArrayOf_alike hZ.alike A.2.1) (g := mkF m pc Ls (.ref a :: rest)) rfl rfl hd t k') ?_
  rw [own_szJ qs]; exact q
/-- stores: the place stays in locs -/
theorem o_iastore (X : Stand p l e R s m args below meth c T locs cells slots) (hx : p.tables.exec = Jvm.exec) (hZ : Z.Warmed39 s.vm) (eT : T.heap = h) {a : Addr} {vs vs' : List Int32} {j : Int32} (A : own_AI Z h a .int vs) (hj : own_in vs.length j) (hd : decode c.code pc = .ok (.iastore, 1)) (hp : pc + 1 = pc') (hv : own_set vs j x = vs')
    (k : ∀ T' h', Stand p l e R s m args below meth c T' (locs ++ [⟨a, j.toNatClampNeg⟩]) cells slots → T'.heap = h' → Wr h h' a j.toNatClampNeg (.int x) → own_AI Z h' a .int vs' → own_Go p e below Q T' (mkF m pc' Ls rest)) : own_Go p e below Q T (mkF m pc Ls (.int x :: .int j :: .ref a :: rest)) := by
  subst hp hv
  obtain ⟨cl, A', qs⟩ := id A
  obtain ⟨T', h', X', e', W, st⟩ := stI X hx hZ eT A' (own_inA hj (own_szI qs)) (g := mkF m pc Ls (.int x :: .int j :: .ref a :: rest)) rfl rfl hd
  exact own_go st (k T' h' X' e' W (A.put W))
theorem o_bastore (X : Stand p l e R s m args below meth c T locs cells slots) (hx : p.tables.exec = Jvm.exec) (hZ : Z.Warmed39 s.vm) (eT : T.heap = h) {a : Addr} {vs vs' : List Int32} {j : Int32} (A : own_AI Z h a .byte vs) (hj : own_in vs.length j) (hd : decode c.code pc = .ok (.bastore, 1)) (hp : pc + 1 = pc') (hv : own_set vs j (own_i2b x) = vs')
    (k : ∀ T' h', Stand p l e R s m args below meth c T' (locs ++ [⟨a, j.toNatClampNeg⟩]) cells slots → T'.heap = h' → Wr h h' a j.toNatClampNeg (.int (own_i2b x)) → own_AI Z h' a .byte vs' → own_Go p e below Q T' (mkF m pc' Ls rest)) : own_Go p e below Q T (mkF m pc Ls (.int x :: .int j :: .ref a :: rest)) := by
  subst hp hv
  obtain ⟨cl, A', qs⟩ := id A
  obtain ⟨T', h', X', e', W, st⟩ := stB X hx hZ eT A' (own_inA hj (own_szI qs)) (g := mkF m pc Ls (.int x :: .int j :: .ref a :: rest)) rfl rfl hd
  exact own_go st (k T' h' X' e' W (A.put W))
theorem o_lastore (X : Stand p l e R s m args below meth c T locs cells slots) (hx : p.tables.exec = Jvm.exec) (hZ : Z.Warmed39 s.vm) (eT : T.heap = h) {a : Addr} {vs vs' : List Int64} {j : Int32} (A : own_AJ Z h a vs) (hj : own_in vs.length j) (hd : decode c.code pc = .ok (.lastore, 1)) (hp : pc + 1 = pc') (hv : own_setL vs j u = vs')
    (k : ∀ T' h', Stand p l e R s m args below meth c T' (locs ++ [⟨a, j.toNatClampNeg⟩]) cells slots → T'.heap = h' → Wr h h' a j.toNatClampNeg (.long u) → own_AJ Z h' a vs' → own_Go p e below Q T' (mkF m pc' Ls rest)) : own_Go p e below Q T (mkF m pc Ls (.long u :: .int j :: .ref a :: rest)) := by
  subst hp hv
  obtain ⟨cl, A', qs⟩ := id A
  obtain ⟨T', h', X', e', W, st⟩ := stJ X hx hZ eT A' (own_inA hj (own_szJ qs)) (g := mkF m pc Ls (.long u :: .int j :: .ref a :: rest)) rfl rfl hd
  exact own_go st (k T' h' X' e' W (A.put W))
theorem own_sz (X : Stand p l e R s m args below meth c T locs cells slots) (eT : T.heap = h) : s.heap.size ≤ h.size := by
  have q := X.same.2.1
  rw [← eT]; exact q
/-- the place written lies in a cell made since the start: it needn't be told -/
theorem own_drop {a : Addr} {j : Nat} (X : Stand p l e R s m args below meth c T (locs ++ [⟨a, j⟩]) cells slots) (ha : s.heap.size ≤ a) : Stand p l e R s m args below meth c T locs cells slots := X.forget fun y hy => by cases List.mem_singleton.mp hy; exact ha
theorem own_dropL {L : List Loc} {k : Nat} (X : Stand p l e R s m args below meth c T (locs ++ L) cells slots) (ha : s.heap.size ≤ k) (hL : ∀ y ∈ L, k ≤ y.base) : Stand p l e R s m args below meth c T locs cells slots := X.forget fun y hy => Nat.le_trans ha (hL y hy)
/-- newarray -/
theorem o_newI (X : Stand p l e R s m args below meth c T locs cells slots) (hx : p.tables.exec = Jvm.exec) (hZ : Z.Warmed39 s.vm) (eT : T.heap = h) {aty : ArrayType} {ty : FieldType} (w1 : (Cond.arrayClass ty).before a0 Z = true) (hty : newarray.typeOf aty = ty) (hdv : defaultValue ty = .int 0) (hd : decode c.code pc = .ok (.newarray aty, 2)) (hp : pc + 2 = pc') (hn : ¬ x < 0) {cap : Nat} (hcap : x.toNatClampNeg ≤ cap) (hb : cap * 8 ≤ 536870912) (hc : cells + 1 ≤ R.cells) (hs : slots + cap ≤ R.slots) {vs : List Int32} (hv : List.replicate x.toNatClampNeg 0 = vs)
    (k : ∀ T' h' a, Stand p l e R s m args below meth c T' locs (cells + 1) (slots + cap) → T'.heap = h' → h.size = a → Ext h h' → own_AI Z h' a ty vs → own_Go p e below Q T' (mkF m pc' Ls (.ref a :: rest))) : own_Go p e below Q T (mkF m pc Ls (.int x :: rest)) := by
  subst hp hv hty
  obtain ⟨T', h', cA, X', e', E, A, st⟩ := newP X hx hZ w1 eT (g := mkF m pc Ls (.int x :: rest)) rfl hd rfl hn hcap hb hc hs
  exact own_go st (k T' h' _ X' e' rfl E ⟨_, A, by simp [newA, hdv]⟩)
theorem o_newJ (X : Stand p l e R s m args below meth c T locs cells slots) (hx : p.tables.exec = Jvm.exec) (hZ : Z.Warmed39 s.vm) (eT : T.heap = h) (w1 : (Cond.arrayClass .long).before a0 Z = true) (hd : decode c.code pc = .ok (.newarray .long, 2)) (hp : pc + 2 = pc') (hn : ¬ x < 0) {cap : Nat} (hcap : x.toNatClampNeg ≤ cap) (hb : cap * 8 ≤ 536870912) (hc : cells + 1 ≤ R.cells) (hs : slots + cap ≤ R.slots) {vs : List Int64} (hv : List.replicate x.toNatClampNeg 0 = vs)
    (k : ∀ T' h' a, Stand p l e R s m args below meth c T' locs (cells + 1) (slots + cap) → T'.heap = h' → h.size = a → Ext h h' → own_AJ Z h' a vs → own_Go p e below Q T' (mkF m pc' Ls (.ref a :: rest))) : own_Go p e below Q T (mkF m pc Ls (.int x :: rest)) := by
  subst hp hv
  obtain ⟨T', h', cA, X', e', E, A, st⟩ := newP X hx hZ (aty := .long) w1 eT (g := mkF m pc Ls (.int x :: rest)) rfl hd rfl hn hcap hb hc hs
  exact own_go st (k T' h' _ X' e' rfl E ⟨_, A, by simp [newA, show defaultValue (newarray.typeOf .long) = Value.long 0 from rfl]⟩)
/-- a static call by the callee's contract -/
theorem o_callS (X : Stand p l e R s m args below meth c T locs cells slots) (hx : p.tables.exec = Jvm.exec) (hZ : Z.Warmed39 s.vm) (eT : T.heap = h) {own : String} {index : Nat} {y : MethodName} {bytes : ByteArray} {maxL : Nat} {ret : Option FieldType} {rm : Room} {W : Nat} (hown : s.vm.findClass own = some m.cls)
    (w1 : (Cond.methodLink own index y).before a0 Z = true) (w2 : (Cond.static y).before a0 Z = true) (w3 : (Cond.initialized y.cls).before a0 Z = true) (w4 : (Cond.code y bytes maxL ret).before a0 Z = true) (hy : y.cls ≠ "java/lang/invoke/MethodHandle" ∧ y.cls ≠ "java/lang/invoke/VarHandle") {as' : Array Value} {K : Option Value → Heap → List Loc → Prop}
    (hM : MetFree l y (head1 [Cond.code y bytes maxL ret] rm) (fun a U => a = as' ∧ Z.Warmed39 U.vm ∧ U.heap = h) (fun _ _ _ _ _ => True) (fun _ U o U' => ∃ v L, o = .returned v ∧ K v U'.heap L ∧ FrameEnd U o U' L rm.cells rm.slots))
    (hf : rm.frames + 1 ≤ R.frames) (hl : W + (maxL + 11) + rm.locals ≤ R.locals) (hml : Ls.size = c.maxLocals) {argsL st : List Value} {sig : MethodDescriptor} (hpd : parseMethodDescriptor y.desc = some sig) (hlen : argsL.length = sig.parameters.length) (hst : st = argsL.reverse ++ rest) (has : argsL.toArray = as') (hW : (rest.map fun v => v.category).sum = W)
    (hd : decode c.code pc = .ok (.invokestatic index, 3)) (hp : pc + 3 = pc') (hc : cells + rm.cells ≤ R.cells) (hs : slots + rm.slots ≤ R.slots)
    (k : ∀ v T' L, Stand p l e R s m args below meth c T' (locs ++ L) (cells + rm.cells) (slots + rm.slots) → K v T'.heap L → own_Go p e below Q T' (mkF m pc' Ls (v.toList ++ rest))) : own_Go p e below Q T (mkF m pc Ls st) := by
  subst hp hst has
  obtain ⟨v, _, ⟨T1, L1, k1, n1⟩, -, X1, ⟨Lc, hQ, l1, y1, z1⟩, st1⟩ := Jvm.LawKit.callS X hx hown (mvT hZ w1) (mvT hZ w2) (mvT hZ w3) (mvT hZ w4) hy (backOf (W := W) hM hZ w4 w3 hf hl) (g := mkF m pc Ls (argsL.reverse ++ rest)) rfl hml (argsL := argsL) (rest := rest) (fun sg hsg => by cases hpd.symm.trans hsg; exact hlen) rfl (by show 2 * 0 + _ ≤ _; rw [hW]; omega) hd (fun _ _ => ⟨rfl, eT, hc, hs⟩)
  dsimp only [Pt.U, Pt.locs, Pt.cells, Pt.slots] at X1 l1 y1 z1 st1 hQ
  subst l1 y1 z1
  exact own_go st1 (k v T1 Lc X1 hQ)
/-- a body that writes nothing: what it returns, the heap as it was -/
def own_KP (V : Option Value) (h0 : Heap) : Option Value → Heap → List Loc → Prop := fun v h L => v = V ∧ h = h0 ∧ L = []
/-- a law: what it returns; nothing old is written -/
def own_KL (V : Option Value) : Option Value → Heap → List Loc → Prop := fun v _ L => v = V ∧ L = []
theorem o_callP (X : Stand p l e R s m args below meth c T locs cells slots) (hx : p.tables.exec = Jvm.exec) (hZ : Z.Warmed39 s.vm) (eT : T.heap = h) {own : String} {index : Nat} {y : MethodName} {bytes : ByteArray} {maxL : Nat} {ret : Option FieldType} {rm : Room} {W : Nat} (hown : s.vm.findClass own = some m.cls)
    (w1 : (Cond.methodLink own index y).before a0 Z = true) (w2 : (Cond.static y).before a0 Z = true) (w3 : (Cond.initialized y.cls).before a0 Z = true) (w4 : (Cond.code y bytes maxL ret).before a0 Z = true) (hy : y.cls ≠ "java/lang/invoke/MethodHandle" ∧ y.cls ≠ "java/lang/invoke/VarHandle") {as' : Array Value} {V : Option Value}
    (hM : MetFree l y (head1 [Cond.code y bytes maxL ret] rm) (fun a U => a = as' ∧ Z.Warmed39 U.vm ∧ U.heap = h) (fun _ _ _ _ _ => True) (fun _ U o U' => ∃ v L, o = .returned v ∧ own_KP V h v U'.heap L ∧ FrameEnd U o U' L rm.cells rm.slots))
    (hf : rm.frames + 1 ≤ R.frames) (hl : W + (maxL + 11) + rm.locals ≤ R.locals) (hml : Ls.size = c.maxLocals) {argsL st : List Value} {sig : MethodDescriptor} (hpd : parseMethodDescriptor y.desc = some sig) (hlen : argsL.length = sig.parameters.length) (hst : st = argsL.reverse ++ rest) (has : argsL.toArray = as') (hW : (rest.map fun v => v.category).sum = W)
    (hd : decode c.code pc = .ok (.invokestatic index, 3)) (hp : pc + 3 = pc') (hc0 : rm.cells = 0) (hs0 : rm.slots = 0) (hc : cells + rm.cells ≤ R.cells) (hs : slots + rm.slots ≤ R.slots)
    {st' : List Value} (hst' : V.toList ++ rest = st')
    (k : ∀ T', Stand p l e R s m args below meth c T' locs cells slots → T'.heap = h → own_Go p e below Q T' (mkF m pc' Ls st')) : own_Go p e below Q T (mkF m pc Ls st) := by
  subst hst'
  refine o_callS X hx hZ eT hown w1 w2 w3 w4 hy hM hf hl hml hpd hlen hst has hW hd hp hc hs fun v T' L X' hK => ?_
  obtain ⟨rfl, e', rfl⟩ := hK
  rw [hc0, hs0, List.append_nil] at X'
  exact k T' X' e'
theorem own_snoc {a : Addr} {L : List Loc} {j : Nat} (N : ∀ y ∈ L, y.base = a) : ∀ y ∈ L ++ [⟨a, j⟩], y.base = a := fun y hy => (List.mem_append.mp hy).elim (N y) fun q => by cases List.mem_singleton.mp q; rfl
theorem own_nil (X : Stand p l e R s m args below meth c T (locs ++ []) cells slots) : Stand p l e R s m args below meth c T locs cells slots := by rw [List.append_nil] at X; exact X
/-- a body that writes into the array a alone -/
def own_KW (Z : State) (a : Addr) (ty : FieldType) (vs : List Int32) (h0 : Heap) : Option Value → Heap → List Loc → Prop := fun v h L => v = none ∧ (∀ y ∈ L, y.base = a) ∧ Keep h0 h [a] ∧ own_AI Z h a ty vs
def own_KWJ (Z : State) (a : Addr) (vs : List Int64) (h0 : Heap) : Option Value → Heap → List Loc → Prop := fun v h L => v = none ∧ (∀ y ∈ L, y.base = a) ∧ Keep h0 h [a] ∧ own_AJ Z h a vs
/-- a body that makes an array and hands it back -/
def own_KM (Z : State) (ty : FieldType) (vs : List Int32) (h0 : Heap) : Option Value → Heap → List Loc → Prop := fun v h L => ∃ b, v = some (.ref b) ∧ L = [] ∧ Keep h0 h [] ∧ h0.size ≤ b ∧ own_AI Z h b ty vs
/-- a store over a local that held nothing or one word -/
theorem o_istoreNS (X : Stand p l e R s m args below meth c T locs cells slots) (hx : p.tables.exec = Jvm.exec) {k : Fin 4} {o : Slot} (hd : decode c.code pc = .ok (.istore_n k, 1)) (hold : Ls[k.val]? = some o) (ho : One o) (hl : Ls.setIfInBounds k.val (.val (.int x)) = l') (hp : pc + 1 = pc') (q : own_Go p e below Q T (mkF m pc' l' rest)) : own_Go p e below Q T (mkF m pc Ls (.int x :: rest)) := by
  subst hp hl; exact own_go (fun t k' => XS.istoreNS X.here hx rfl hd rfl hold ho k') q
theorem o_istoreS (X : Stand p l e R s m args below meth c T locs cells slots) (hx : p.tables.exec = Jvm.exec) {k : Nat} {o : Slot} (hd : decode c.code pc = .ok (.istore k, 2)) (hold : Ls[k]? = some o) (ho : One o) (hl : Ls.setIfInBounds k (.val (.int x)) = l') (hp : pc + 2 = pc') (q : own_Go p e below Q T (mkF m pc' l' rest)) : own_Go p e below Q T (mkF m pc Ls (.int x :: rest)) := by
  subst hp hl; exact own_go (fun t k' => XS.istoreS X.here hx rfl hd rfl hold ho k') q
theorem o_astoreS (X : Stand p l e R s m args below meth c T locs cells slots) (hx : p.tables.exec = Jvm.exec) {k : Nat} {o : Slot} {v : Value} (hd : decode c.code pc = .ok (.astore k, 2)) (hv : v.isRef = true) (hcat : v.category = 1) (hold : Ls[k]? = some o) (ho : One o) (hl : Ls.setIfInBounds k (.val v) = l') (hp : pc + 2 = pc') (q : own_Go p e below Q T (mkF m pc' l' rest)) : own_Go p e below Q T (mkF m pc Ls (v :: rest)) := by
  subst hp hl; exact own_go (fun t k' => XS.astoreS X.here hx rfl hd rfl hv hcat hold ho k') q
end OwnKit
/-! OWN KIT, objects -/
section OwnObj
variable {p : Program} {l : Launch} {e : Env} {R : Room} {s : State} {m : MethodId} {args : Array Value} {below : List Frame} {meth : Method} {c : Code} {T T' : State} {locs : List Loc} {cells slots : Nat} {Z : State} {a0 : Array Value} {h h' : Heap}
variable {Q : Outcome → State → Prop} {pc pc' : Nat} {Ls : Array Slot} {rest : List Value}
theorem own_neO {o b : Addr} {C : String} {k : Nat} {ty : FieldType} {vs : List Int32} (E : Exa Z h o C) (wi : (Cond.instantiable C k).before a0 Z = true) (A : own_AI Z h b ty vs) : o ≠ b := by obtain ⟨cl, A, -⟩ := A; exact ne_arr E wi A
theorem own_neOJ {o b : Addr} {C : String} {k : Nat} {vs : List Int64} (E : Exa Z h o C) (wi : (Cond.instantiable C k).before a0 Z = true) (A : own_AJ Z h b vs) : o ≠ b := by obtain ⟨cl, A, -⟩ := A; exact ne_arr E wi A
theorem o_getF (X : Stand p l e R s m args below meth c T locs cells slots) (hx : p.tables.exec = Jvm.exec) (hZ : Z.Warmed39 s.vm) (eT : T.heap = h) {own O n d : String} {index : Nat} (hown : s.vm.findClass own = some m.cls) (w1 : (Cond.fieldLink own index O n d).before a0 Z = true) {a : Addr} {v : Value} (F : Fld Z h a O n d v) (hd : decode c.code pc = .ok (.getfield index, 3)) (hp : pc + 3 = pc')
    (k : ∀ T', Stand p l e R s m args below meth c T' locs cells slots → T'.heap = h → own_Go p e below Q T' (mkF m pc' Ls (v :: rest))) : own_Go p e below Q T (mkF m pc Ls (.ref a :: rest)) := by
  subst hp
  obtain ⟨T', X', e', st⟩ := getF X hx hZ hown (host := "") (Or.inl w1) Via.refl eT F (g := mkF m pc Ls (.ref a :: rest)) rfl rfl hd
  exact own_go st (k T' X' e')
theorem o_putF (X : Stand p l e R s m args below meth c T locs cells slots) (hx : p.tables.exec = Jvm.exec) (hZ : Z.Warmed39 s.vm) (eT : T.heap = h) {own O n d C : String} {index kk : Nat} {ty : FieldType} (hown : s.vm.findClass own = some m.cls) (w1 : (Cond.fieldLink own index O n d).before a0 Z = true) {a : Addr} {v old : Value} (F : Fld Z h a O n d old) (E : Exa Z h a C)
    (L : (Cond.lays C O n d).before a0 Z = true ∨ ((Cond.laysFinal C O n d).before a0 Z = true ∧ own = O ∧ meth.name = "<init>")) (wi : (Cond.instantiable C kk).before a0 Z = true) (hty : parseFieldDescriptor d = some ty) (hn : narrow ty v = v) (hf : fits ty v = true) (hd : decode c.code pc = .ok (.putfield index, 3)) (hp : pc + 3 = pc')
    (k : ∀ T' h', Stand p l e R s m args below meth c T' (locs ++ [⟨a, Jvm.RoadKit.slotOf Z O n d⟩]) cells slots → T'.heap = h' → Wr h h' a (Jvm.RoadKit.slotOf Z O n d) v → own_Go p e below Q T' (mkF m pc' Ls rest)) : own_Go p e below Q T (mkF m pc Ls (v :: .ref a :: rest)) := by
  subst hp
  obtain ⟨T', h', X', e', W, st⟩ := putF X hx hZ hown (host := "") (Or.inl w1) Via.refl eT F E L wi hty hn hf (g := mkF m pc Ls (v :: .ref a :: rest)) rfl rfl hd
  exact own_go st (k T' h' X' e' W)
theorem o_newO (X : Stand p l e R s m args below meth c T locs cells slots) (hx : p.tables.exec = Jvm.exec) (hZ : Z.Warmed39 s.vm) (eT : T.heap = h) {own C : String} {index n : Nat} (hown : s.vm.findClass own = some m.cls) (w1 : (Cond.classLink own index C).before a0 Z = true) (wi : (Cond.instantiable C n).before a0 Z = true) (wz : (Cond.initialized C).before a0 Z = true) (hd : decode c.code pc = .ok (.new index, 3)) (hp : pc + 3 = pc') (hc : cells + 1 ≤ R.cells) (hs : slots + n ≤ R.slots)
    (k : ∀ T' h' a, Stand p l e R s m args below meth c T' locs (cells + 1) (slots + n) → T'.heap = h' → h.size = a → Ext h h' → Exa Z h' a C → (∀ {O nm d : String} {ty : FieldType}, Laid Z a0 C O nm d → parseFieldDescriptor d = some ty → Fld Z h' a O nm d (defaultValue ty)) → own_Go p e below Q T' (mkF m pc' Ls (.ref a :: rest))) : own_Go p e below Q T (mkF m pc Ls rest) := by
  subst hp
  obtain ⟨T', h', X', e', E, A, D, -, st⟩ := newO X hx hZ hown w1 wi wz eT (g := mkF m pc Ls rest) rfl hd hc hs
  exact own_go st (k T' h' _ X' e' rfl E A D)
theorem o_initO (X : Stand p l e R s m args below meth c T locs cells slots) (hx : p.tables.exec = Jvm.exec) (hZ : Z.Warmed39 s.vm) (eT : T.heap = h) {own : String} {index : Nat} (hown : s.vm.findClass own = some m.cls) (w1 : (Cond.methodLink own index Lib.objectInit).before a0 Z = true) (w2 : (Cond.instanceMethod Lib.objectInit).before a0 Z = true) (w3 : (Cond.code Lib.objectInit ⟨#[0xb1]⟩ 1 none).before a0 Z = true) (hml : Ls.size = c.maxLocals) {a : Addr} {W : Nat} (hW : (rest.map fun v => v.category).sum = W)
    (hd : decode c.code pc = .ok (.invokespecial index, 3)) (hp : pc + 3 = pc') (hf : 1 ≤ R.frames) (hl : W + 12 ≤ R.locals)
    (k : ∀ T', Stand p l e R s m args below meth c T' locs cells slots → T'.heap = h → own_Go p e below Q T' (mkF m pc' Ls rest)) : own_Go p e below Q T (mkF m pc Ls (.ref a :: rest)) := by
  subst hp
  obtain ⟨T', X', e', st⟩ := initO X hx hZ hown w1 w2 w3 eT (g := mkF m pc Ls (.ref a :: rest)) rfl hml rfl hd hf (W := W) (by show 2 * 0 + _ ≤ _; rw [hW]; omega) hl
  exact own_go st (k T' X' e')
theorem o_ctor (X : Stand p l e R s m args below meth c T locs cells slots) (hx : p.tables.exec = Jvm.exec) (hZ : Z.Warmed39 s.vm) (eT : T.heap = h) {own : String} {index : Nat} {y : MethodName} {bytes : ByteArray} {maxL : Nat} {rm : Room} {W : Nat} (hy1 : y.name = "<init>") (hown : s.vm.findClass own = some m.cls)
    (w1 : (Cond.methodLink own index y).before a0 Z = true) (w2 : (Cond.instanceMethod y).before a0 Z = true) (w3 : (Cond.initialized y.cls).before a0 Z = true) (w4 : (Cond.code y bytes maxL none).before a0 Z = true) (hy : y.cls ≠ "java/lang/invoke/MethodHandle" ∧ y.cls ≠ "java/lang/invoke/VarHandle") {as' : Array Value} {K : Option Value → Heap → List Loc → Prop}
    (hM : MetFree l y (head1 [Cond.code y bytes maxL none] rm) (fun a U => a = as' ∧ Z.Warmed39 U.vm ∧ U.heap = h) (fun _ _ _ _ _ => True) (fun _ U o U' => ∃ v L, o = .returned v ∧ K v U'.heap L ∧ FrameEnd U o U' L rm.cells rm.slots))
    (hf : rm.frames + 1 ≤ R.frames) (hl : W + (maxL + 11) + rm.locals ≤ R.locals) (hml : Ls.size = c.maxLocals) {a : Addr} {argsL st : List Value} {sig : MethodDescriptor} (hpd : parseMethodDescriptor y.desc = some sig) (hlen : argsL.length = sig.parameters.length) (hst : st = argsL.reverse ++ .ref a :: rest) (has : (.ref a :: argsL).toArray = as') (hW : (rest.map fun v => v.category).sum = W)
    (hd : decode c.code pc = .ok (.invokespecial index, 3)) (hp : pc + 3 = pc') (hc : cells + rm.cells ≤ R.cells) (hs : slots + rm.slots ≤ R.slots)
    (k : ∀ v T' L, Stand p l e R s m args below meth c T' (locs ++ L) (cells + rm.cells) (slots + rm.slots) → K v T'.heap L → own_Go p e below Q T' (mkF m pc' Ls (v.toList ++ rest))) : own_Go p e below Q T (mkF m pc Ls st) := by
  subst hp hst has
  obtain ⟨v, _, ⟨T1, L1, k1, n1⟩, -, X1, ⟨Lc, hQ, l1, y1, z1⟩, st1⟩ := X.specialBack hx hy1 hown (mvT hZ w1) (mvT hZ w2) (mvT hZ w4) hy (backOf (W := W) hM hZ w4 w3 hf hl) (g := mkF m pc Ls (argsL.reverse ++ .ref a :: rest)) rfl hml (Steps.refl _) (a := a) (argsL := argsL) (rest := rest) (fun sg hsg => by cases hpd.symm.trans hsg; exact hlen) rfl (by show 2 * 0 + _ ≤ _; rw [hW]; omega) hd (fun _ _ => ⟨rfl, eT, hc, hs⟩)
  dsimp only [Pt.U, Pt.locs, Pt.cells, Pt.slots] at X1 l1 y1 z1 st1 hQ
  subst l1 y1 z1
  exact own_go (fun t k' => st1.trans k') (k v T1 Lc X1 hQ)
theorem o_callV (X : Stand p l e R s m args below meth c T locs cells slots) (hx : p.tables.exec = Jvm.exec) (hZ : Z.Warmed39 s.vm) (eT : T.heap = h) {own : String} {index : Nat} {y : MethodName} {bytes : ByteArray} {maxL : Nat} {ret : Option FieldType} {rm : Room} {W : Nat} (hown : s.vm.findClass own = some m.cls)
    (w1 : (Cond.methodLink own index y).before a0 Z = true) (w2 : (Cond.declares y).before a0 Z = true) (w5 : (Cond.selects y.cls y y).before a0 Z = true) (w6 : (Cond.instanceMethod y).before a0 Z = true) (w3 : (Cond.initialized y.cls).before a0 Z = true) (w4 : (Cond.code y bytes maxL ret).before a0 Z = true) (hy : y.cls ≠ "java/lang/invoke/MethodHandle" ∧ y.cls ≠ "java/lang/invoke/VarHandle") {as' : Array Value} {K : Option Value → Heap → List Loc → Prop}
    (hM : MetFree l y (head1 [Cond.code y bytes maxL ret] rm) (fun a U => a = as' ∧ Z.Warmed39 U.vm ∧ U.heap = h) (fun _ _ _ _ _ => True) (fun _ U o U' => ∃ v L, o = .returned v ∧ K v U'.heap L ∧ FrameEnd U o U' L rm.cells rm.slots))
    (hf : rm.frames + 1 ≤ R.frames) (hl : W + (maxL + 11) + rm.locals ≤ R.locals) (hml : Ls.size = c.maxLocals) {a : Addr} (E : Exa Z h a y.cls) {argsL st : List Value} {sig : MethodDescriptor} (hpd : parseMethodDescriptor y.desc = some sig) (hlen : argsL.length = sig.parameters.length) (hst : st = argsL.reverse ++ .ref a :: rest) (has : (.ref a :: argsL).toArray = as') (hW : (rest.map fun v => v.category).sum = W)
    (hd : decode c.code pc = .ok (.invokevirtual index, 3)) (hp : pc + 3 = pc') (hc : cells + rm.cells ≤ R.cells) (hs : slots + rm.slots ≤ R.slots)
    (k : ∀ v T' L, Stand p l e R s m args below meth c T' (locs ++ L) (cells + rm.cells) (slots + rm.slots) → K v T'.heap L → own_Go p e below Q T' (mkF m pc' Ls (v.toList ++ rest))) : own_Go p e below Q T (mkF m pc Ls st) := by
  subst hp hst has
  obtain ⟨cB, kB, qa, qb, qc⟩ := isOf hZ eT E
  obtain ⟨v, _, ⟨T1, L1, k1, n1⟩, -, X1, ⟨Lc, hQ, l1, y1, z1⟩, st1⟩ := X.virtualBack hx (y := y) (z := y) hown (mvT hZ w1) (mvT hZ w2) (notFace_of_selects (args := #[]) (mvT hZ w5)) (mvT hZ w5) (mvT hZ w6) hy (backOf (W := W) hM hZ w4 w3 hf hl) qa qc (g := mkF m pc Ls (argsL.reverse ++ .ref a :: rest)) rfl hml (Steps.refl _) (argsL := argsL) (rest := rest) (fun sg hsg => by cases hpd.symm.trans hsg; exact hlen) rfl (by show 2 * 0 + _ ≤ _; rw [hW]; omega) hd (fun _ _ => ⟨rfl, eT, hc, hs⟩)
  dsimp only [Pt.U, Pt.locs, Pt.cells, Pt.slots] at X1 l1 y1 z1 st1 hQ
  subst l1 y1 z1
  exact own_go (fun t k' => st1.trans k') (k v T1 Lc X1 hQ)
/-- a reference that may be null -/
def own_rv : Option Addr → Value
  | none => .null
  | some a => .ref a
theorem own_rv_ref (o : Option Addr) : (own_rv o).isRef = true := by cases o <;> rfl
theorem own_rv_cat (o : Option Addr) : (own_rv o).category = 1 := by cases o <;> rfl
theorem own_rv_of {v : Value} (h : v.isRef = true) : ∃ o, v = own_rv o := by
  rcases ref_cases h with rfl | ⟨a, rfl⟩
  · exact ⟨none, rfl⟩
  · exact ⟨some a, rfl⟩
theorem o_getS (X : Stand p l e R s m args below meth c T locs cells slots) (hx : p.tables.exec = Jvm.exec) (hZ : Z.Warmed39 s.vm) (eT : T.heap = h) {own O n d : String} {index : Nat} (hown : s.vm.findClass own = some m.cls) (w1 : (Cond.fieldLink own index O n d).before a0 Z = true) {v : Value} (F : Sta Z h O n d v) (hd : decode c.code pc = .ok (.getstatic index, 3)) (hp : pc + 3 = pc')
    (k : ∀ T', Stand p l e R s m args below meth c T' locs cells slots → T'.heap = h → own_Go p e below Q T' (mkF m pc' Ls (v :: rest))) : own_Go p e below Q T (mkF m pc Ls rest) := by
  subst hp
  obtain ⟨T', X', e', st⟩ := getS X hx hZ (host := "") hown w1 Via.refl eT F (g := mkF m pc Ls rest) rfl hd
  exact own_go st (k T' X' e')
end OwnObj
/-! System.arraycopy of ints into an array made since the start -/
section OwnCopy
variable {p : Program} {l : Launch} {e : Env} {R : Room} {s : State} {m : MethodId} {args : Array Value} {below : List Frame} {meth : Method} {c : Code} {T T' : State} {locs : List Loc} {cells slots : Nat} {Z : State} {a0 : Array Value} {h h' : Heap}
variable {Q : Outcome → State → Prop} {pc pc' : Nat} {Ls : Array Slot} {rest : List Value}
def own_copy (vs vd : List Int32) (sp dp n : Int32) : List Int32 := (List.range vd.length).map fun j => if dp.toNatClampNeg ≤ j ∧ j < dp.toNatClampNeg + n.toNatClampNeg then vs.getD (sp.toNatClampNeg + (j - dp.toNatClampNeg)) 0 else vd.getD j 0
def own_fits (len : Nat) (p n : Int32) : Prop := ¬ p < 0 ∧ p.toNatClampNeg + n.toNatClampNeg ≤ len
theorem o_copyI (X : Stand p l e R s m args below meth c T locs cells slots) (hx : p.tables.exec = Jvm.exec) (hZ : Z.Warmed39 s.vm) (eT : T.heap = h) {own : String} {index : Nat} (hown : s.vm.findClass own = some m.cls)
    (w1 : (Cond.methodLink own index Stand.acN).before a0 Z = true) (w2 : (Cond.native Stand.acN).before a0 Z = true) (w3 : (Cond.static Stand.acN).before a0 Z = true) (w4 : (Cond.initialized "java/lang/System").before a0 Z = true)
    {src dst : Addr} {sp dp n : Int32} {vs vd vd' : List Int32} (A : own_AI Z h src .int vs) (B : own_AI Z h dst .int vd) (hg : s.heap.size ≤ dst) (h3 : ¬ n < 0) (h4 : own_fits vs.length sp n) (h5 : own_fits vd.length dp n) (hv : own_copy vs vd sp dp n = vd')
    (hml : Ls.size = c.maxLocals) {W : Nat} (hW : (rest.map fun v => v.category).sum = W) (hd : decode c.code pc = .ok (.invokestatic index, 3)) (hp : pc + 3 = pc') (hf : 1 ≤ R.frames) (hl : W + 18 ≤ R.locals)
    (k : ∀ T' h', Stand p l e R s m args below meth c T' locs cells slots → T'.heap = h' → Keep h h' [dst] → own_AI Z h' dst .int vd' → own_Go p e below Q T' (mkF m pc' Ls rest)) : own_Go p e below Q T (mkF m pc Ls (.int n :: .int dp :: .ref dst :: .int sp :: .ref src :: rest)) := by
  subst hp hv
  obtain ⟨cs, As, qs⟩ := A
  obtain ⟨cd, Ad, qd⟩ := B
  obtain ⟨sn1, ks, hks, sComp, hsk⟩ := State.isArrayOf_alike hZ.alike As.2.1
  obtain ⟨dn1, kd, hkd, dComp, hdk⟩ := State.isArrayOf_alike hZ.alike Ad.2.1
  have ss : cs.slots.size = vs.length := own_szI qs
  have sd : cd.slots.size = vd.length := own_szI qd
  have cl (x : Int32) (hx0 : ¬ x < 0) : (x.toNatClampNeg : Int) = x.toInt := by
    have := mt Int32.lt_iff_toInt_lt.mpr hx0
    rw [Int32.toInt_zero] at this
    rw [Int32.toNatClampNeg]; omega
  have c1 := cl sp h4.1; have c2 := cl dp h5.1; have c3 := cl n h3
  have b4 := h4.2; have b5 := h5.2
  have hval (i : Nat) (hi : i < n.toNatClampNeg) : cs.slots.getD (sp.toNatClampNeg + i) .null = .int (vs.getD (sp.toNatClampNeg + i) 0) := by
    have hlt : sp.toNatClampNeg + i < vs.length := by omega
    rw [Array.getD_eq_getD_getElem?, qs, List.getElem?_toArray, List.getElem?_map, List.getElem?_eq_getElem hlt, List.getD_eq_getElem?_getD, List.getElem?_eq_getElem hlt]
    rfl
  obtain ⟨vm₁, hW₁, X₁, st⟩ := X.arraycopyK hx hown (mvT hZ w1) (mvT hZ w2) (mvT hZ w3) (mvT hZ w4) (src := src) (dst := dst) (srcPos := sp) (destPos := dp) (n := n) (cs := cs) (cd := cd) (ks := ks) (kd := kd) (sComp := sComp) (dComp := dComp) (sType := .int) (dType := .int)
    (by rw [eT]; exact As.1) (by rw [eT]; exact Ad.1) sn1 dn1 As.2.2 Ad.2.2 hks hkd hsk hdk (by decide) h4.1 h5.1 h3 (by rw [ss]; omega) (by rw [sd]; omega)
    (fun _ _ i hi => by rw [hval i hi]; exact ⟨rfl, trivial⟩) (g := mkF m pc Ls (.int n :: .int dp :: .ref dst :: .int sp :: .ref src :: rest)) rfl hml rfl hd hf (by show 2 * 0 + _ + (7 + 11) ≤ _; rw [hW]; omega)
  have X₂ := Stand.arraycopyFresh X₁ hg
  subst eT
  have facts := Cell.storeRun_facts cd dp.toNatClampNeg (cs.stretch sp.toNatClampNeg n.toNatClampNeg)
  have hlt : dst < T.heap.size := Ad.lt
  have hh : ((T.setVm vm₁).setCell dst (copied cs cd sp dp n)).heap = T.heap.setIfInBounds dst (copied cs cd sp dp n) := rfl
  refine own_go st (k _ _ X₂ rfl ?_ ?_)
  · rw [hh]
    refine ⟨by simp, fun x cx hx' hne => ?_, fun x cx hx' => ?_⟩
    · rw [Array.getElem?_setIfInBounds_ne (fun q => hne (by rw [q]; exact List.mem_singleton.mpr rfl))]; exact hx'
    · by_cases q : dst = x
      · subst q
        cases Ad.1.symm.trans hx'
        exact ⟨copied cs cd sp dp n, by simp [hlt], facts.1, facts.2.1, facts.2.2.1⟩
      · exact ⟨cx, by rw [Array.getElem?_setIfInBounds_ne q]; exact hx', rfl, rfl, rfl⟩
  · rw [hh]
    refine ⟨copied cs cd sp dp n, ⟨by simp [hlt], ?_, ?_⟩, ?_⟩
    · obtain ⟨q1, kz, q2, q3⟩ := Ad.2.1
      have f1 : (copied cs cd sp dp n).vm = cd.vm := facts.2.1
      have f2 : (copied cs cd sp dp n).cls = cd.cls := facts.1
      exact ⟨by rw [f1]; exact q1, kz, by rw [f2]; exact q2, q3⟩
    · have f1 : (copied cs cd sp dp n).vm = cd.vm := facts.2.1
      rw [f1]; exact Ad.2.2
    · apply Array.ext_getElem?
      intro j
      have g := Cell.storeRun_get cd dp.toNatClampNeg (cs.stretch sp.toNatClampNeg n.toNatClampNeg) j (by rw [Cell.stretch_length]; omega)
      rw [Cell.stretch_length] at g
      have e0 : (copied cs cd sp dp n).slots[j]? = (cd.storeRun dp.toNatClampNeg (cs.stretch sp.toNatClampNeg n.toNatClampNeg)).slots[j]? := rfl
      rw [e0, g, show ((own_copy vs vd sp dp n).map Value.int).toArray[j]? = ((own_copy vs vd sp dp n).map Value.int)[j]? from by simp, List.getElem?_map, own_copy, List.getElem?_map]
      by_cases hj : j < vd.length
      · rw [List.getElem?_range hj]
        by_cases hc : dp.toNatClampNeg ≤ j ∧ j < dp.toNatClampNeg + n.toNatClampNeg
        · rw [if_pos hc]
          have hi : j - dp.toNatClampNeg < n.toNatClampNeg := by omega
          simp only [Cell.stretch, List.getElem?_map, List.getElem?_range hi, Option.map_some, if_pos hc]
          rw [hval _ hi]
        · rw [if_neg hc, qd, List.getElem?_toArray, List.getElem?_map, List.getElem?_eq_getElem hj]
          simp only [Option.map_some, if_neg hc]
          rw [List.getD_eq_getElem?_getD, List.getElem?_eq_getElem hj]; rfl
      · have n1 : (List.range vd.length)[j]? = none := List.getElem?_eq_none (by simp; omega)
        rw [n1, if_neg (by omega), qd, List.getElem?_toArray, List.getElem?_eq_none (by simp; omega)]; rfl
end OwnCopy
/-! own facts on numbers (with kit/NumsL) -/
theorem own_tmod (x y : Int32) : (own_rem x y).toInt = x.toInt.tmod y.toInt := by
  have a := (x % y).toInt_lt; have b := (x % y).le_toInt
  rw [Int32.toInt_mod] at a b
  show (x - (x / y) * y).toInt = _
  rw [Int32.toInt_sub, Int32.toInt_mul, Int32.toInt_div, Int.bmod_mul_bmod, Int.sub_bmod_bmod, Int.mul_comm, ← Int.tmod_def]
  exact Jvm.Kit.bmod32 b a
theorem own_emod {x y : Int32} (hx : 0 ≤ x.toInt) : (own_rem x y).toInt = x.toInt % y.toInt := by rw [own_tmod, Int.tmod_eq_emod_of_nonneg hx]
theorem own_lemod {u w : Int64} (hx : 0 ≤ u.toInt) : (own_lrem u w).toInt = u.toInt % w.toInt := Jvm.Kit.i64_rem_nonneg hx
theorem own_max (x : Int32) : (x &&& 2147483647).toInt = x.toInt % 2 ^ 31 := Jvm.Kit.i32_mask x 2147483647 (by decide) (by decide)
/-- x >>> k, k a number from 1 to 31, as a division of the number without sign -/
theorem own_ushr_toNat (x y : Int32) {k : Nat} (hk : (y &&& 31).toUInt32.toNat = k) (h1 : k < 32) : (own_ushr x y).toBitVec.toNat = x.toBitVec.toNat / 2 ^ k := by
  show ((x.toUInt32 >>> (y &&& 31).toUInt32).toInt32).toBitVec.toNat = _
  rw [UInt32.toBitVec_toInt32, UInt32.toBitVec_shiftRight]
  have e : ((y &&& 31).toUInt32.toBitVec % 32).toNat = k := by
    have e0 : (y &&& 31).toUInt32.toBitVec.toNat = k := hk
    rw [BitVec.toNat_umod, e0]
    exact Nat.mod_eq_of_lt h1
  show (x.toBitVec >>> ((y &&& 31).toUInt32.toBitVec % 32).toNat).toNat = _
  rw [e, BitVec.toNat_ushiftRight, Nat.shiftRight_eq_div_pow]
theorem own_ushr_toInt (x y : Int32) {k : Nat} (hk : (y &&& 31).toUInt32.toNat = k) (h0 : 0 < k) (h1 : k < 32) : (own_ushr x y).toInt = (x.toBitVec.toNat / 2 ^ k : Nat) := by
  have h := own_ushr_toNat x y hk h1
  have hb := x.toBitVec.isLt
  have h2 : x.toBitVec.toNat / 2 ^ k ≤ x.toBitVec.toNat / 2 ^ 1 := Nat.div_le_div_left (Nat.pow_le_pow_right (by decide) h0) (by decide)
  have e : (own_ushr x y).toInt = (own_ushr x y).toBitVec.toInt := rfl
  rw [e, BitVec.toInt_eq_toNat_cond, h, if_pos (by omega)]
theorem own_in_of {n : Nat} {j : Int32} (h0 : 0 ≤ j.toInt) (h1 : j.toInt < n) : own_in n j := by
  refine ⟨fun q => ?_, ?_⟩
  · rw [Int32.lt_iff_toInt_lt] at q
    have : (0 : Int32).toInt = 0 := rfl
    omega
  · rw [Int32.toNatClampNeg]; omega
theorem own_lt {x y : Int32} : x < y ↔ x.toInt < y.toInt := Int32.lt_iff_toInt_lt
theorem own_eq {x y : Int32} : x = y ↔ x.toInt = y.toInt := Int32.toInt_inj.symm
theorem own_ltL {x y : Int64} : x < y ↔ x.toInt < y.toInt := Int64.lt_iff_toInt_lt
theorem own_eqL {x y : Int64} : x = y ↔ x.toInt = y.toInt := Int64.toInt_inj.symm
theorem own_nat_toInt {k : Nat} (h : k < 2 ^ 31) : (Int32.ofNat k).toInt = k := Int32.toInt_ofNat_of_lt (by omega)
theorem own_nat_lt {i n : Nat} (hi : i < 2 ^ 31) (hn : n < 2 ^ 31) : Int32.ofNat i < Int32.ofNat n ↔ i < n := by
  rw [own_lt, own_nat_toInt hi, own_nat_toInt hn]; omega
theorem own_nat_one (i : Nat) : Int32.ofNat i + (1 : Int32) = Int32.ofNat (i + 1) := (Int32.ofNat_add i 1).symm
theorem own_nat_clamp {k : Nat} (h : k < 2 ^ 31) : (Int32.ofNat k).toNatClampNeg = k := by
  rw [Int32.toNatClampNeg, own_nat_toInt h]; rfl
theorem own_nat_get (v : List Int32) {k : Nat} (h : k < 2 ^ 31) : own_get v (Int32.ofNat k) = v.getD k 0 := by rw [own_get, own_nat_clamp h]
theorem own_nat_in {n k : Nat} (h : k < n) (hk : k < 2 ^ 31) : own_in n (Int32.ofNat k) := own_in_of (by rw [own_nat_toInt hk]; omega) (by rw [own_nat_toInt hk]; omega)
theorem own_nat_of {x : Int32} (h : 0 ≤ x.toInt) : ∃ k : Nat, x = Int32.ofNat k ∧ (k : Int) = x.toInt ∧ k < 2 ^ 31 := by
  have u := x.toInt_lt
  refine ⟨x.toInt.toNat, ?_, by omega, by omega⟩
  rw [own_eq, own_nat_toInt (by omega)]; omega
theorem own_nat_sub {a b : Nat} (ha : a < 2 ^ 31) (h : b ≤ a) : Int32.ofNat a - Int32.ofNat b = Int32.ofNat (a - b) := by
  have e1 := own_nat_toInt ha
  have e2 := own_nat_toInt (k := b) (by omega)
  have e3 := own_nat_toInt (k := a - b) (by omega)
  rw [own_eq, Jvm.Kit.i32_sub (by omega) (by omega)]
  omega
theorem own_i2b2 (x : Int32) : own_i2b (own_i2b x) = own_i2b x := by
  show (x.toInt8.toInt32).toInt8.toInt32 = x.toInt8.toInt32
  rw [Int8.toInt8_toInt32]
/-- a hash: 31 * h + the next, count times from place i on -/
def own_h (v : List Int32) : Int32 → Nat → Nat → Int32
  | h, _, 0 => h
  | h, i, c + 1 => own_h v (31 * h + v.getD i 0) (i + 1) c
def own_p : Nat → Int32
  | 0 => 1
  | n + 1 => 31 * own_p n
def own_sum (v : List Int32) : Nat → Nat → Int32
  | _, 0 => 0
  | i, c + 1 => v.getD i 0 * own_p c + own_sum v (i + 1) c
theorem own_h_eq (v : List Int32) : ∀ (c : Nat) (h : Int32) (i : Nat), own_h v h i c = h * own_p c + own_sum v i c := by
  intro c
  induction c with
  | zero => intro h i; simp only [own_h, own_p, own_sum, Int32.mul_one, Int32.add_zero]
  | succ c ih =>
    intro h i
    rw [own_h, ih, own_p, own_sum, Int32.add_mul, Int32.mul_comm 31 h, Int32.mul_assoc, Int32.add_assoc]
theorem own_toNat (x : Int32) : (x.toBitVec.toNat : Int) = x.toInt % 2 ^ 32 := by
  have e : x.toInt = x.toBitVec.toInt := rfl
  have h := x.toBitVec.isLt
  rw [e, BitVec.toInt_eq_toNat_cond]
  split <;> omega
theorem pd_0 : parseMethodDescriptor "(JJ)J" = some ⟨[.long, .long], some .long⟩ := by decide +kernel
theorem pd_1 : parseMethodDescriptor "([JJJ)V" = some ⟨[(.array .long), .long, .long], none⟩ := by decide +kernel
theorem pd_2 : parseMethodDescriptor "()V" = some ⟨[], none⟩ := by decide +kernel
theorem pd_3 : parseMethodDescriptor "()I" = some ⟨[], some .int⟩ := by decide +kernel
theorem d6_0 : decode jdk_29_method_66_code 0 = .ok (.lload_n 0, 1) := by decide +kernel
theorem d6_1 : decode jdk_29_method_66_code 1 = .ok (.lload_n 2, 1) := by decide +kernel
theorem d6_2 : decode jdk_29_method_66_code 2 = .ok (.lcmp, 1) := by decide +kernel
theorem d6_3 : decode jdk_29_method_66_code 3 = .ok (.ifCond .lt 7, 3) := by decide +kernel
theorem d6_6 : decode jdk_29_method_66_code 6 = .ok (.lload_n 0, 1) := by decide +kernel
theorem d6_7 : decode jdk_29_method_66_code 7 = .ok (.goto 4, 3) := by decide +kernel
theorem d6_10 : decode jdk_29_method_66_code 10 = .ok (.lload_n 2, 1) := by decide +kernel
theorem d6_11 : decode jdk_29_method_66_code 11 = .ok (.lreturn, 1) := by decide +kernel
section Body6
variable {p : Program} {l : Launch} {e : Env} {s : State} {m : MethodId} {args : Array Value} {below : List Frame} {meth : Method} {c : Code} {Z : State} {ag : Array Value} {K : Option Value → Heap → List Loc → Prop}
abbrev R6 : Room := { frames := 0, cells := 0, slots := 0, locals := 0 }
abbrev cc6 : Nat := 0
abbrev ss6 : Nat := 0
def f6_11 (t0 : Int64) : Int64 := t0
set_option maxRecDepth 65536 in
set_option maxHeartbeats 40000000 in
theorem b6_11 (C : own_Cx p s m meth c Z ag jdk_29_method_66_code 4 "java/lang/Math" (some .long) "max") {T : State} {h : Heap} {z0 : Int64} {z2 : Int64} (t0 : Int64) (X : Stand p l e R6 s m args below meth c T [] 0 0) (eT : T.heap = h) (hK : K (some (.long (f6_11 t0))) h []) : own_Go p e below (own_Q s K cc6 ss6) T (mkF m 11 #[.val (.long z0), .second, .val (.long z2), .second] [(.long t0)]) := by
  obtain ⟨hx, hZ, hw, hby, hml, hown, hret, hlk, hnm⟩ := id C
  unfold f6_11 at hK
  exact o_retL X hx hret hlk (hb hby d6_11) (by decide) (by decide) eT (hK)

def f6_0 (q0 : Int64) (q1 : Int64) : Int64 := (if q0 < q1 then (f6_11 q1) else (f6_11 q0))
set_option maxRecDepth 65536 in
set_option maxHeartbeats 40000000 in
theorem b6_0 (C : own_Cx p s m meth c Z ag jdk_29_method_66_code 4 "java/lang/Math" (some .long) "max") {T : State} {h : Heap} (q0 : Int64) (q1 : Int64) (X : Stand p l e R6 s m args below meth c T [] 0 0) (eT : T.heap = h) (hK : K (some (.long (f6_0 q0 q1))) h []) : own_Go p e below (own_Q s K cc6 ss6) T (mkF m 0 #[.val (.long q0), .second, .val (.long q1), .second] []) := by
  obtain ⟨hx, hZ, hw, hby, hml, hown, hret, hlk, hnm⟩ := id C
  unfold f6_0 at hK
  refine o_lloadN (pc' := 1) X hx (hb hby d6_0) rfl rfl ?_
  refine o_lloadN (pc' := 2) X hx (hb hby d6_1) rfl rfl ?_
  refine o_lcmp (pc' := 3) X hx (hb hby d6_2) rfl ?_
  refine o_ifP (P := q0 < q1) (pc1 := 10) (pc2 := 6) X hx XT.ll_lt_t XT.ll_lt_f (hb hby d6_3) (by decide) (by decide) rfl (fun c1 => ?_) (fun c1 => ?_)
  · rw [if_pos c1] at hK
    refine o_lloadN (pc' := 11) X hx (hb hby d6_10) rfl rfl ?_
    exact b6_11 C q1 X eT hK
  · rw [if_neg c1] at hK
    refine o_lloadN (pc' := 7) X hx (hb hby d6_6) rfl rfl ?_
    refine o_goto (pc' := 11) X hx (hb hby d6_7) (by decide) (by decide) ?_
    exact b6_11 C q0 X eT hK

end Body6
theorem ef_6 (m : MethodId) (q0 : Int64) (q1 : Int64) : entryFrame m #[(.long q0), (.long q1)] 4 = mkF m 0 #[.val (.long q0), .second, .val (.long q1), .second] [] := by first | (simp [entryFrame, mkF, argsToLocals, Value.category]; done) | rfl
set_option maxRecDepth 65536 in
set_option maxHeartbeats 40000000 in
theorem rm6 (l : Launch) (Z : State) (ag : Array Value) (hw : ∀ d ∈ tables_1, d.before ag Z = true) (ws : List Jvm.Cond) (q0 : Int64) (q1 : Int64) (h0 : Heap) :
    MetFree l (⟨"java/lang/Math", "max", "(JJ)J"⟩ : MethodName) (head1 (Jvm.Cond.code (⟨"java/lang/Math", "max", "(JJ)J"⟩ : MethodName) jdk_29_method_66_code 4 (some .long) :: ws) R6) (fun a U => a = #[(.long q0), (.long q1)] ∧ Z.Warmed39 U.vm ∧ U.heap = h0) (fun _ _ _ _ _ => True) (fun _ U o U' => ∃ v L, o = .returned v ∧ own_KP (some (.long (f6_0 q0 q1))) h0 v U'.heap L ∧ FrameEnd U o U' L R6.cells R6.slots) := by
  refine MetFree.of_bodySF (Jvm.Free.JP.mathPlain rfl (by decide +kernel)) hisR ?_
  intro p e s m args below meth c s₁ Bd hml0 hP hK
  obtain ⟨rfl, hZ, hh⟩ := hP
  have C : own_Cx p s m meth c Z ag jdk_29_method_66_code 4 "java/lang/Math" (some .long) "max" := ⟨Bd.exec, hZ, hw, Bd.bytes, hml0, findClass_of_methodNamed Bd.named, Bd.returns, Bd.notSynchronized, (name_of_methodNamed Bd.named Bd.method).1⟩
  have X0 : Stand p l e R6 s m #[(.long q0), (.long q1)] below meth c s₁ [] 0 0 := Stand.of_body Bd
  have e0 : s₁.heap = h0 := by rw [← hh, Bd.state]; rfl
  rw [ef_6]
  exact b6_0 (K := own_KP (some (.long (f6_0 q0 q1))) h0) C q0 q1 X0 e0 ⟨rfl, rfl, rfl⟩

theorem d7_0 : decode jdk_29_method_70_code 0 = .ok (.lload_n 0, 1) := by decide +kernel
theorem d7_1 : decode jdk_29_method_70_code 1 = .ok (.lload_n 2, 1) := by decide +kernel
theorem d7_2 : decode jdk_29_method_70_code 2 = .ok (.lcmp, 1) := by decide +kernel
theorem d7_3 : decode jdk_29_method_70_code 3 = .ok (.ifCond .gt 7, 3) := by decide +kernel
theorem d7_6 : decode jdk_29_method_70_code 6 = .ok (.lload_n 0, 1) := by decide +kernel
theorem d7_7 : decode jdk_29_method_70_code 7 = .ok (.goto 4, 3) := by decide +kernel
theorem d7_10 : decode jdk_29_method_70_code 10 = .ok (.lload_n 2, 1) := by decide +kernel
theorem d7_11 : decode jdk_29_method_70_code 11 = .ok (.lreturn, 1) := by decide +kernel
section Body7
variable {p : Program} {l : Launch} {e : Env} {s : State} {m : MethodId} {args : Array Value} {below : List Frame} {meth : Method} {c : Code} {Z : State} {ag : Array Value} {K : Option Value → Heap → List Loc → Prop}
abbrev R7 : Room := { frames := 0, cells := 0, slots := 0, locals := 0 }
abbrev cc7 : Nat := 0
abbrev ss7 : Nat := 0
def f7_11 (t0 : Int64) : Int64 := t0
set_option maxRecDepth 65536 in
set_option maxHeartbeats 40000000 in
theorem b7_11 (C : own_Cx p s m meth c Z ag jdk_29_method_70_code 4 "java/lang/Math" (some .long) "min") {T : State} {h : Heap} {z0 : Int64} {z2 : Int64} (t0 : Int64) (X : Stand p l e R7 s m args below meth c T [] 0 0) (eT : T.heap = h) (hK : K (some (.long (f7_11 t0))) h []) : own_Go p e below (own_Q s K cc7 ss7) T (mkF m 11 #[.val (.long z0), .second, .val (.long z2), .second] [(.long t0)]) := by
  obtain ⟨hx, hZ, hw, hby, hml, hown, hret, hlk, hnm⟩ := id C
  unfold f7_11 at hK
  exact o_retL X hx hret hlk (hb hby d7_11) (by decide) (by decide) eT (hK)

def f7_0 (q0 : Int64) (q1 : Int64) : Int64 := (if q1 < q0 then (f7_11 q1) else (f7_11 q0))
set_option maxRecDepth 65536 in
set_option maxHeartbeats 40000000 in
theorem b7_0 (C : own_Cx p s m meth c Z ag jdk_29_method_70_code 4 "java/lang/Math" (some .long) "min") {T : State} {h : Heap} (q0 : Int64) (q1 : Int64) (X : Stand p l e R7 s m args below meth c T [] 0 0) (eT : T.heap = h) (hK : K (some (.long (f7_0 q0 q1))) h []) : own_Go p e below (own_Q s K cc7 ss7) T (mkF m 0 #[.val (.long q0), .second, .val (.long q1), .second] []) := by
  obtain ⟨hx, hZ, hw, hby, hml, hown, hret, hlk, hnm⟩ := id C
  unfold f7_0 at hK
  refine o_lloadN (pc' := 1) X hx (hb hby d7_0) rfl rfl ?_
  refine o_lloadN (pc' := 2) X hx (hb hby d7_1) rfl rfl ?_
  refine o_lcmp (pc' := 3) X hx (hb hby d7_2) rfl ?_
  refine o_ifP (P := q1 < q0) (pc1 := 10) (pc2 := 6) X hx XT.ll_gt_t XT.ll_gt_f (hb hby d7_3) (by decide) (by decide) rfl (fun c2 => ?_) (fun c2 => ?_)
  · rw [if_pos c2] at hK
    refine o_lloadN (pc' := 11) X hx (hb hby d7_10) rfl rfl ?_
    exact b7_11 C q1 X eT hK
  · rw [if_neg c2] at hK
    refine o_lloadN (pc' := 7) X hx (hb hby d7_6) rfl rfl ?_
    refine o_goto (pc' := 11) X hx (hb hby d7_7) (by decide) (by decide) ?_
    exact b7_11 C q0 X eT hK

end Body7
theorem ef_7 (m : MethodId) (q0 : Int64) (q1 : Int64) : entryFrame m #[(.long q0), (.long q1)] 4 = mkF m 0 #[.val (.long q0), .second, .val (.long q1), .second] [] := by first | (simp [entryFrame, mkF, argsToLocals, Value.category]; done) | rfl
set_option maxRecDepth 65536 in
set_option maxHeartbeats 40000000 in
theorem rm7 (l : Launch) (Z : State) (ag : Array Value) (hw : ∀ d ∈ tables_1, d.before ag Z = true) (ws : List Jvm.Cond) (q0 : Int64) (q1 : Int64) (h0 : Heap) :
    MetFree l (⟨"java/lang/Math", "min", "(JJ)J"⟩ : MethodName) (head1 (Jvm.Cond.code (⟨"java/lang/Math", "min", "(JJ)J"⟩ : MethodName) jdk_29_method_70_code 4 (some .long) :: ws) R7) (fun a U => a = #[(.long q0), (.long q1)] ∧ Z.Warmed39 U.vm ∧ U.heap = h0) (fun _ _ _ _ _ => True) (fun _ U o U' => ∃ v L, o = .returned v ∧ own_KP (some (.long (f7_0 q0 q1))) h0 v U'.heap L ∧ FrameEnd U o U' L R7.cells R7.slots) := by
  refine MetFree.of_bodySF (Jvm.Free.JP.mathPlain rfl (by decide +kernel)) hisR ?_
  intro p e s m args below meth c s₁ Bd hml0 hP hK
  obtain ⟨rfl, hZ, hh⟩ := hP
  have C : own_Cx p s m meth c Z ag jdk_29_method_70_code 4 "java/lang/Math" (some .long) "min" := ⟨Bd.exec, hZ, hw, Bd.bytes, hml0, findClass_of_methodNamed Bd.named, Bd.returns, Bd.notSynchronized, (name_of_methodNamed Bd.named Bd.method).1⟩
  have X0 : Stand p l e R7 s m #[(.long q0), (.long q1)] below meth c s₁ [] 0 0 := Stand.of_body Bd
  have e0 : s₁.heap = h0 := by rw [← hh, Bd.state]; rfl
  rw [ef_7]
  exact b7_0 (K := own_KP (some (.long (f7_0 q0 q1))) h0) C q0 q1 X0 e0 ⟨rfl, rfl, rfl⟩

theorem d1_0 : decode method_3_code 0 = .ok (.aload_n 0, 1) := by decide +kernel
theorem d1_1 : decode method_3_code 1 = .ok (.arraylength, 1) := by decide +kernel
theorem d1_2 : decode method_3_code 2 = .ok (.ifCond .le 7, 3) := by decide +kernel
theorem d1_5 : decode method_3_code 5 = .ok (.aload_n 0, 1) := by decide +kernel
theorem d1_6 : decode method_3_code 6 = .ok (.iconst 0, 1) := by decide +kernel
theorem d1_7 : decode method_3_code 7 = .ok (.lload_n 1, 1) := by decide +kernel
theorem d1_8 : decode method_3_code 8 = .ok (.lastore, 1) := by decide +kernel
theorem d1_9 : decode method_3_code 9 = .ok (.aload_n 0, 1) := by decide +kernel
theorem d1_10 : decode method_3_code 10 = .ok (.arraylength, 1) := by decide +kernel
theorem d1_11 : decode method_3_code 11 = .ok (.iconst 1, 1) := by decide +kernel
theorem d1_12 : decode method_3_code 12 = .ok (.if_icmp .le 7, 3) := by decide +kernel
theorem d1_15 : decode method_3_code 15 = .ok (.aload_n 0, 1) := by decide +kernel
theorem d1_16 : decode method_3_code 16 = .ok (.iconst 1, 1) := by decide +kernel
theorem d1_17 : decode method_3_code 17 = .ok (.lload_n 3, 1) := by decide +kernel
theorem d1_18 : decode method_3_code 18 = .ok (.lastore, 1) := by decide +kernel
theorem d1_19 : decode method_3_code 19 = .ok (.aload_n 0, 1) := by decide +kernel
theorem d1_20 : decode method_3_code 20 = .ok (.arraylength, 1) := by decide +kernel
theorem d1_21 : decode method_3_code 21 = .ok (.iconst 2, 1) := by decide +kernel
theorem d1_22 : decode method_3_code 22 = .ok (.if_icmp .le 9, 3) := by decide +kernel
theorem d1_25 : decode method_3_code 25 = .ok (.aload_n 0, 1) := by decide +kernel
theorem d1_26 : decode method_3_code 26 = .ok (.iconst 2, 1) := by decide +kernel
theorem d1_27 : decode method_3_code 27 = .ok (.lload_n 1, 1) := by decide +kernel
theorem d1_28 : decode method_3_code 28 = .ok (.lload_n 3, 1) := by decide +kernel
theorem d1_29 : decode method_3_code 29 = .ok (.lxor, 1) := by decide +kernel
theorem d1_30 : decode method_3_code 30 = .ok (.lastore, 1) := by decide +kernel
theorem d1_31 : decode method_3_code 31 = .ok (.return_, 1) := by decide +kernel
section Body1
variable {p : Program} {l : Launch} {e : Env} {s : State} {m : MethodId} {args : Array Value} {below : List Frame} {meth : Method} {c : Code} {Z : State} {ag : Array Value} {K : Option Value → Heap → List Loc → Prop}
abbrev R1 : Room := { frames := 0, cells := 0, slots := 0, locals := 0 }
abbrev cc1 : Nat := 0
abbrev ss1 : Nat := 0
def f1_31 (v0 : List Int64) : List Int64 := v0
set_option maxRecDepth 65536 in
set_option maxHeartbeats 40000000 in
theorem b1_31 (C : own_Cx p s m meth c Z ag method_3_code 5 "com/example/doubs/doubs/live/RunTimesAddPinLaw" none "fill") {T : State} {h : Heap} {h0 : Heap} {L : List Loc} {z1 : Int64} {z3 : Int64} {z0 : Slot} (a0 : Addr) (v0 : List Int64) (X : Stand p l e R1 s m args below meth c T L 0 0) (eT : T.heap = h) (hN : ∀ y ∈ L, y.base = a0) (hKp : Keep h0 h [a0]) (Aa0 : own_AJ Z h a0 v0) (hz0 : One z0) (hK : ∀ h' L', (∀ y ∈ L', y.base = a0) → Keep h0 h' [a0] → own_AJ Z h' a0 (f1_31 v0) → K none h' L') : own_Go p e below (own_Q s K cc1 ss1) T (mkF m 31 #[z0, .val (.long z1), .second, .val (.long z3), .second] []) := by
  obtain ⟨hx, hZ, hw, hby, hml, hown, hret, hlk, hnm⟩ := id C
  unfold f1_31 at hK
  exact o_retV X hx hret hlk (hb hby d1_31) (by decide) (by decide) eT (hK _ _ hN hKp Aa0)

def f1_19 (v0 : List Int64) (x1 : Int64) (x3 : Int64) : List Int64 := (if (2 : Int32) < (own_len v0.length) then (f1_31 (own_setL v0 (2 : Int32) (x1 ^^^ x3))) else (f1_31 v0))
def s1_19 (v0 : List Int64) (x1 : Int64) (x3 : Int64) : Prop := (((2 : Int32) < (own_len v0.length) → (own_in v0.length (2 : Int32) ∧ True)) ∧ (¬ ((2 : Int32) < (own_len v0.length)) → True))
set_option maxRecDepth 65536 in
set_option maxHeartbeats 40000000 in
theorem b1_19 (C : own_Cx p s m meth c Z ag method_3_code 5 "com/example/doubs/doubs/live/RunTimesAddPinLaw" none "fill") {T : State} {h : Heap} {h0 : Heap} {L : List Loc} (a0 : Addr) (v0 : List Int64) (x1 : Int64) (x3 : Int64) (X : Stand p l e R1 s m args below meth c T L 0 0) (eT : T.heap = h) (hN : ∀ y ∈ L, y.base = a0) (hKp : Keep h0 h [a0]) (Aa0 : own_AJ Z h a0 v0) (hs : s1_19 v0 x1 x3) (hK : ∀ h' L', (∀ y ∈ L', y.base = a0) → Keep h0 h' [a0] → own_AJ Z h' a0 (f1_19 v0 x1 x3) → K none h' L') : own_Go p e below (own_Q s K cc1 ss1) T (mkF m 19 #[.val (.ref a0), .val (.long x1), .second, .val (.long x3), .second] []) := by
  obtain ⟨hx, hZ, hw, hby, hml, hown, hret, hlk, hnm⟩ := id C
  unfold f1_19 at hK
  unfold s1_19 at hs
  refine o_aloadN (pc' := 20) X hx (hb hby d1_19) rfl rfl rfl ?_
  refine o_alenJ (pc' := 21)  X hx hZ eT Aa0 (hb hby d1_20) rfl rfl ?_
  refine o_iconst (pc' := 22) (x := (2 : Int32)) X hx (hb hby d1_21) (by decide) rfl ?_
  refine o_icN (P := (2 : Int32) < (own_len v0.length)) (pc1 := 31) (pc2 := 25) X hx XT.ii_le_f XT.ii_le_t (hb hby d1_22) (by decide) (by decide) rfl (fun c5 => ?_) (fun c5 => ?_)
  · rw [if_neg c5] at hK
    exact b1_31 C a0 v0 X eT hN hKp Aa0 (One.val rfl) hK
  · rw [if_pos c5] at hK
    refine o_aloadN (pc' := 26) X hx (hb hby d1_25) rfl rfl rfl ?_
    refine o_iconst (pc' := 27) (x := (2 : Int32)) X hx (hb hby d1_26) (by decide) rfl ?_
    refine o_lloadN (pc' := 28) X hx (hb hby d1_27) rfl rfl ?_
    refine o_lloadN (pc' := 29) X hx (hb hby d1_28) rfl rfl ?_
    refine o_lxor (pc' := 30)  X hx (hb hby d1_29) rfl rfl ?_
    refine o_lastore (pc' := 31) (vs' := (own_setL v0 (2 : Int32) (x1 ^^^ x3))) X hx hZ eT Aa0 (hs.1 c5).1 (hb hby d1_30) rfl rfl fun T6 h6 X6 e6 W6 A6 => ?_
    have N6 : ∀ y ∈ L ++ [⟨a0, ((2 : Int32)).toNatClampNeg⟩], y.base = a0 := own_snoc hN
    have P6 := hKp.wr W6 (Or.inl (List.mem_singleton.mpr rfl))
    exact b1_31 C a0 (own_setL v0 (2 : Int32) (x1 ^^^ x3)) X6 e6 N6 P6 A6 (One.val rfl) hK

def f1_9 (v0 : List Int64) (x1 : Int64) (x3 : Int64) : List Int64 := (if (1 : Int32) < (own_len v0.length) then (f1_19 (own_setL v0 (1 : Int32) x3) x1 x3) else (f1_19 v0 x1 x3))
def s1_9 (v0 : List Int64) (x1 : Int64) (x3 : Int64) : Prop := (((1 : Int32) < (own_len v0.length) → (own_in v0.length (1 : Int32) ∧ s1_19 (own_setL v0 (1 : Int32) x3) x1 x3)) ∧ (¬ ((1 : Int32) < (own_len v0.length)) → s1_19 v0 x1 x3))
set_option maxRecDepth 65536 in
set_option maxHeartbeats 40000000 in
theorem b1_9 (C : own_Cx p s m meth c Z ag method_3_code 5 "com/example/doubs/doubs/live/RunTimesAddPinLaw" none "fill") {T : State} {h : Heap} {h0 : Heap} {L : List Loc} (a0 : Addr) (v0 : List Int64) (x1 : Int64) (x3 : Int64) (X : Stand p l e R1 s m args below meth c T L 0 0) (eT : T.heap = h) (hN : ∀ y ∈ L, y.base = a0) (hKp : Keep h0 h [a0]) (Aa0 : own_AJ Z h a0 v0) (hs : s1_9 v0 x1 x3) (hK : ∀ h' L', (∀ y ∈ L', y.base = a0) → Keep h0 h' [a0] → own_AJ Z h' a0 (f1_9 v0 x1 x3) → K none h' L') : own_Go p e below (own_Q s K cc1 ss1) T (mkF m 9 #[.val (.ref a0), .val (.long x1), .second, .val (.long x3), .second] []) := by
  obtain ⟨hx, hZ, hw, hby, hml, hown, hret, hlk, hnm⟩ := id C
  unfold f1_9 at hK
  unfold s1_9 at hs
  refine o_aloadN (pc' := 10) X hx (hb hby d1_9) rfl rfl rfl ?_
  refine o_alenJ (pc' := 11)  X hx hZ eT Aa0 (hb hby d1_10) rfl rfl ?_
  refine o_iconst (pc' := 12) (x := (1 : Int32)) X hx (hb hby d1_11) (by decide) rfl ?_
  refine o_icN (P := (1 : Int32) < (own_len v0.length)) (pc1 := 19) (pc2 := 15) X hx XT.ii_le_f XT.ii_le_t (hb hby d1_12) (by decide) (by decide) rfl (fun c4 => ?_) (fun c4 => ?_)
  · rw [if_neg c4] at hK
    exact b1_19 C a0 v0 x1 x3 X eT hN hKp Aa0 (hs.2 c4) hK
  · rw [if_pos c4] at hK
    refine o_aloadN (pc' := 16) X hx (hb hby d1_15) rfl rfl rfl ?_
    refine o_iconst (pc' := 17) (x := (1 : Int32)) X hx (hb hby d1_16) (by decide) rfl ?_
    refine o_lloadN (pc' := 18) X hx (hb hby d1_17) rfl rfl ?_
    refine o_lastore (pc' := 19) (vs' := (own_setL v0 (1 : Int32) x3)) X hx hZ eT Aa0 (hs.1 c4).1 (hb hby d1_18) rfl rfl fun T7 h7 X7 e7 W7 A7 => ?_
    have N7 : ∀ y ∈ L ++ [⟨a0, ((1 : Int32)).toNatClampNeg⟩], y.base = a0 := own_snoc hN
    have P7 := hKp.wr W7 (Or.inl (List.mem_singleton.mpr rfl))
    exact b1_19 C a0 (own_setL v0 (1 : Int32) x3) x1 x3 X7 e7 N7 P7 A7 (hs.1 c4).2 hK

def f1_0 (v0 : List Int64) (q1 : Int64) (q2 : Int64) : List Int64 := (if (0 : Int32) < (own_len v0.length) then (f1_9 (own_setL v0 (0 : Int32) q1) q1 q2) else (f1_9 v0 q1 q2))
def s1_0 (v0 : List Int64) (q1 : Int64) (q2 : Int64) : Prop := (((0 : Int32) < (own_len v0.length) → (own_in v0.length (0 : Int32) ∧ s1_9 (own_setL v0 (0 : Int32) q1) q1 q2)) ∧ (¬ ((0 : Int32) < (own_len v0.length)) → s1_9 v0 q1 q2))
set_option maxRecDepth 65536 in
set_option maxHeartbeats 40000000 in
theorem b1_0 (C : own_Cx p s m meth c Z ag method_3_code 5 "com/example/doubs/doubs/live/RunTimesAddPinLaw" none "fill") {T : State} {h : Heap} {h0 : Heap} {L : List Loc} (a0 : Addr) (v0 : List Int64) (q1 : Int64) (q2 : Int64) (X : Stand p l e R1 s m args below meth c T L 0 0) (eT : T.heap = h) (hN : ∀ y ∈ L, y.base = a0) (hKp : Keep h0 h [a0]) (Aa0 : own_AJ Z h a0 v0) (hs : s1_0 v0 q1 q2) (hK : ∀ h' L', (∀ y ∈ L', y.base = a0) → Keep h0 h' [a0] → own_AJ Z h' a0 (f1_0 v0 q1 q2) → K none h' L') : own_Go p e below (own_Q s K cc1 ss1) T (mkF m 0 #[.val (.ref a0), .val (.long q1), .second, .val (.long q2), .second] []) := by
  obtain ⟨hx, hZ, hw, hby, hml, hown, hret, hlk, hnm⟩ := id C
  unfold f1_0 at hK
  unfold s1_0 at hs
  refine o_aloadN (pc' := 1) X hx (hb hby d1_0) rfl rfl rfl ?_
  refine o_alenJ (pc' := 2)  X hx hZ eT Aa0 (hb hby d1_1) rfl rfl ?_
  refine o_ifN (P := (0 : Int32) < (own_len v0.length)) (pc1 := 9) (pc2 := 5) X hx XT.i0_le_f XT.i0_le_t (hb hby d1_2) (by decide) (by decide) rfl (fun c3 => ?_) (fun c3 => ?_)
  · rw [if_neg c3] at hK
    exact b1_9 C a0 v0 q1 q2 X eT hN hKp Aa0 (hs.2 c3) hK
  · rw [if_pos c3] at hK
    refine o_aloadN (pc' := 6) X hx (hb hby d1_5) rfl rfl rfl ?_
    refine o_iconst (pc' := 7) (x := (0 : Int32)) X hx (hb hby d1_6) (by decide) rfl ?_
    refine o_lloadN (pc' := 8) X hx (hb hby d1_7) rfl rfl ?_
    refine o_lastore (pc' := 9) (vs' := (own_setL v0 (0 : Int32) q1)) X hx hZ eT Aa0 (hs.1 c3).1 (hb hby d1_8) rfl rfl fun T8 h8 X8 e8 W8 A8 => ?_
    have N8 : ∀ y ∈ L ++ [⟨a0, ((0 : Int32)).toNatClampNeg⟩], y.base = a0 := own_snoc hN
    have P8 := hKp.wr W8 (Or.inl (List.mem_singleton.mpr rfl))
    exact b1_9 C a0 (own_setL v0 (0 : Int32) q1) q1 q2 X8 e8 N8 P8 A8 (hs.1 c3).2 hK

end Body1
theorem pn_RunTimesAddPinLaw : plainName "com/example/doubs/doubs/live/RunTimesAddPinLaw" = true := by first | (simp [plainName, overriddenIn]; done) | decide +kernel
theorem ef_1 (m : MethodId) (a0 : Addr) (q1 : Int64) (q2 : Int64) : entryFrame m #[(.ref a0), (.long q1), (.long q2)] 5 = mkF m 0 #[.val (.ref a0), .val (.long q1), .second, .val (.long q2), .second] [] := by first | (simp [entryFrame, mkF, argsToLocals, Value.category]; done) | rfl
set_option maxRecDepth 65536 in
set_option maxHeartbeats 40000000 in
theorem rm1 (l : Launch) (Z : State) (ag : Array Value) (hw : ∀ d ∈ tables_1, d.before ag Z = true) (ws : List Jvm.Cond) (a0 : Addr) (v0 : List Int64) (q1 : Int64) (q2 : Int64) (h0 : Heap) (Aa0 : own_AJ Z h0 a0 v0) (hs : s1_0 v0 q1 q2) :
    MetFree l (⟨"com/example/doubs/doubs/live/RunTimesAddPinLaw", "fill", "([JJJ)V"⟩ : MethodName) (head1 (Jvm.Cond.code (⟨"com/example/doubs/doubs/live/RunTimesAddPinLaw", "fill", "([JJJ)V"⟩ : MethodName) method_3_code 5 none :: ws) R1) (fun a U => a = #[(.ref a0), (.long q1), (.long q2)] ∧ Z.Warmed39 U.vm ∧ U.heap = h0) (fun _ _ _ _ _ => True) (fun _ U o U' => ∃ v L, o = .returned v ∧ own_KWJ Z a0 (f1_0 v0 q1 q2) h0 v U'.heap L ∧ FrameEnd U o U' L R1.cells R1.slots) := by
  refine MetFree.of_bodySF (plainFor_of_name pn_RunTimesAddPinLaw) hisR ?_
  intro p e s m args below meth c s₁ Bd hml0 hP hK
  obtain ⟨rfl, hZ, hh⟩ := hP
  have C : own_Cx p s m meth c Z ag method_3_code 5 "com/example/doubs/doubs/live/RunTimesAddPinLaw" none "fill" := ⟨Bd.exec, hZ, hw, Bd.bytes, hml0, findClass_of_methodNamed Bd.named, Bd.returns, Bd.notSynchronized, (name_of_methodNamed Bd.named Bd.method).1⟩
  have X0 : Stand p l e R1 s m #[(.ref a0), (.long q1), (.long q2)] below meth c s₁ [] 0 0 := Stand.of_body Bd
  have e0 : s₁.heap = h0 := by rw [← hh, Bd.state]; rfl
  rw [ef_1]
  exact b1_0 (K := own_KWJ Z a0 (f1_0 v0 q1 q2) h0) C a0 v0 q1 q2 X0 e0 (fun _ q => nomatch q) (Keep.refl _ _) Aa0 hs (fun h' L' q1 q2 q3 => ⟨rfl, q1, q2, q3⟩)

theorem d2_0 : decode prog_46_method_1_code 0 = .ok (.aload_n 0, 1) := by decide +kernel
theorem d2_1 : decode prog_46_method_1_code 1 = .ok (.invokespecial 1, 3) := by decide +kernel
theorem d2_4 : decode prog_46_method_1_code 4 = .ok (.aload_n 0, 1) := by decide +kernel
theorem d2_5 : decode prog_46_method_1_code 5 = .ok (.ldc2_w 9, 3) := by decide +kernel
theorem d2_8 : decode prog_46_method_1_code 8 = .ok (.putfield 11, 3) := by decide +kernel
theorem d2_11 : decode prog_46_method_1_code 11 = .ok (.aload_n 0, 1) := by decide +kernel
theorem d2_12 : decode prog_46_method_1_code 12 = .ok (.ldc2_w 17, 3) := by decide +kernel
theorem d2_15 : decode prog_46_method_1_code 15 = .ok (.putfield 19, 3) := by decide +kernel
theorem d2_18 : decode prog_46_method_1_code 18 = .ok (.return_, 1) := by decide +kernel
section Body2
variable {p : Program} {l : Launch} {e : Env} {s : State} {m : MethodId} {args : Array Value} {below : List Frame} {meth : Method} {c : Code} {Z : State} {ag : Array Value} {K : Option Value → Heap → List Loc → Prop}
abbrev R2 : Room := { frames := 1, cells := 0, slots := 0, locals := 12 }
abbrev cc2 : Nat := 0
abbrev ss2 : Nat := 0
def f2_0 (w0_locks : Int32) : Int32 := w0_locks
set_option maxRecDepth 65536 in
set_option maxHeartbeats 40000000 in
theorem b2_0 (C : own_Cx p s m meth c Z ag prog_46_method_1_code 1 "com/example/doubs/doubs/live/RunTimes" none "<init>") {T : State} {h : Heap} {h0 : Heap} {L : List Loc} (a0 : Addr) (w0_firstRequest : Int64) (w0_lastRelease : Int64) (w0_locks : Int32) (w0_maxWait : Int64) (w0_totalWait : Int64) (X : Stand p l e R2 s m args below meth c T L 0 0) (eT : T.heap = h) (hN : ∀ y ∈ L, y.base = a0) (hKp : Keep h0 h [a0]) (hs0 : s.heap = h0) (Ea0 : Exa Z h a0 "com/example/doubs/doubs/live/RunTimes") (Fa0_firstRequest : Fld Z h a0 "com/example/doubs/doubs/live/RunTimes" "firstRequest" "J" (.long w0_firstRequest)) (Fa0_lastRelease : Fld Z h a0 "com/example/doubs/doubs/live/RunTimes" "lastRelease" "J" (.long w0_lastRelease)) (Fa0_locks : Fld Z h a0 "com/example/doubs/doubs/live/RunTimes" "locks" "I" (.int w0_locks)) (Fa0_maxWait : Fld Z h a0 "com/example/doubs/doubs/live/RunTimes" "maxWait" "J" (.long w0_maxWait)) (Fa0_totalWait : Fld Z h a0 "com/example/doubs/doubs/live/RunTimes" "totalWait" "J" (.long w0_totalWait)) (hK : ∀ h' L' (u_firstRequest : Int64) (u_lastRelease : Int64) (u_maxWait : Int64) (u_totalWait : Int64), (∀ y ∈ L', y.base = a0) → Keep h0 h' [a0] → Exa Z h' a0 "com/example/doubs/doubs/live/RunTimes" → Fld Z h' a0 "com/example/doubs/doubs/live/RunTimes" "firstRequest" "J" (.long u_firstRequest) → Fld Z h' a0 "com/example/doubs/doubs/live/RunTimes" "lastRelease" "J" (.long u_lastRelease) → Fld Z h' a0 "com/example/doubs/doubs/live/RunTimes" "locks" "I" (.int (f2_0 w0_locks)) → Fld Z h' a0 "com/example/doubs/doubs/live/RunTimes" "maxWait" "J" (.long u_maxWait) → Fld Z h' a0 "com/example/doubs/doubs/live/RunTimes" "totalWait" "J" (.long u_totalWait) → K none h' L') : own_Go p e below (own_Q s K cc2 ss2) T (mkF m 0 #[.val (.ref a0)] []) := by
  obtain ⟨hx, hZ, hw, hby, hml, hown, hret, hlk, hnm⟩ := id C
  unfold f2_0 at hK
  refine o_aloadN (pc' := 1) X hx (hb hby d2_0) rfl rfl rfl ?_
  refine o_initO (W := 0) (pc' := 4) X hx hZ eT hown (hw _ (List.mem_of_getElem? (i := 11) rfl)) (hw _ (List.mem_of_getElem? (i := 12) rfl)) (hw _ (List.mem_of_getElem? (i := 13) rfl)) (by rw [hml]; rfl) rfl (hb hby d2_1) rfl (by decide) (by decide) fun T9 X9 e9 => ?_
  refine o_aloadN (pc' := 5) X9 hx (hb hby d2_4) rfl rfl rfl ?_
  refine o_ldcL (pc' := 8) X9 hx hZ hown (hw _ (List.mem_of_getElem? (i := 14) rfl)) (hb hby d2_5) rfl ?_
  refine o_putF (pc' := 11) X9 hx hZ e9 hown (hw _ (List.mem_of_getElem? (i := 15) rfl)) Fa0_firstRequest Ea0 (Or.inl (hw _ (List.mem_of_getElem? (i := 16) rfl))) (hw _ (List.mem_of_getElem? (i := 6) rfl)) (ty := .long) (by decide) rfl rfl (hb hby d2_8) rfl fun T10 h10 X10 e10 W10 => ?_
  have G10_a0_firstRequest := Fld.same W10 Fa0_firstRequest
  have G10_a0_lastRelease := Fld.other W10 Fa0_lastRelease (Or.inr (slot_ne (Or.inl (hw _ (List.mem_of_getElem? (i := 19) rfl))) (Or.inl (hw _ (List.mem_of_getElem? (i := 16) rfl))) (by decide) (t := .long) (t' := .long) (by decide) (by decide)))
  have G10_a0_locks := Fld.other W10 Fa0_locks (Or.inr (slot_ne (Or.inl (hw _ (List.mem_of_getElem? (i := 26) rfl))) (Or.inl (hw _ (List.mem_of_getElem? (i := 16) rfl))) (by decide) (t := .int) (t' := .long) (by decide) (by decide)))
  have G10_a0_maxWait := Fld.other W10 Fa0_maxWait (Or.inr (slot_ne (Or.inl (hw _ (List.mem_of_getElem? (i := 35) rfl))) (Or.inl (hw _ (List.mem_of_getElem? (i := 16) rfl))) (by decide) (t := .long) (t' := .long) (by decide) (by decide)))
  have G10_a0_totalWait := Fld.other W10 Fa0_totalWait (Or.inr (slot_ne (Or.inl (hw _ (List.mem_of_getElem? (i := 33) rfl))) (Or.inl (hw _ (List.mem_of_getElem? (i := 16) rfl))) (by decide) (t := .long) (t' := .long) (by decide) (by decide)))
  have H10_a0 := Exa.wr W10 Ea0
  have N10 : ∀ y ∈ L ++ [⟨a0, Jvm.RoadKit.slotOf Z "com/example/doubs/doubs/live/RunTimes" "firstRequest" "J"⟩], y.base = a0 := own_snoc hN
  have P10 := hKp.wr W10 (Or.inl (List.mem_singleton.mpr rfl))
  refine o_aloadN (pc' := 12) X10 hx (hb hby d2_11) rfl rfl rfl ?_
  refine o_ldcL (pc' := 15) X10 hx hZ hown (hw _ (List.mem_of_getElem? (i := 17) rfl)) (hb hby d2_12) rfl ?_
  refine o_putF (pc' := 18) X10 hx hZ e10 hown (hw _ (List.mem_of_getElem? (i := 18) rfl)) G10_a0_lastRelease H10_a0 (Or.inl (hw _ (List.mem_of_getElem? (i := 19) rfl))) (hw _ (List.mem_of_getElem? (i := 6) rfl)) (ty := .long) (by decide) rfl rfl (hb hby d2_15) rfl fun T11 h11 X11 e11 W11 => ?_
  have G11_a0_firstRequest := Fld.other W11 G10_a0_firstRequest (Or.inr (slot_ne (Or.inl (hw _ (List.mem_of_getElem? (i := 16) rfl))) (Or.inl (hw _ (List.mem_of_getElem? (i := 19) rfl))) (by decide) (t := .long) (t' := .long) (by decide) (by decide)))
  have G11_a0_lastRelease := Fld.same W11 G10_a0_lastRelease
  have G11_a0_locks := Fld.other W11 G10_a0_locks (Or.inr (slot_ne (Or.inl (hw _ (List.mem_of_getElem? (i := 26) rfl))) (Or.inl (hw _ (List.mem_of_getElem? (i := 19) rfl))) (by decide) (t := .int) (t' := .long) (by decide) (by decide)))
  have G11_a0_maxWait := Fld.other W11 G10_a0_maxWait (Or.inr (slot_ne (Or.inl (hw _ (List.mem_of_getElem? (i := 35) rfl))) (Or.inl (hw _ (List.mem_of_getElem? (i := 19) rfl))) (by decide) (t := .long) (t' := .long) (by decide) (by decide)))
  have G11_a0_totalWait := Fld.other W11 G10_a0_totalWait (Or.inr (slot_ne (Or.inl (hw _ (List.mem_of_getElem? (i := 33) rfl))) (Or.inl (hw _ (List.mem_of_getElem? (i := 19) rfl))) (by decide) (t := .long) (t' := .long) (by decide) (by decide)))
  have H11_a0 := Exa.wr W11 H10_a0
  have N11 : ∀ y ∈ (L ++ [⟨a0, Jvm.RoadKit.slotOf Z "com/example/doubs/doubs/live/RunTimes" "firstRequest" "J"⟩]) ++ [⟨a0, Jvm.RoadKit.slotOf Z "com/example/doubs/doubs/live/RunTimes" "lastRelease" "J"⟩], y.base = a0 := own_snoc N10
  have P11 := P10.wr W11 (Or.inl (List.mem_singleton.mpr rfl))
  exact o_retV X11 hx hret hlk (hb hby d2_18) (by decide) (by decide) e11 (hK _ _ (9223372036854775807 : Int64) (-9223372036854775808 : Int64) w0_maxWait w0_totalWait N11 P11 H11_a0 G11_a0_firstRequest G11_a0_lastRelease G11_a0_locks G11_a0_maxWait G11_a0_totalWait)

end Body2
theorem pn_RunTimes : plainName "com/example/doubs/doubs/live/RunTimes" = true := by first | (simp [plainName, overriddenIn]; done) | decide +kernel
theorem ef_2 (m : MethodId) (a0 : Addr) : entryFrame m #[(.ref a0)] 1 = mkF m 0 #[.val (.ref a0)] [] := by first | (simp [entryFrame, mkF, argsToLocals, Value.category]; done) | rfl
def K2 (Z : State) (a0 : Addr) (w0_firstRequest : Int64) (w0_lastRelease : Int64) (w0_locks : Int32) (w0_maxWait : Int64) (w0_totalWait : Int64) (h0 : Heap) : Option Value → Heap → List Loc → Prop := fun v h L => v = none ∧ (∀ y ∈ L, y.base = a0) ∧ Keep h0 h [a0] ∧ ∃ (u_firstRequest : Int64), ∃ (u_lastRelease : Int64), ∃ (u_maxWait : Int64), ∃ (u_totalWait : Int64), Exa Z h a0 "com/example/doubs/doubs/live/RunTimes" ∧ Fld Z h a0 "com/example/doubs/doubs/live/RunTimes" "firstRequest" "J" (.long u_firstRequest) ∧ Fld Z h a0 "com/example/doubs/doubs/live/RunTimes" "lastRelease" "J" (.long u_lastRelease) ∧ Fld Z h a0 "com/example/doubs/doubs/live/RunTimes" "locks" "I" (.int (f2_0 w0_locks)) ∧ Fld Z h a0 "com/example/doubs/doubs/live/RunTimes" "maxWait" "J" (.long u_maxWait) ∧ Fld Z h a0 "com/example/doubs/doubs/live/RunTimes" "totalWait" "J" (.long u_totalWait)
set_option maxRecDepth 65536 in
set_option maxHeartbeats 40000000 in
theorem rm2 (l : Launch) (Z : State) (ag : Array Value) (hw : ∀ d ∈ tables_1, d.before ag Z = true) (ws : List Jvm.Cond) (a0 : Addr) (w0_firstRequest : Int64) (w0_lastRelease : Int64) (w0_locks : Int32) (w0_maxWait : Int64) (w0_totalWait : Int64) (h0 : Heap) (Ea0 : Exa Z h0 a0 "com/example/doubs/doubs/live/RunTimes") (Fa0_firstRequest : Fld Z h0 a0 "com/example/doubs/doubs/live/RunTimes" "firstRequest" "J" (.long w0_firstRequest)) (Fa0_lastRelease : Fld Z h0 a0 "com/example/doubs/doubs/live/RunTimes" "lastRelease" "J" (.long w0_lastRelease)) (Fa0_locks : Fld Z h0 a0 "com/example/doubs/doubs/live/RunTimes" "locks" "I" (.int w0_locks)) (Fa0_maxWait : Fld Z h0 a0 "com/example/doubs/doubs/live/RunTimes" "maxWait" "J" (.long w0_maxWait)) (Fa0_totalWait : Fld Z h0 a0 "com/example/doubs/doubs/live/RunTimes" "totalWait" "J" (.long w0_totalWait)) :
    MetFree l (⟨"com/example/doubs/doubs/live/RunTimes", "<init>", "()V"⟩ : MethodName) (head1 (Jvm.Cond.code (⟨"com/example/doubs/doubs/live/RunTimes", "<init>", "()V"⟩ : MethodName) prog_46_method_1_code 1 none :: ws) R2) (fun a U => a = #[(.ref a0)] ∧ Z.Warmed39 U.vm ∧ U.heap = h0) (fun _ _ _ _ _ => True) (fun _ U o U' => ∃ v L, o = .returned v ∧ (K2 Z a0 w0_firstRequest w0_lastRelease w0_locks w0_maxWait w0_totalWait h0) v U'.heap L ∧ FrameEnd U o U' L R2.cells R2.slots) := by
  refine MetFree.of_bodySF (plainFor_of_name pn_RunTimes) hisR ?_
  intro p e s m args below meth c s₁ Bd hml0 hP hK
  obtain ⟨rfl, hZ, hh⟩ := hP
  have C : own_Cx p s m meth c Z ag prog_46_method_1_code 1 "com/example/doubs/doubs/live/RunTimes" none "<init>" := ⟨Bd.exec, hZ, hw, Bd.bytes, hml0, findClass_of_methodNamed Bd.named, Bd.returns, Bd.notSynchronized, (name_of_methodNamed Bd.named Bd.method).1⟩
  have X0 : Stand p l e R2 s m #[(.ref a0)] below meth c s₁ [] 0 0 := Stand.of_body Bd
  have e0 : s₁.heap = h0 := by rw [← hh, Bd.state]; rfl
  rw [ef_2]
  exact b2_0 (K := (K2 Z a0 w0_firstRequest w0_lastRelease w0_locks w0_maxWait w0_totalWait h0)) C a0 w0_firstRequest w0_lastRelease w0_locks w0_maxWait w0_totalWait X0 e0 (fun _ q => nomatch q) (Keep.refl _ _) hh Ea0 Fa0_firstRequest Fa0_lastRelease Fa0_locks Fa0_maxWait Fa0_totalWait (fun h' L' u_firstRequest u_lastRelease u_maxWait u_totalWait q' q'' q0 q1 q2 q3 q4 q5 => ⟨rfl, q', q'', u_firstRequest, u_lastRelease, u_maxWait, u_totalWait, q0, q1, q2, q3, q4, q5⟩)

theorem d4_0 : decode prog_46_method_3_code 0 = .ok (.aload_n 0, 1) := by decide +kernel
theorem d4_1 : decode prog_46_method_3_code 1 = .ok (.getfield 34, 3) := by decide +kernel
theorem d4_4 : decode prog_46_method_3_code 4 = .ok (.ireturn, 1) := by decide +kernel
section Body4
variable {p : Program} {l : Launch} {e : Env} {s : State} {m : MethodId} {args : Array Value} {below : List Frame} {meth : Method} {c : Code} {Z : State} {ag : Array Value} {K : Option Value → Heap → List Loc → Prop}
abbrev R4 : Room := { frames := 0, cells := 0, slots := 0, locals := 0 }
abbrev cc4 : Nat := 0
abbrev ss4 : Nat := 0
def f4_0 (w0_locks : Int32) : Int32 := w0_locks
set_option maxRecDepth 65536 in
set_option maxHeartbeats 40000000 in
theorem b4_0 (C : own_Cx p s m meth c Z ag prog_46_method_3_code 1 "com/example/doubs/doubs/live/RunTimes" (some .int) "locks") {T : State} {h : Heap} (a0 : Addr) (w0_locks : Int32) (X : Stand p l e R4 s m args below meth c T [] 0 0) (eT : T.heap = h) (Ea0 : Exa Z h a0 "com/example/doubs/doubs/live/RunTimes") (Fa0_locks : Fld Z h a0 "com/example/doubs/doubs/live/RunTimes" "locks" "I" (.int w0_locks)) (hK : K (some (.int (f4_0 w0_locks))) h []) : own_Go p e below (own_Q s K cc4 ss4) T (mkF m 0 #[.val (.ref a0)] []) := by
  obtain ⟨hx, hZ, hw, hby, hml, hown, hret, hlk, hnm⟩ := id C
  unfold f4_0 at hK
  refine o_aloadN (pc' := 1) X hx (hb hby d4_0) rfl rfl rfl ?_
  refine o_getF (pc' := 4) X hx hZ eT hown (hw _ (List.mem_of_getElem? (i := 25) rfl)) Fa0_locks (hb hby d4_1) rfl fun T12 X12 e12 => ?_
  exact o_retI X12 hx hret hlk (hb hby d4_4) (by decide) (by decide) e12 (hK)

end Body4
theorem ef_4 (m : MethodId) (a0 : Addr) : entryFrame m #[(.ref a0)] 1 = mkF m 0 #[.val (.ref a0)] [] := by first | (simp [entryFrame, mkF, argsToLocals, Value.category]; done) | rfl
set_option maxRecDepth 65536 in
set_option maxHeartbeats 40000000 in
theorem rm4 (l : Launch) (Z : State) (ag : Array Value) (hw : ∀ d ∈ tables_1, d.before ag Z = true) (ws : List Jvm.Cond) (a0 : Addr) (w0_locks : Int32) (h0 : Heap) (Ea0 : Exa Z h0 a0 "com/example/doubs/doubs/live/RunTimes") (Fa0_locks : Fld Z h0 a0 "com/example/doubs/doubs/live/RunTimes" "locks" "I" (.int w0_locks)) :
    MetFree l (⟨"com/example/doubs/doubs/live/RunTimes", "locks", "()I"⟩ : MethodName) (head1 (Jvm.Cond.code (⟨"com/example/doubs/doubs/live/RunTimes", "locks", "()I"⟩ : MethodName) prog_46_method_3_code 1 (some .int) :: ws) R4) (fun a U => a = #[(.ref a0)] ∧ Z.Warmed39 U.vm ∧ U.heap = h0) (fun _ _ _ _ _ => True) (fun _ U o U' => ∃ v L, o = .returned v ∧ own_KP (some (.int (f4_0 w0_locks))) h0 v U'.heap L ∧ FrameEnd U o U' L R4.cells R4.slots) := by
  refine MetFree.of_bodySF (plainFor_of_name pn_RunTimes) hisR ?_
  intro p e s m args below meth c s₁ Bd hml0 hP hK
  obtain ⟨rfl, hZ, hh⟩ := hP
  have C : own_Cx p s m meth c Z ag prog_46_method_3_code 1 "com/example/doubs/doubs/live/RunTimes" (some .int) "locks" := ⟨Bd.exec, hZ, hw, Bd.bytes, hml0, findClass_of_methodNamed Bd.named, Bd.returns, Bd.notSynchronized, (name_of_methodNamed Bd.named Bd.method).1⟩
  have X0 : Stand p l e R4 s m #[(.ref a0)] below meth c s₁ [] 0 0 := Stand.of_body Bd
  have e0 : s₁.heap = h0 := by rw [← hh, Bd.state]; rfl
  rw [ef_4]
  exact b4_0 (K := own_KP (some (.int (f4_0 w0_locks))) h0) C a0 w0_locks X0 e0 Ea0 Fa0_locks ⟨rfl, rfl, rfl⟩

theorem d5_0 : decode prog_46_method_2_code 0 = .ok (.aload_n 1, 1) := by decide +kernel
theorem d5_1 : decode prog_46_method_2_code 1 = .ok (.astore 6, 2) := by decide +kernel
theorem d5_3 : decode prog_46_method_2_code 3 = .ok (.aload 6, 2) := by decide +kernel
theorem d5_5 : decode prog_46_method_2_code 5 = .ok (.arraylength, 1) := by decide +kernel
theorem d5_6 : decode prog_46_method_2_code 6 = .ok (.istore 7, 2) := by decide +kernel
theorem d5_8 : decode prog_46_method_2_code 8 = .ok (.iconst 0, 1) := by decide +kernel
theorem d5_9 : decode prog_46_method_2_code 9 = .ok (.istore 8, 2) := by decide +kernel
theorem d5_11 : decode prog_46_method_2_code 11 = .ok (.iload 8, 2) := by decide +kernel
theorem d5_13 : decode prog_46_method_2_code 13 = .ok (.iload 7, 2) := by decide +kernel
theorem d5_15 : decode prog_46_method_2_code 15 = .ok (.if_icmp .ge 40, 3) := by decide +kernel
theorem d5_18 : decode prog_46_method_2_code 18 = .ok (.aload 6, 2) := by decide +kernel
theorem d5_20 : decode prog_46_method_2_code 20 = .ok (.iload 8, 2) := by decide +kernel
theorem d5_22 : decode prog_46_method_2_code 22 = .ok (.laload, 1) := by decide +kernel
theorem d5_23 : decode prog_46_method_2_code 23 = .ok (.lstore 9, 2) := by decide +kernel
theorem d5_25 : decode prog_46_method_2_code 25 = .ok (.aload_n 0, 1) := by decide +kernel
theorem d5_26 : decode prog_46_method_2_code 26 = .ok (.dup, 1) := by decide +kernel
theorem d5_27 : decode prog_46_method_2_code 27 = .ok (.getfield 22, 3) := by decide +kernel
theorem d5_30 : decode prog_46_method_2_code 30 = .ok (.lload 9, 2) := by decide +kernel
theorem d5_32 : decode prog_46_method_2_code 32 = .ok (.ladd, 1) := by decide +kernel
theorem d5_33 : decode prog_46_method_2_code 33 = .ok (.putfield 22, 3) := by decide +kernel
theorem d5_36 : decode prog_46_method_2_code 36 = .ok (.aload_n 0, 1) := by decide +kernel
theorem d5_37 : decode prog_46_method_2_code 37 = .ok (.aload_n 0, 1) := by decide +kernel
theorem d5_38 : decode prog_46_method_2_code 38 = .ok (.getfield 25, 3) := by decide +kernel
theorem d5_41 : decode prog_46_method_2_code 41 = .ok (.lload 9, 2) := by decide +kernel
theorem d5_43 : decode prog_46_method_2_code 43 = .ok (.invokestatic 28, 3) := by decide +kernel
theorem d5_46 : decode prog_46_method_2_code 46 = .ok (.putfield 25, 3) := by decide +kernel
theorem d5_49 : decode prog_46_method_2_code 49 = .ok (.iinc 8 1, 3) := by decide +kernel
theorem d5_52 : decode prog_46_method_2_code 52 = .ok (.goto (-41), 3) := by decide +kernel
theorem d5_55 : decode prog_46_method_2_code 55 = .ok (.aload_n 1, 1) := by decide +kernel
theorem d5_56 : decode prog_46_method_2_code 56 = .ok (.arraylength, 1) := by decide +kernel
theorem d5_57 : decode prog_46_method_2_code 57 = .ok (.ifCond .le 39, 3) := by decide +kernel
theorem d5_60 : decode prog_46_method_2_code 60 = .ok (.aload_n 0, 1) := by decide +kernel
theorem d5_61 : decode prog_46_method_2_code 61 = .ok (.dup, 1) := by decide +kernel
theorem d5_62 : decode prog_46_method_2_code 62 = .ok (.getfield 34, 3) := by decide +kernel
theorem d5_65 : decode prog_46_method_2_code 65 = .ok (.aload_n 1, 1) := by decide +kernel
theorem d5_66 : decode prog_46_method_2_code 66 = .ok (.arraylength, 1) := by decide +kernel
theorem d5_67 : decode prog_46_method_2_code 67 = .ok (.iadd, 1) := by decide +kernel
theorem d5_68 : decode prog_46_method_2_code 68 = .ok (.putfield 34, 3) := by decide +kernel
theorem d5_71 : decode prog_46_method_2_code 71 = .ok (.aload_n 0, 1) := by decide +kernel
theorem d5_72 : decode prog_46_method_2_code 72 = .ok (.aload_n 0, 1) := by decide +kernel
theorem d5_73 : decode prog_46_method_2_code 73 = .ok (.getfield 11, 3) := by decide +kernel
theorem d5_76 : decode prog_46_method_2_code 76 = .ok (.lload_n 2, 1) := by decide +kernel
theorem d5_77 : decode prog_46_method_2_code 77 = .ok (.invokestatic 38, 3) := by decide +kernel
theorem d5_80 : decode prog_46_method_2_code 80 = .ok (.putfield 11, 3) := by decide +kernel
theorem d5_83 : decode prog_46_method_2_code 83 = .ok (.aload_n 0, 1) := by decide +kernel
theorem d5_84 : decode prog_46_method_2_code 84 = .ok (.aload_n 0, 1) := by decide +kernel
theorem d5_85 : decode prog_46_method_2_code 85 = .ok (.getfield 19, 3) := by decide +kernel
theorem d5_88 : decode prog_46_method_2_code 88 = .ok (.lload 4, 2) := by decide +kernel
theorem d5_90 : decode prog_46_method_2_code 90 = .ok (.invokestatic 28, 3) := by decide +kernel
theorem d5_93 : decode prog_46_method_2_code 93 = .ok (.putfield 19, 3) := by decide +kernel
theorem d5_96 : decode prog_46_method_2_code 96 = .ok (.return_, 1) := by decide +kernel
section Body5
variable {p : Program} {l : Launch} {e : Env} {s : State} {m : MethodId} {args : Array Value} {below : List Frame} {meth : Method} {c : Code} {Z : State} {ag : Array Value} {K : Option Value → Heap → List Loc → Prop}
abbrev R5 : Room := { frames := 1, cells := 0, slots := 0, locals := 16 }
abbrev cc5 : Nat := 0
abbrev ss5 : Nat := 0
def f5_96 (w0_locks : Int32) : Int32 := w0_locks
set_option maxRecDepth 65536 in
set_option maxHeartbeats 40000000 in
theorem b5_96 (C : own_Cx p s m meth c Z ag prog_46_method_2_code 11 "com/example/doubs/doubs/live/RunTimes" none "add") {T : State} {h : Heap} {h0 : Heap} {L : List Loc} {z2 : Int64} {z4 : Int64} {z0 : Slot} {z1 : Slot} {z6 : Slot} {z7 : Slot} {z8 : Slot} (a0 : Addr) (w0_firstRequest : Int64) (w0_lastRelease : Int64) (w0_locks : Int32) (w0_maxWait : Int64) (w0_totalWait : Int64) (X : Stand p l e R5 s m args below meth c T L 0 0) (eT : T.heap = h) (hN : ∀ y ∈ L, y.base = a0) (hKp : Keep h0 h [a0]) (hs0 : s.heap = h0) (Ea0 : Exa Z h a0 "com/example/doubs/doubs/live/RunTimes") (Fa0_firstRequest : Fld Z h a0 "com/example/doubs/doubs/live/RunTimes" "firstRequest" "J" (.long w0_firstRequest)) (Fa0_lastRelease : Fld Z h a0 "com/example/doubs/doubs/live/RunTimes" "lastRelease" "J" (.long w0_lastRelease)) (Fa0_locks : Fld Z h a0 "com/example/doubs/doubs/live/RunTimes" "locks" "I" (.int w0_locks)) (Fa0_maxWait : Fld Z h a0 "com/example/doubs/doubs/live/RunTimes" "maxWait" "J" (.long w0_maxWait)) (Fa0_totalWait : Fld Z h a0 "com/example/doubs/doubs/live/RunTimes" "totalWait" "J" (.long w0_totalWait)) (hz0 : One z0) (hz1 : One z1) (hz6 : One z6) (hz7 : One z7) (hz8 : One z8) (hK : ∀ h' L' (u_firstRequest : Int64) (u_lastRelease : Int64) (u_maxWait : Int64) (u_totalWait : Int64), (∀ y ∈ L', y.base = a0) → Keep h0 h' [a0] → Exa Z h' a0 "com/example/doubs/doubs/live/RunTimes" → Fld Z h' a0 "com/example/doubs/doubs/live/RunTimes" "firstRequest" "J" (.long u_firstRequest) → Fld Z h' a0 "com/example/doubs/doubs/live/RunTimes" "lastRelease" "J" (.long u_lastRelease) → Fld Z h' a0 "com/example/doubs/doubs/live/RunTimes" "locks" "I" (.int (f5_96 w0_locks)) → Fld Z h' a0 "com/example/doubs/doubs/live/RunTimes" "maxWait" "J" (.long u_maxWait) → Fld Z h' a0 "com/example/doubs/doubs/live/RunTimes" "totalWait" "J" (.long u_totalWait) → K none h' L') : own_Go p e below (own_Q s K cc5 ss5) T (mkF m 96 #[z0, z1, .val (.long z2), .second, .val (.long z4), .second, z6, z7, z8, .unset, .unset] []) := by
  obtain ⟨hx, hZ, hw, hby, hml, hown, hret, hlk, hnm⟩ := id C
  unfold f5_96 at hK
  exact o_retV X hx hret hlk (hb hby d5_96) (by decide) (by decide) eT (hK _ _ w0_firstRequest w0_lastRelease w0_maxWait w0_totalWait hN hKp Ea0 Fa0_firstRequest Fa0_lastRelease Fa0_locks Fa0_maxWait Fa0_totalWait)

def f5_96_4 (w0_locks : Int32) : Int32 := w0_locks
set_option maxRecDepth 65536 in
set_option maxHeartbeats 40000000 in
theorem b5_96_4 (C : own_Cx p s m meth c Z ag prog_46_method_2_code 11 "com/example/doubs/doubs/live/RunTimes" none "add") {T : State} {h : Heap} {h0 : Heap} {L : List Loc} {z2 : Int64} {z4 : Int64} {z9 : Int64} {z0 : Slot} {z1 : Slot} {z6 : Slot} {z7 : Slot} {z8 : Slot} (a0 : Addr) (w0_firstRequest : Int64) (w0_lastRelease : Int64) (w0_locks : Int32) (w0_maxWait : Int64) (w0_totalWait : Int64) (X : Stand p l e R5 s m args below meth c T L 0 0) (eT : T.heap = h) (hN : ∀ y ∈ L, y.base = a0) (hKp : Keep h0 h [a0]) (hs0 : s.heap = h0) (Ea0 : Exa Z h a0 "com/example/doubs/doubs/live/RunTimes") (Fa0_firstRequest : Fld Z h a0 "com/example/doubs/doubs/live/RunTimes" "firstRequest" "J" (.long w0_firstRequest)) (Fa0_lastRelease : Fld Z h a0 "com/example/doubs/doubs/live/RunTimes" "lastRelease" "J" (.long w0_lastRelease)) (Fa0_locks : Fld Z h a0 "com/example/doubs/doubs/live/RunTimes" "locks" "I" (.int w0_locks)) (Fa0_maxWait : Fld Z h a0 "com/example/doubs/doubs/live/RunTimes" "maxWait" "J" (.long w0_maxWait)) (Fa0_totalWait : Fld Z h a0 "com/example/doubs/doubs/live/RunTimes" "totalWait" "J" (.long w0_totalWait)) (hz0 : One z0) (hz1 : One z1) (hz6 : One z6) (hz7 : One z7) (hz8 : One z8) (hK : ∀ h' L' (u_firstRequest : Int64) (u_lastRelease : Int64) (u_maxWait : Int64) (u_totalWait : Int64), (∀ y ∈ L', y.base = a0) → Keep h0 h' [a0] → Exa Z h' a0 "com/example/doubs/doubs/live/RunTimes" → Fld Z h' a0 "com/example/doubs/doubs/live/RunTimes" "firstRequest" "J" (.long u_firstRequest) → Fld Z h' a0 "com/example/doubs/doubs/live/RunTimes" "lastRelease" "J" (.long u_lastRelease) → Fld Z h' a0 "com/example/doubs/doubs/live/RunTimes" "locks" "I" (.int (f5_96_4 w0_locks)) → Fld Z h' a0 "com/example/doubs/doubs/live/RunTimes" "maxWait" "J" (.long u_maxWait) → Fld Z h' a0 "com/example/doubs/doubs/live/RunTimes" "totalWait" "J" (.long u_totalWait) → K none h' L') : own_Go p e below (own_Q s K cc5 ss5) T (mkF m 96 #[z0, z1, .val (.long z2), .second, .val (.long z4), .second, z6, z7, z8, .val (.long z9), .second] []) := by
  obtain ⟨hx, hZ, hw, hby, hml, hown, hret, hlk, hnm⟩ := id C
  unfold f5_96_4 at hK
  exact o_retV X hx hret hlk (hb hby d5_96) (by decide) (by decide) eT (hK _ _ w0_firstRequest w0_lastRelease w0_maxWait w0_totalWait hN hKp Ea0 Fa0_firstRequest Fa0_lastRelease Fa0_locks Fa0_maxWait Fa0_totalWait)

def f5_11_3 : Nat → Int32 → List Int64 → Int64 → Int64 → Int32 → Int32 → Int32
  | 0, _, _, _, _, _, _ => 0
  | n + 1, w0_locks, v1, x2, x4, x7, x8 => (if x8 < x7 then (f5_11_3 n w0_locks v1 x2 x4 x7 (x8 + (1 : Int32))) else (if (0 : Int32) < (own_len v1.length) then (f5_96_4 (w0_locks + (own_len v1.length))) else (f5_96_4 w0_locks)))
def s5_11_3 : Nat → Int32 → List Int64 → Int64 → Int64 → Int32 → Int32 → Prop
  | 0, _, _, _, _, _, _ => False
  | n + 1, w0_locks, v1, x2, x4, x7, x8 => ((x8 < x7 → (own_in v1.length x8 ∧ s5_11_3 n w0_locks v1 x2 x4 x7 (x8 + (1 : Int32)))) ∧ (¬ (x8 < x7) → True))
set_option maxRecDepth 65536 in
set_option maxHeartbeats 40000000 in
theorem b5_11_3 (C : own_Cx p s m meth c Z ag prog_46_method_2_code 11 "com/example/doubs/doubs/live/RunTimes" none "add") :
    ∀ (n : Nat) {T : State} {h : Heap} {h0 : Heap} {L : List Loc} {z9 : Int64} (a0 : Addr) (w0_firstRequest : Int64) (w0_lastRelease : Int64) (w0_locks : Int32) (w0_maxWait : Int64) (w0_totalWait : Int64) (a1 : Addr) (v1 : List Int64) (x2 : Int64) (x4 : Int64) (x7 : Int32) (x8 : Int32) (X : Stand p l e R5 s m args below meth c T L 0 0) (eT : T.heap = h) (hN : ∀ y ∈ L, y.base = a0) (hKp : Keep h0 h [a0]) (hs0 : s.heap = h0) (Aa1 : own_AJ Z h a1 v1) (Ea0 : Exa Z h a0 "com/example/doubs/doubs/live/RunTimes") (Fa0_firstRequest : Fld Z h a0 "com/example/doubs/doubs/live/RunTimes" "firstRequest" "J" (.long w0_firstRequest)) (Fa0_lastRelease : Fld Z h a0 "com/example/doubs/doubs/live/RunTimes" "lastRelease" "J" (.long w0_lastRelease)) (Fa0_locks : Fld Z h a0 "com/example/doubs/doubs/live/RunTimes" "locks" "I" (.int w0_locks)) (Fa0_maxWait : Fld Z h a0 "com/example/doubs/doubs/live/RunTimes" "maxWait" "J" (.long w0_maxWait)) (Fa0_totalWait : Fld Z h a0 "com/example/doubs/doubs/live/RunTimes" "totalWait" "J" (.long w0_totalWait)) (hs : s5_11_3 n w0_locks v1 x2 x4 x7 x8) (hK : ∀ h' L' (u_firstRequest : Int64) (u_lastRelease : Int64) (u_maxWait : Int64) (u_totalWait : Int64), (∀ y ∈ L', y.base = a0) → Keep h0 h' [a0] → Exa Z h' a0 "com/example/doubs/doubs/live/RunTimes" → Fld Z h' a0 "com/example/doubs/doubs/live/RunTimes" "firstRequest" "J" (.long u_firstRequest) → Fld Z h' a0 "com/example/doubs/doubs/live/RunTimes" "lastRelease" "J" (.long u_lastRelease) → Fld Z h' a0 "com/example/doubs/doubs/live/RunTimes" "locks" "I" (.int (f5_11_3 n w0_locks v1 x2 x4 x7 x8)) → Fld Z h' a0 "com/example/doubs/doubs/live/RunTimes" "maxWait" "J" (.long u_maxWait) → Fld Z h' a0 "com/example/doubs/doubs/live/RunTimes" "totalWait" "J" (.long u_totalWait) → K none h' L'), own_Go p e below (own_Q s K cc5 ss5) T (mkF m 11 #[.val (.ref a0), .val (.ref a1), .val (.long x2), .second, .val (.long x4), .second, .val (.ref a1), .val (.int x7), .val (.int x8), .val (.long z9), .second] []) := by
  intro n
  induction n with
  | zero => intros; rename_i hs _; exact hs.elim
  | succ n ih =>
    intro T h h0 L z9 a0 w0_firstRequest w0_lastRelease w0_locks w0_maxWait w0_totalWait a1 v1 x2 x4 x7 x8 X eT hN hKp hs0 Aa1 Ea0 Fa0_firstRequest Fa0_lastRelease Fa0_locks Fa0_maxWait Fa0_totalWait hs hK
    obtain ⟨hx, hZ, hw, hby, hml, hown, hret, hlk, hnm⟩ := id C
    unfold f5_11_3 at hK
    unfold s5_11_3 at hs
    refine o_iload (pc' := 13) X hx (hb hby d5_11) rfl rfl ?_
    refine o_iload (pc' := 15) X hx (hb hby d5_13) rfl rfl ?_
    refine o_icN (P := x8 < x7) (pc1 := 55) (pc2 := 18) X hx XT.ii_ge_f XT.ii_ge_t (hb hby d5_15) (by decide) (by decide) rfl (fun c28 => ?_) (fun c28 => ?_)
    · rw [if_neg c28] at hK
      refine o_aloadN (pc' := 56) X hx (hb hby d5_55) rfl rfl rfl ?_
      refine o_alenJ (pc' := 57)  X hx hZ eT Aa1 (hb hby d5_56) rfl rfl ?_
      refine o_ifN (P := (0 : Int32) < (own_len v1.length)) (pc1 := 96) (pc2 := 60) X hx XT.i0_le_f XT.i0_le_t (hb hby d5_57) (by decide) (by decide) rfl (fun c29 => ?_) (fun c29 => ?_)
      · rw [if_neg c29] at hK
        exact b5_96_4 C a0 w0_firstRequest w0_lastRelease w0_locks w0_maxWait w0_totalWait X eT hN hKp hs0 Ea0 Fa0_firstRequest Fa0_lastRelease Fa0_locks Fa0_maxWait Fa0_totalWait (One.val rfl) (One.val rfl) (One.val rfl) (One.val rfl) (One.val rfl) hK
      · rw [if_pos c29] at hK
        refine o_aloadN (pc' := 61) X hx (hb hby d5_60) rfl rfl rfl ?_
        refine o_dup (pc' := 62) X hx (hb hby d5_61) rfl rfl ?_
        refine o_getF (pc' := 65) X hx hZ eT hown (hw _ (List.mem_of_getElem? (i := 25) rfl)) Fa0_locks (hb hby d5_62) rfl fun T30 X30 e30 => ?_
        refine o_aloadN (pc' := 66) X30 hx (hb hby d5_65) rfl rfl rfl ?_
        refine o_alenJ (pc' := 67)  X30 hx hZ e30 Aa1 (hb hby d5_66) rfl rfl ?_
        refine o_iadd (pc' := 68)  X30 hx (hb hby d5_67) rfl rfl ?_
        refine o_putF (pc' := 71) X30 hx hZ e30 hown (hw _ (List.mem_of_getElem? (i := 25) rfl)) Fa0_locks Ea0 (Or.inl (hw _ (List.mem_of_getElem? (i := 26) rfl))) (hw _ (List.mem_of_getElem? (i := 6) rfl)) (ty := .int) (by decide) rfl rfl (hb hby d5_68) rfl fun T31 h31 X31 e31 W31 => ?_
        have B31_a1 := Aa1.other W31 (Ne.symm (own_neOJ Ea0 (hw _ (List.mem_of_getElem? (i := 6) rfl)) Aa1))
        have G31_a0_firstRequest := Fld.other W31 Fa0_firstRequest (Or.inr (slot_ne (Or.inl (hw _ (List.mem_of_getElem? (i := 16) rfl))) (Or.inl (hw _ (List.mem_of_getElem? (i := 26) rfl))) (by decide) (t := .long) (t' := .int) (by decide) (by decide)))
        have G31_a0_lastRelease := Fld.other W31 Fa0_lastRelease (Or.inr (slot_ne (Or.inl (hw _ (List.mem_of_getElem? (i := 19) rfl))) (Or.inl (hw _ (List.mem_of_getElem? (i := 26) rfl))) (by decide) (t := .long) (t' := .int) (by decide) (by decide)))
        have G31_a0_locks := Fld.same W31 Fa0_locks
        have G31_a0_maxWait := Fld.other W31 Fa0_maxWait (Or.inr (slot_ne (Or.inl (hw _ (List.mem_of_getElem? (i := 35) rfl))) (Or.inl (hw _ (List.mem_of_getElem? (i := 26) rfl))) (by decide) (t := .long) (t' := .int) (by decide) (by decide)))
        have G31_a0_totalWait := Fld.other W31 Fa0_totalWait (Or.inr (slot_ne (Or.inl (hw _ (List.mem_of_getElem? (i := 33) rfl))) (Or.inl (hw _ (List.mem_of_getElem? (i := 26) rfl))) (by decide) (t := .long) (t' := .int) (by decide) (by decide)))
        have H31_a0 := Exa.wr W31 Ea0
        have N31 : ∀ y ∈ L ++ [⟨a0, Jvm.RoadKit.slotOf Z "com/example/doubs/doubs/live/RunTimes" "locks" "I"⟩], y.base = a0 := own_snoc hN
        have P31 := hKp.wr W31 (Or.inl (List.mem_singleton.mpr rfl))
        refine o_aloadN (pc' := 72) X31 hx (hb hby d5_71) rfl rfl rfl ?_
        refine o_aloadN (pc' := 73) X31 hx (hb hby d5_72) rfl rfl rfl ?_
        refine o_getF (pc' := 76) X31 hx hZ e31 hown (hw _ (List.mem_of_getElem? (i := 15) rfl)) G31_a0_firstRequest (hb hby d5_73) rfl fun T32 X32 e32 => ?_
        refine o_lloadN (pc' := 77) X32 hx (hb hby d5_76) rfl rfl ?_
        refine o_callP (W := 1) (pc' := 80) (argsL := [(.long w0_firstRequest), (.long x2)]) (rest := [(.ref a0)]) (st' := [(.long (f7_0 w0_firstRequest x2)), (.ref a0)]) X32 hx hZ e32 hown (hw _ (List.mem_of_getElem? (i := 40) rfl)) (hw _ (List.mem_of_getElem? (i := 41) rfl)) (hw _ (List.mem_of_getElem? (i := 38) rfl)) (hw _ (List.mem_of_getElem? (i := 42) rfl)) (by decide) (rm7 l Z ag hw [] w0_firstRequest x2 h31) (by decide) (by decide) (by rw [hml]; rfl) pd_0 rfl rfl rfl rfl (hb hby d5_77) rfl rfl rfl (by decide) (by decide) rfl fun T33 X33 e33 => ?_
        refine o_putF (pc' := 83) X33 hx hZ e33 hown (hw _ (List.mem_of_getElem? (i := 15) rfl)) G31_a0_firstRequest H31_a0 (Or.inl (hw _ (List.mem_of_getElem? (i := 16) rfl))) (hw _ (List.mem_of_getElem? (i := 6) rfl)) (ty := .long) (by decide) rfl rfl (hb hby d5_80) rfl fun T34 h34 X34 e34 W34 => ?_
        have B34_a1 := B31_a1.other W34 (Ne.symm (own_neOJ H31_a0 (hw _ (List.mem_of_getElem? (i := 6) rfl)) B31_a1))
        have G34_a0_firstRequest := Fld.same W34 G31_a0_firstRequest
        have G34_a0_lastRelease := Fld.other W34 G31_a0_lastRelease (Or.inr (slot_ne (Or.inl (hw _ (List.mem_of_getElem? (i := 19) rfl))) (Or.inl (hw _ (List.mem_of_getElem? (i := 16) rfl))) (by decide) (t := .long) (t' := .long) (by decide) (by decide)))
        have G34_a0_locks := Fld.other W34 G31_a0_locks (Or.inr (slot_ne (Or.inl (hw _ (List.mem_of_getElem? (i := 26) rfl))) (Or.inl (hw _ (List.mem_of_getElem? (i := 16) rfl))) (by decide) (t := .int) (t' := .long) (by decide) (by decide)))
        have G34_a0_maxWait := Fld.other W34 G31_a0_maxWait (Or.inr (slot_ne (Or.inl (hw _ (List.mem_of_getElem? (i := 35) rfl))) (Or.inl (hw _ (List.mem_of_getElem? (i := 16) rfl))) (by decide) (t := .long) (t' := .long) (by decide) (by decide)))
        have G34_a0_totalWait := Fld.other W34 G31_a0_totalWait (Or.inr (slot_ne (Or.inl (hw _ (List.mem_of_getElem? (i := 33) rfl))) (Or.inl (hw _ (List.mem_of_getElem? (i := 16) rfl))) (by decide) (t := .long) (t' := .long) (by decide) (by decide)))
        have H34_a0 := Exa.wr W34 H31_a0
        have N34 : ∀ y ∈ (L ++ [⟨a0, Jvm.RoadKit.slotOf Z "com/example/doubs/doubs/live/RunTimes" "locks" "I"⟩]) ++ [⟨a0, Jvm.RoadKit.slotOf Z "com/example/doubs/doubs/live/RunTimes" "firstRequest" "J"⟩], y.base = a0 := own_snoc N31
        have P34 := P31.wr W34 (Or.inl (List.mem_singleton.mpr rfl))
        refine o_aloadN (pc' := 84) X34 hx (hb hby d5_83) rfl rfl rfl ?_
        refine o_aloadN (pc' := 85) X34 hx (hb hby d5_84) rfl rfl rfl ?_
        refine o_getF (pc' := 88) X34 hx hZ e34 hown (hw _ (List.mem_of_getElem? (i := 18) rfl)) G34_a0_lastRelease (hb hby d5_85) rfl fun T35 X35 e35 => ?_
        refine o_lload (pc' := 90) X35 hx (hb hby d5_88) rfl rfl ?_
        refine o_callP (W := 1) (pc' := 93) (argsL := [(.long w0_lastRelease), (.long x4)]) (rest := [(.ref a0)]) (st' := [(.long (f6_0 w0_lastRelease x4)), (.ref a0)]) X35 hx hZ e35 hown (hw _ (List.mem_of_getElem? (i := 36) rfl)) (hw _ (List.mem_of_getElem? (i := 37) rfl)) (hw _ (List.mem_of_getElem? (i := 38) rfl)) (hw _ (List.mem_of_getElem? (i := 39) rfl)) (by decide) (rm6 l Z ag hw [] w0_lastRelease x4 h34) (by decide) (by decide) (by rw [hml]; rfl) pd_0 rfl rfl rfl rfl (hb hby d5_90) rfl rfl rfl (by decide) (by decide) rfl fun T36 X36 e36 => ?_
        refine o_putF (pc' := 96) X36 hx hZ e36 hown (hw _ (List.mem_of_getElem? (i := 18) rfl)) G34_a0_lastRelease H34_a0 (Or.inl (hw _ (List.mem_of_getElem? (i := 19) rfl))) (hw _ (List.mem_of_getElem? (i := 6) rfl)) (ty := .long) (by decide) rfl rfl (hb hby d5_93) rfl fun T37 h37 X37 e37 W37 => ?_
        have B37_a1 := B34_a1.other W37 (Ne.symm (own_neOJ H34_a0 (hw _ (List.mem_of_getElem? (i := 6) rfl)) B34_a1))
        have G37_a0_firstRequest := Fld.other W37 G34_a0_firstRequest (Or.inr (slot_ne (Or.inl (hw _ (List.mem_of_getElem? (i := 16) rfl))) (Or.inl (hw _ (List.mem_of_getElem? (i := 19) rfl))) (by decide) (t := .long) (t' := .long) (by decide) (by decide)))
        have G37_a0_lastRelease := Fld.same W37 G34_a0_lastRelease
        have G37_a0_locks := Fld.other W37 G34_a0_locks (Or.inr (slot_ne (Or.inl (hw _ (List.mem_of_getElem? (i := 26) rfl))) (Or.inl (hw _ (List.mem_of_getElem? (i := 19) rfl))) (by decide) (t := .int) (t' := .long) (by decide) (by decide)))
        have G37_a0_maxWait := Fld.other W37 G34_a0_maxWait (Or.inr (slot_ne (Or.inl (hw _ (List.mem_of_getElem? (i := 35) rfl))) (Or.inl (hw _ (List.mem_of_getElem? (i := 19) rfl))) (by decide) (t := .long) (t' := .long) (by decide) (by decide)))
        have G37_a0_totalWait := Fld.other W37 G34_a0_totalWait (Or.inr (slot_ne (Or.inl (hw _ (List.mem_of_getElem? (i := 33) rfl))) (Or.inl (hw _ (List.mem_of_getElem? (i := 19) rfl))) (by decide) (t := .long) (t' := .long) (by decide) (by decide)))
        have H37_a0 := Exa.wr W37 H34_a0
        have N37 : ∀ y ∈ ((L ++ [⟨a0, Jvm.RoadKit.slotOf Z "com/example/doubs/doubs/live/RunTimes" "locks" "I"⟩]) ++ [⟨a0, Jvm.RoadKit.slotOf Z "com/example/doubs/doubs/live/RunTimes" "firstRequest" "J"⟩]) ++ [⟨a0, Jvm.RoadKit.slotOf Z "com/example/doubs/doubs/live/RunTimes" "lastRelease" "J"⟩], y.base = a0 := own_snoc N34
        have P37 := P34.wr W37 (Or.inl (List.mem_singleton.mpr rfl))
        exact b5_96_4 C a0 (f7_0 w0_firstRequest x2) (f6_0 w0_lastRelease x4) (w0_locks + (own_len v1.length)) w0_maxWait w0_totalWait X37 e37 N37 P37 hs0 H37_a0 G37_a0_firstRequest G37_a0_lastRelease G37_a0_locks G37_a0_maxWait G37_a0_totalWait (One.val rfl) (One.val rfl) (One.val rfl) (One.val rfl) (One.val rfl) hK
    · rw [if_pos c28] at hK
      refine o_aload (pc' := 20) X hx (hb hby d5_18) rfl rfl rfl ?_
      refine o_iload (pc' := 22) X hx (hb hby d5_20) rfl rfl ?_
      refine o_laload (pc' := 23)  X hx hZ eT Aa1 (hs.1 c28).1 (hb hby d5_22) rfl rfl ?_
      refine o_lstore (pc' := 25) (l' := #[.val (.ref a0), .val (.ref a1), .val (.long x2), .second, .val (.long x4), .second, .val (.ref a1), .val (.int x7), .val (.int x8), .val (.long (own_getL v1 x8)), .second]) X hx (hb hby d5_23) rfl rfl ?_
      refine o_aloadN (pc' := 26) X hx (hb hby d5_25) rfl rfl rfl ?_
      refine o_dup (pc' := 27) X hx (hb hby d5_26) rfl rfl ?_
      refine o_getF (pc' := 30) X hx hZ eT hown (hw _ (List.mem_of_getElem? (i := 32) rfl)) Fa0_totalWait (hb hby d5_27) rfl fun T38 X38 e38 => ?_
      refine o_lload (pc' := 32) X38 hx (hb hby d5_30) rfl rfl ?_
      refine o_ladd (pc' := 33)  X38 hx (hb hby d5_32) rfl rfl ?_
      refine o_putF (pc' := 36) X38 hx hZ e38 hown (hw _ (List.mem_of_getElem? (i := 32) rfl)) Fa0_totalWait Ea0 (Or.inl (hw _ (List.mem_of_getElem? (i := 33) rfl))) (hw _ (List.mem_of_getElem? (i := 6) rfl)) (ty := .long) (by decide) rfl rfl (hb hby d5_33) rfl fun T39 h39 X39 e39 W39 => ?_
      have B39_a1 := Aa1.other W39 (Ne.symm (own_neOJ Ea0 (hw _ (List.mem_of_getElem? (i := 6) rfl)) Aa1))
      have G39_a0_firstRequest := Fld.other W39 Fa0_firstRequest (Or.inr (slot_ne (Or.inl (hw _ (List.mem_of_getElem? (i := 16) rfl))) (Or.inl (hw _ (List.mem_of_getElem? (i := 33) rfl))) (by decide) (t := .long) (t' := .long) (by decide) (by decide)))
      have G39_a0_lastRelease := Fld.other W39 Fa0_lastRelease (Or.inr (slot_ne (Or.inl (hw _ (List.mem_of_getElem? (i := 19) rfl))) (Or.inl (hw _ (List.mem_of_getElem? (i := 33) rfl))) (by decide) (t := .long) (t' := .long) (by decide) (by decide)))
      have G39_a0_locks := Fld.other W39 Fa0_locks (Or.inr (slot_ne (Or.inl (hw _ (List.mem_of_getElem? (i := 26) rfl))) (Or.inl (hw _ (List.mem_of_getElem? (i := 33) rfl))) (by decide) (t := .int) (t' := .long) (by decide) (by decide)))
      have G39_a0_maxWait := Fld.other W39 Fa0_maxWait (Or.inr (slot_ne (Or.inl (hw _ (List.mem_of_getElem? (i := 35) rfl))) (Or.inl (hw _ (List.mem_of_getElem? (i := 33) rfl))) (by decide) (t := .long) (t' := .long) (by decide) (by decide)))
      have G39_a0_totalWait := Fld.same W39 Fa0_totalWait
      have H39_a0 := Exa.wr W39 Ea0
      have N39 : ∀ y ∈ L ++ [⟨a0, Jvm.RoadKit.slotOf Z "com/example/doubs/doubs/live/RunTimes" "totalWait" "J"⟩], y.base = a0 := own_snoc hN
      have P39 := hKp.wr W39 (Or.inl (List.mem_singleton.mpr rfl))
      refine o_aloadN (pc' := 37) X39 hx (hb hby d5_36) rfl rfl rfl ?_
      refine o_aloadN (pc' := 38) X39 hx (hb hby d5_37) rfl rfl rfl ?_
      refine o_getF (pc' := 41) X39 hx hZ e39 hown (hw _ (List.mem_of_getElem? (i := 34) rfl)) G39_a0_maxWait (hb hby d5_38) rfl fun T40 X40 e40 => ?_
      refine o_lload (pc' := 43) X40 hx (hb hby d5_41) rfl rfl ?_
      refine o_callP (W := 1) (pc' := 46) (argsL := [(.long w0_maxWait), (.long (own_getL v1 x8))]) (rest := [(.ref a0)]) (st' := [(.long (f6_0 w0_maxWait (own_getL v1 x8))), (.ref a0)]) X40 hx hZ e40 hown (hw _ (List.mem_of_getElem? (i := 36) rfl)) (hw _ (List.mem_of_getElem? (i := 37) rfl)) (hw _ (List.mem_of_getElem? (i := 38) rfl)) (hw _ (List.mem_of_getElem? (i := 39) rfl)) (by decide) (rm6 l Z ag hw [] w0_maxWait (own_getL v1 x8) h39) (by decide) (by decide) (by rw [hml]; rfl) pd_0 rfl rfl rfl rfl (hb hby d5_43) rfl rfl rfl (by decide) (by decide) rfl fun T41 X41 e41 => ?_
      refine o_putF (pc' := 49) X41 hx hZ e41 hown (hw _ (List.mem_of_getElem? (i := 34) rfl)) G39_a0_maxWait H39_a0 (Or.inl (hw _ (List.mem_of_getElem? (i := 35) rfl))) (hw _ (List.mem_of_getElem? (i := 6) rfl)) (ty := .long) (by decide) rfl rfl (hb hby d5_46) rfl fun T42 h42 X42 e42 W42 => ?_
      have B42_a1 := B39_a1.other W42 (Ne.symm (own_neOJ H39_a0 (hw _ (List.mem_of_getElem? (i := 6) rfl)) B39_a1))
      have G42_a0_firstRequest := Fld.other W42 G39_a0_firstRequest (Or.inr (slot_ne (Or.inl (hw _ (List.mem_of_getElem? (i := 16) rfl))) (Or.inl (hw _ (List.mem_of_getElem? (i := 35) rfl))) (by decide) (t := .long) (t' := .long) (by decide) (by decide)))
      have G42_a0_lastRelease := Fld.other W42 G39_a0_lastRelease (Or.inr (slot_ne (Or.inl (hw _ (List.mem_of_getElem? (i := 19) rfl))) (Or.inl (hw _ (List.mem_of_getElem? (i := 35) rfl))) (by decide) (t := .long) (t' := .long) (by decide) (by decide)))
      have G42_a0_locks := Fld.other W42 G39_a0_locks (Or.inr (slot_ne (Or.inl (hw _ (List.mem_of_getElem? (i := 26) rfl))) (Or.inl (hw _ (List.mem_of_getElem? (i := 35) rfl))) (by decide) (t := .int) (t' := .long) (by decide) (by decide)))
      have G42_a0_maxWait := Fld.same W42 G39_a0_maxWait
      have G42_a0_totalWait := Fld.other W42 G39_a0_totalWait (Or.inr (slot_ne (Or.inl (hw _ (List.mem_of_getElem? (i := 33) rfl))) (Or.inl (hw _ (List.mem_of_getElem? (i := 35) rfl))) (by decide) (t := .long) (t' := .long) (by decide) (by decide)))
      have H42_a0 := Exa.wr W42 H39_a0
      have N42 : ∀ y ∈ (L ++ [⟨a0, Jvm.RoadKit.slotOf Z "com/example/doubs/doubs/live/RunTimes" "totalWait" "J"⟩]) ++ [⟨a0, Jvm.RoadKit.slotOf Z "com/example/doubs/doubs/live/RunTimes" "maxWait" "J"⟩], y.base = a0 := own_snoc N39
      have P42 := P39.wr W42 (Or.inl (List.mem_singleton.mpr rfl))
      refine o_iinc (pc' := 52) (y := (x8 + (1 : Int32))) (l' := #[.val (.ref a0), .val (.ref a1), .val (.long x2), .second, .val (.long x4), .second, .val (.ref a1), .val (.int x7), .val (.int (x8 + (1 : Int32))), .val (.long (own_getL v1 x8)), .second]) X42 hx (hb hby d5_49) rfl rfl rfl rfl ?_
      refine o_goto (pc' := 11) X42 hx (hb hby d5_52) (by decide) (by decide) ?_
      exact ih a0 w0_firstRequest w0_lastRelease w0_locks (f6_0 w0_maxWait (own_getL v1 x8)) (w0_totalWait + (own_getL v1 x8)) a1 v1 x2 x4 x7 (x8 + (1 : Int32)) X42 e42 N42 P42 hs0 B42_a1 H42_a0 G42_a0_firstRequest G42_a0_lastRelease G42_a0_locks G42_a0_maxWait G42_a0_totalWait (hs.1 c28).2 hK

def f5_11 (w0_locks : Int32) (v1 : List Int64) (x2 : Int64) (x4 : Int64) (x7 : Int32) (x8 : Int32) : Int32 := (if x8 < x7 then (f5_11_3 8 w0_locks v1 x2 x4 x7 (x8 + (1 : Int32))) else (if (0 : Int32) < (own_len v1.length) then (f5_96 (w0_locks + (own_len v1.length))) else (f5_96 w0_locks)))
def s5_11 (w0_locks : Int32) (v1 : List Int64) (x2 : Int64) (x4 : Int64) (x7 : Int32) (x8 : Int32) : Prop := ((x8 < x7 → (own_in v1.length x8 ∧ s5_11_3 8 w0_locks v1 x2 x4 x7 (x8 + (1 : Int32)))) ∧ (¬ (x8 < x7) → True))
set_option maxRecDepth 65536 in
set_option maxHeartbeats 40000000 in
theorem b5_11 (C : own_Cx p s m meth c Z ag prog_46_method_2_code 11 "com/example/doubs/doubs/live/RunTimes" none "add") {T : State} {h : Heap} {h0 : Heap} {L : List Loc} (a0 : Addr) (w0_firstRequest : Int64) (w0_lastRelease : Int64) (w0_locks : Int32) (w0_maxWait : Int64) (w0_totalWait : Int64) (a1 : Addr) (v1 : List Int64) (x2 : Int64) (x4 : Int64) (x7 : Int32) (x8 : Int32) (X : Stand p l e R5 s m args below meth c T L 0 0) (eT : T.heap = h) (hN : ∀ y ∈ L, y.base = a0) (hKp : Keep h0 h [a0]) (hs0 : s.heap = h0) (Aa1 : own_AJ Z h a1 v1) (Ea0 : Exa Z h a0 "com/example/doubs/doubs/live/RunTimes") (Fa0_firstRequest : Fld Z h a0 "com/example/doubs/doubs/live/RunTimes" "firstRequest" "J" (.long w0_firstRequest)) (Fa0_lastRelease : Fld Z h a0 "com/example/doubs/doubs/live/RunTimes" "lastRelease" "J" (.long w0_lastRelease)) (Fa0_locks : Fld Z h a0 "com/example/doubs/doubs/live/RunTimes" "locks" "I" (.int w0_locks)) (Fa0_maxWait : Fld Z h a0 "com/example/doubs/doubs/live/RunTimes" "maxWait" "J" (.long w0_maxWait)) (Fa0_totalWait : Fld Z h a0 "com/example/doubs/doubs/live/RunTimes" "totalWait" "J" (.long w0_totalWait)) (hs : s5_11 w0_locks v1 x2 x4 x7 x8) (hK : ∀ h' L' (u_firstRequest : Int64) (u_lastRelease : Int64) (u_maxWait : Int64) (u_totalWait : Int64), (∀ y ∈ L', y.base = a0) → Keep h0 h' [a0] → Exa Z h' a0 "com/example/doubs/doubs/live/RunTimes" → Fld Z h' a0 "com/example/doubs/doubs/live/RunTimes" "firstRequest" "J" (.long u_firstRequest) → Fld Z h' a0 "com/example/doubs/doubs/live/RunTimes" "lastRelease" "J" (.long u_lastRelease) → Fld Z h' a0 "com/example/doubs/doubs/live/RunTimes" "locks" "I" (.int (f5_11 w0_locks v1 x2 x4 x7 x8)) → Fld Z h' a0 "com/example/doubs/doubs/live/RunTimes" "maxWait" "J" (.long u_maxWait) → Fld Z h' a0 "com/example/doubs/doubs/live/RunTimes" "totalWait" "J" (.long u_totalWait) → K none h' L') : own_Go p e below (own_Q s K cc5 ss5) T (mkF m 11 #[.val (.ref a0), .val (.ref a1), .val (.long x2), .second, .val (.long x4), .second, .val (.ref a1), .val (.int x7), .val (.int x8), .unset, .unset] []) := by
  obtain ⟨hx, hZ, hw, hby, hml, hown, hret, hlk, hnm⟩ := id C
  unfold f5_11 at hK
  unfold s5_11 at hs
  refine o_iload (pc' := 13) X hx (hb hby d5_11) rfl rfl ?_
  refine o_iload (pc' := 15) X hx (hb hby d5_13) rfl rfl ?_
  refine o_icN (P := x8 < x7) (pc1 := 55) (pc2 := 18) X hx XT.ii_ge_f XT.ii_ge_t (hb hby d5_15) (by decide) (by decide) rfl (fun c13 => ?_) (fun c13 => ?_)
  · rw [if_neg c13] at hK
    refine o_aloadN (pc' := 56) X hx (hb hby d5_55) rfl rfl rfl ?_
    refine o_alenJ (pc' := 57)  X hx hZ eT Aa1 (hb hby d5_56) rfl rfl ?_
    refine o_ifN (P := (0 : Int32) < (own_len v1.length)) (pc1 := 96) (pc2 := 60) X hx XT.i0_le_f XT.i0_le_t (hb hby d5_57) (by decide) (by decide) rfl (fun c14 => ?_) (fun c14 => ?_)
    · rw [if_neg c14] at hK
      exact b5_96 C a0 w0_firstRequest w0_lastRelease w0_locks w0_maxWait w0_totalWait X eT hN hKp hs0 Ea0 Fa0_firstRequest Fa0_lastRelease Fa0_locks Fa0_maxWait Fa0_totalWait (One.val rfl) (One.val rfl) (One.val rfl) (One.val rfl) (One.val rfl) hK
    · rw [if_pos c14] at hK
      refine o_aloadN (pc' := 61) X hx (hb hby d5_60) rfl rfl rfl ?_
      refine o_dup (pc' := 62) X hx (hb hby d5_61) rfl rfl ?_
      refine o_getF (pc' := 65) X hx hZ eT hown (hw _ (List.mem_of_getElem? (i := 25) rfl)) Fa0_locks (hb hby d5_62) rfl fun T15 X15 e15 => ?_
      refine o_aloadN (pc' := 66) X15 hx (hb hby d5_65) rfl rfl rfl ?_
      refine o_alenJ (pc' := 67)  X15 hx hZ e15 Aa1 (hb hby d5_66) rfl rfl ?_
      refine o_iadd (pc' := 68)  X15 hx (hb hby d5_67) rfl rfl ?_
      refine o_putF (pc' := 71) X15 hx hZ e15 hown (hw _ (List.mem_of_getElem? (i := 25) rfl)) Fa0_locks Ea0 (Or.inl (hw _ (List.mem_of_getElem? (i := 26) rfl))) (hw _ (List.mem_of_getElem? (i := 6) rfl)) (ty := .int) (by decide) rfl rfl (hb hby d5_68) rfl fun T16 h16 X16 e16 W16 => ?_
      have B16_a1 := Aa1.other W16 (Ne.symm (own_neOJ Ea0 (hw _ (List.mem_of_getElem? (i := 6) rfl)) Aa1))
      have G16_a0_firstRequest := Fld.other W16 Fa0_firstRequest (Or.inr (slot_ne (Or.inl (hw _ (List.mem_of_getElem? (i := 16) rfl))) (Or.inl (hw _ (List.mem_of_getElem? (i := 26) rfl))) (by decide) (t := .long) (t' := .int) (by decide) (by decide)))
      have G16_a0_lastRelease := Fld.other W16 Fa0_lastRelease (Or.inr (slot_ne (Or.inl (hw _ (List.mem_of_getElem? (i := 19) rfl))) (Or.inl (hw _ (List.mem_of_getElem? (i := 26) rfl))) (by decide) (t := .long) (t' := .int) (by decide) (by decide)))
      have G16_a0_locks := Fld.same W16 Fa0_locks
      have G16_a0_maxWait := Fld.other W16 Fa0_maxWait (Or.inr (slot_ne (Or.inl (hw _ (List.mem_of_getElem? (i := 35) rfl))) (Or.inl (hw _ (List.mem_of_getElem? (i := 26) rfl))) (by decide) (t := .long) (t' := .int) (by decide) (by decide)))
      have G16_a0_totalWait := Fld.other W16 Fa0_totalWait (Or.inr (slot_ne (Or.inl (hw _ (List.mem_of_getElem? (i := 33) rfl))) (Or.inl (hw _ (List.mem_of_getElem? (i := 26) rfl))) (by decide) (t := .long) (t' := .int) (by decide) (by decide)))
      have H16_a0 := Exa.wr W16 Ea0
      have N16 : ∀ y ∈ L ++ [⟨a0, Jvm.RoadKit.slotOf Z "com/example/doubs/doubs/live/RunTimes" "locks" "I"⟩], y.base = a0 := own_snoc hN
      have P16 := hKp.wr W16 (Or.inl (List.mem_singleton.mpr rfl))
      refine o_aloadN (pc' := 72) X16 hx (hb hby d5_71) rfl rfl rfl ?_
      refine o_aloadN (pc' := 73) X16 hx (hb hby d5_72) rfl rfl rfl ?_
      refine o_getF (pc' := 76) X16 hx hZ e16 hown (hw _ (List.mem_of_getElem? (i := 15) rfl)) G16_a0_firstRequest (hb hby d5_73) rfl fun T17 X17 e17 => ?_
      refine o_lloadN (pc' := 77) X17 hx (hb hby d5_76) rfl rfl ?_
      refine o_callP (W := 1) (pc' := 80) (argsL := [(.long w0_firstRequest), (.long x2)]) (rest := [(.ref a0)]) (st' := [(.long (f7_0 w0_firstRequest x2)), (.ref a0)]) X17 hx hZ e17 hown (hw _ (List.mem_of_getElem? (i := 40) rfl)) (hw _ (List.mem_of_getElem? (i := 41) rfl)) (hw _ (List.mem_of_getElem? (i := 38) rfl)) (hw _ (List.mem_of_getElem? (i := 42) rfl)) (by decide) (rm7 l Z ag hw [] w0_firstRequest x2 h16) (by decide) (by decide) (by rw [hml]; rfl) pd_0 rfl rfl rfl rfl (hb hby d5_77) rfl rfl rfl (by decide) (by decide) rfl fun T18 X18 e18 => ?_
      refine o_putF (pc' := 83) X18 hx hZ e18 hown (hw _ (List.mem_of_getElem? (i := 15) rfl)) G16_a0_firstRequest H16_a0 (Or.inl (hw _ (List.mem_of_getElem? (i := 16) rfl))) (hw _ (List.mem_of_getElem? (i := 6) rfl)) (ty := .long) (by decide) rfl rfl (hb hby d5_80) rfl fun T19 h19 X19 e19 W19 => ?_
      have B19_a1 := B16_a1.other W19 (Ne.symm (own_neOJ H16_a0 (hw _ (List.mem_of_getElem? (i := 6) rfl)) B16_a1))
      have G19_a0_firstRequest := Fld.same W19 G16_a0_firstRequest
      have G19_a0_lastRelease := Fld.other W19 G16_a0_lastRelease (Or.inr (slot_ne (Or.inl (hw _ (List.mem_of_getElem? (i := 19) rfl))) (Or.inl (hw _ (List.mem_of_getElem? (i := 16) rfl))) (by decide) (t := .long) (t' := .long) (by decide) (by decide)))
      have G19_a0_locks := Fld.other W19 G16_a0_locks (Or.inr (slot_ne (Or.inl (hw _ (List.mem_of_getElem? (i := 26) rfl))) (Or.inl (hw _ (List.mem_of_getElem? (i := 16) rfl))) (by decide) (t := .int) (t' := .long) (by decide) (by decide)))
      have G19_a0_maxWait := Fld.other W19 G16_a0_maxWait (Or.inr (slot_ne (Or.inl (hw _ (List.mem_of_getElem? (i := 35) rfl))) (Or.inl (hw _ (List.mem_of_getElem? (i := 16) rfl))) (by decide) (t := .long) (t' := .long) (by decide) (by decide)))
      have G19_a0_totalWait := Fld.other W19 G16_a0_totalWait (Or.inr (slot_ne (Or.inl (hw _ (List.mem_of_getElem? (i := 33) rfl))) (Or.inl (hw _ (List.mem_of_getElem? (i := 16) rfl))) (by decide) (t := .long) (t' := .long) (by decide) (by decide)))
      have H19_a0 := Exa.wr W19 H16_a0
      have N19 : ∀ y ∈ (L ++ [⟨a0, Jvm.RoadKit.slotOf Z "com/example/doubs/doubs/live/RunTimes" "locks" "I"⟩]) ++ [⟨a0, Jvm.RoadKit.slotOf Z "com/example/doubs/doubs/live/RunTimes" "firstRequest" "J"⟩], y.base = a0 := own_snoc N16
      have P19 := P16.wr W19 (Or.inl (List.mem_singleton.mpr rfl))
      refine o_aloadN (pc' := 84) X19 hx (hb hby d5_83) rfl rfl rfl ?_
      refine o_aloadN (pc' := 85) X19 hx (hb hby d5_84) rfl rfl rfl ?_
      refine o_getF (pc' := 88) X19 hx hZ e19 hown (hw _ (List.mem_of_getElem? (i := 18) rfl)) G19_a0_lastRelease (hb hby d5_85) rfl fun T20 X20 e20 => ?_
      refine o_lload (pc' := 90) X20 hx (hb hby d5_88) rfl rfl ?_
      refine o_callP (W := 1) (pc' := 93) (argsL := [(.long w0_lastRelease), (.long x4)]) (rest := [(.ref a0)]) (st' := [(.long (f6_0 w0_lastRelease x4)), (.ref a0)]) X20 hx hZ e20 hown (hw _ (List.mem_of_getElem? (i := 36) rfl)) (hw _ (List.mem_of_getElem? (i := 37) rfl)) (hw _ (List.mem_of_getElem? (i := 38) rfl)) (hw _ (List.mem_of_getElem? (i := 39) rfl)) (by decide) (rm6 l Z ag hw [] w0_lastRelease x4 h19) (by decide) (by decide) (by rw [hml]; rfl) pd_0 rfl rfl rfl rfl (hb hby d5_90) rfl rfl rfl (by decide) (by decide) rfl fun T21 X21 e21 => ?_
      refine o_putF (pc' := 96) X21 hx hZ e21 hown (hw _ (List.mem_of_getElem? (i := 18) rfl)) G19_a0_lastRelease H19_a0 (Or.inl (hw _ (List.mem_of_getElem? (i := 19) rfl))) (hw _ (List.mem_of_getElem? (i := 6) rfl)) (ty := .long) (by decide) rfl rfl (hb hby d5_93) rfl fun T22 h22 X22 e22 W22 => ?_
      have B22_a1 := B19_a1.other W22 (Ne.symm (own_neOJ H19_a0 (hw _ (List.mem_of_getElem? (i := 6) rfl)) B19_a1))
      have G22_a0_firstRequest := Fld.other W22 G19_a0_firstRequest (Or.inr (slot_ne (Or.inl (hw _ (List.mem_of_getElem? (i := 16) rfl))) (Or.inl (hw _ (List.mem_of_getElem? (i := 19) rfl))) (by decide) (t := .long) (t' := .long) (by decide) (by decide)))
      have G22_a0_lastRelease := Fld.same W22 G19_a0_lastRelease
      have G22_a0_locks := Fld.other W22 G19_a0_locks (Or.inr (slot_ne (Or.inl (hw _ (List.mem_of_getElem? (i := 26) rfl))) (Or.inl (hw _ (List.mem_of_getElem? (i := 19) rfl))) (by decide) (t := .int) (t' := .long) (by decide) (by decide)))
      have G22_a0_maxWait := Fld.other W22 G19_a0_maxWait (Or.inr (slot_ne (Or.inl (hw _ (List.mem_of_getElem? (i := 35) rfl))) (Or.inl (hw _ (List.mem_of_getElem? (i := 19) rfl))) (by decide) (t := .long) (t' := .long) (by decide) (by decide)))
      have G22_a0_totalWait := Fld.other W22 G19_a0_totalWait (Or.inr (slot_ne (Or.inl (hw _ (List.mem_of_getElem? (i := 33) rfl))) (Or.inl (hw _ (List.mem_of_getElem? (i := 19) rfl))) (by decide) (t := .long) (t' := .long) (by decide) (by decide)))
      have H22_a0 := Exa.wr W22 H19_a0
      have N22 : ∀ y ∈ ((L ++ [⟨a0, Jvm.RoadKit.slotOf Z "com/example/doubs/doubs/live/RunTimes" "locks" "I"⟩]) ++ [⟨a0, Jvm.RoadKit.slotOf Z "com/example/doubs/doubs/live/RunTimes" "firstRequest" "J"⟩]) ++ [⟨a0, Jvm.RoadKit.slotOf Z "com/example/doubs/doubs/live/RunTimes" "lastRelease" "J"⟩], y.base = a0 := own_snoc N19
      have P22 := P19.wr W22 (Or.inl (List.mem_singleton.mpr rfl))
      exact b5_96 C a0 (f7_0 w0_firstRequest x2) (f6_0 w0_lastRelease x4) (w0_locks + (own_len v1.length)) w0_maxWait w0_totalWait X22 e22 N22 P22 hs0 H22_a0 G22_a0_firstRequest G22_a0_lastRelease G22_a0_locks G22_a0_maxWait G22_a0_totalWait (One.val rfl) (One.val rfl) (One.val rfl) (One.val rfl) (One.val rfl) hK
  · rw [if_pos c13] at hK
    refine o_aload (pc' := 20) X hx (hb hby d5_18) rfl rfl rfl ?_
    refine o_iload (pc' := 22) X hx (hb hby d5_20) rfl rfl ?_
    refine o_laload (pc' := 23)  X hx hZ eT Aa1 (hs.1 c13).1 (hb hby d5_22) rfl rfl ?_
    refine o_lstore (pc' := 25) (l' := #[.val (.ref a0), .val (.ref a1), .val (.long x2), .second, .val (.long x4), .second, .val (.ref a1), .val (.int x7), .val (.int x8), .val (.long (own_getL v1 x8)), .second]) X hx (hb hby d5_23) rfl rfl ?_
    refine o_aloadN (pc' := 26) X hx (hb hby d5_25) rfl rfl rfl ?_
    refine o_dup (pc' := 27) X hx (hb hby d5_26) rfl rfl ?_
    refine o_getF (pc' := 30) X hx hZ eT hown (hw _ (List.mem_of_getElem? (i := 32) rfl)) Fa0_totalWait (hb hby d5_27) rfl fun T23 X23 e23 => ?_
    refine o_lload (pc' := 32) X23 hx (hb hby d5_30) rfl rfl ?_
    refine o_ladd (pc' := 33)  X23 hx (hb hby d5_32) rfl rfl ?_
    refine o_putF (pc' := 36) X23 hx hZ e23 hown (hw _ (List.mem_of_getElem? (i := 32) rfl)) Fa0_totalWait Ea0 (Or.inl (hw _ (List.mem_of_getElem? (i := 33) rfl))) (hw _ (List.mem_of_getElem? (i := 6) rfl)) (ty := .long) (by decide) rfl rfl (hb hby d5_33) rfl fun T24 h24 X24 e24 W24 => ?_
    have B24_a1 := Aa1.other W24 (Ne.symm (own_neOJ Ea0 (hw _ (List.mem_of_getElem? (i := 6) rfl)) Aa1))
    have G24_a0_firstRequest := Fld.other W24 Fa0_firstRequest (Or.inr (slot_ne (Or.inl (hw _ (List.mem_of_getElem? (i := 16) rfl))) (Or.inl (hw _ (List.mem_of_getElem? (i := 33) rfl))) (by decide) (t := .long) (t' := .long) (by decide) (by decide)))
    have G24_a0_lastRelease := Fld.other W24 Fa0_lastRelease (Or.inr (slot_ne (Or.inl (hw _ (List.mem_of_getElem? (i := 19) rfl))) (Or.inl (hw _ (List.mem_of_getElem? (i := 33) rfl))) (by decide) (t := .long) (t' := .long) (by decide) (by decide)))
    have G24_a0_locks := Fld.other W24 Fa0_locks (Or.inr (slot_ne (Or.inl (hw _ (List.mem_of_getElem? (i := 26) rfl))) (Or.inl (hw _ (List.mem_of_getElem? (i := 33) rfl))) (by decide) (t := .int) (t' := .long) (by decide) (by decide)))
    have G24_a0_maxWait := Fld.other W24 Fa0_maxWait (Or.inr (slot_ne (Or.inl (hw _ (List.mem_of_getElem? (i := 35) rfl))) (Or.inl (hw _ (List.mem_of_getElem? (i := 33) rfl))) (by decide) (t := .long) (t' := .long) (by decide) (by decide)))
    have G24_a0_totalWait := Fld.same W24 Fa0_totalWait
    have H24_a0 := Exa.wr W24 Ea0
    have N24 : ∀ y ∈ L ++ [⟨a0, Jvm.RoadKit.slotOf Z "com/example/doubs/doubs/live/RunTimes" "totalWait" "J"⟩], y.base = a0 := own_snoc hN
    have P24 := hKp.wr W24 (Or.inl (List.mem_singleton.mpr rfl))
    refine o_aloadN (pc' := 37) X24 hx (hb hby d5_36) rfl rfl rfl ?_
    refine o_aloadN (pc' := 38) X24 hx (hb hby d5_37) rfl rfl rfl ?_
    refine o_getF (pc' := 41) X24 hx hZ e24 hown (hw _ (List.mem_of_getElem? (i := 34) rfl)) G24_a0_maxWait (hb hby d5_38) rfl fun T25 X25 e25 => ?_
    refine o_lload (pc' := 43) X25 hx (hb hby d5_41) rfl rfl ?_
    refine o_callP (W := 1) (pc' := 46) (argsL := [(.long w0_maxWait), (.long (own_getL v1 x8))]) (rest := [(.ref a0)]) (st' := [(.long (f6_0 w0_maxWait (own_getL v1 x8))), (.ref a0)]) X25 hx hZ e25 hown (hw _ (List.mem_of_getElem? (i := 36) rfl)) (hw _ (List.mem_of_getElem? (i := 37) rfl)) (hw _ (List.mem_of_getElem? (i := 38) rfl)) (hw _ (List.mem_of_getElem? (i := 39) rfl)) (by decide) (rm6 l Z ag hw [] w0_maxWait (own_getL v1 x8) h24) (by decide) (by decide) (by rw [hml]; rfl) pd_0 rfl rfl rfl rfl (hb hby d5_43) rfl rfl rfl (by decide) (by decide) rfl fun T26 X26 e26 => ?_
    refine o_putF (pc' := 49) X26 hx hZ e26 hown (hw _ (List.mem_of_getElem? (i := 34) rfl)) G24_a0_maxWait H24_a0 (Or.inl (hw _ (List.mem_of_getElem? (i := 35) rfl))) (hw _ (List.mem_of_getElem? (i := 6) rfl)) (ty := .long) (by decide) rfl rfl (hb hby d5_46) rfl fun T27 h27 X27 e27 W27 => ?_
    have B27_a1 := B24_a1.other W27 (Ne.symm (own_neOJ H24_a0 (hw _ (List.mem_of_getElem? (i := 6) rfl)) B24_a1))
    have G27_a0_firstRequest := Fld.other W27 G24_a0_firstRequest (Or.inr (slot_ne (Or.inl (hw _ (List.mem_of_getElem? (i := 16) rfl))) (Or.inl (hw _ (List.mem_of_getElem? (i := 35) rfl))) (by decide) (t := .long) (t' := .long) (by decide) (by decide)))
    have G27_a0_lastRelease := Fld.other W27 G24_a0_lastRelease (Or.inr (slot_ne (Or.inl (hw _ (List.mem_of_getElem? (i := 19) rfl))) (Or.inl (hw _ (List.mem_of_getElem? (i := 35) rfl))) (by decide) (t := .long) (t' := .long) (by decide) (by decide)))
    have G27_a0_locks := Fld.other W27 G24_a0_locks (Or.inr (slot_ne (Or.inl (hw _ (List.mem_of_getElem? (i := 26) rfl))) (Or.inl (hw _ (List.mem_of_getElem? (i := 35) rfl))) (by decide) (t := .int) (t' := .long) (by decide) (by decide)))
    have G27_a0_maxWait := Fld.same W27 G24_a0_maxWait
    have G27_a0_totalWait := Fld.other W27 G24_a0_totalWait (Or.inr (slot_ne (Or.inl (hw _ (List.mem_of_getElem? (i := 33) rfl))) (Or.inl (hw _ (List.mem_of_getElem? (i := 35) rfl))) (by decide) (t := .long) (t' := .long) (by decide) (by decide)))
    have H27_a0 := Exa.wr W27 H24_a0
    have N27 : ∀ y ∈ (L ++ [⟨a0, Jvm.RoadKit.slotOf Z "com/example/doubs/doubs/live/RunTimes" "totalWait" "J"⟩]) ++ [⟨a0, Jvm.RoadKit.slotOf Z "com/example/doubs/doubs/live/RunTimes" "maxWait" "J"⟩], y.base = a0 := own_snoc N24
    have P27 := P24.wr W27 (Or.inl (List.mem_singleton.mpr rfl))
    refine o_iinc (pc' := 52) (y := (x8 + (1 : Int32))) (l' := #[.val (.ref a0), .val (.ref a1), .val (.long x2), .second, .val (.long x4), .second, .val (.ref a1), .val (.int x7), .val (.int (x8 + (1 : Int32))), .val (.long (own_getL v1 x8)), .second]) X27 hx (hb hby d5_49) rfl rfl rfl rfl ?_
    refine o_goto (pc' := 11) X27 hx (hb hby d5_52) (by decide) (by decide) ?_
    exact b5_11_3 C 8 a0 w0_firstRequest w0_lastRelease w0_locks (f6_0 w0_maxWait (own_getL v1 x8)) (w0_totalWait + (own_getL v1 x8)) a1 v1 x2 x4 x7 (x8 + (1 : Int32)) X27 e27 N27 P27 hs0 B27_a1 H27_a0 G27_a0_firstRequest G27_a0_lastRelease G27_a0_locks G27_a0_maxWait G27_a0_totalWait (hs.1 c13).2 hK

def f5_0 (w0_locks : Int32) (v1 : List Int64) (q2 : Int64) (q3 : Int64) : Int32 := (f5_11 w0_locks v1 q2 q3 (own_len v1.length) (0 : Int32))
def s5_0 (w0_locks : Int32) (v1 : List Int64) (q2 : Int64) (q3 : Int64) : Prop := s5_11 w0_locks v1 q2 q3 (own_len v1.length) (0 : Int32)
set_option maxRecDepth 65536 in
set_option maxHeartbeats 40000000 in
theorem b5_0 (C : own_Cx p s m meth c Z ag prog_46_method_2_code 11 "com/example/doubs/doubs/live/RunTimes" none "add") {T : State} {h : Heap} {h0 : Heap} {L : List Loc} (a0 : Addr) (w0_firstRequest : Int64) (w0_lastRelease : Int64) (w0_locks : Int32) (w0_maxWait : Int64) (w0_totalWait : Int64) (a1 : Addr) (v1 : List Int64) (q2 : Int64) (q3 : Int64) (X : Stand p l e R5 s m args below meth c T L 0 0) (eT : T.heap = h) (hN : ∀ y ∈ L, y.base = a0) (hKp : Keep h0 h [a0]) (hs0 : s.heap = h0) (Aa1 : own_AJ Z h a1 v1) (Ea0 : Exa Z h a0 "com/example/doubs/doubs/live/RunTimes") (Fa0_firstRequest : Fld Z h a0 "com/example/doubs/doubs/live/RunTimes" "firstRequest" "J" (.long w0_firstRequest)) (Fa0_lastRelease : Fld Z h a0 "com/example/doubs/doubs/live/RunTimes" "lastRelease" "J" (.long w0_lastRelease)) (Fa0_locks : Fld Z h a0 "com/example/doubs/doubs/live/RunTimes" "locks" "I" (.int w0_locks)) (Fa0_maxWait : Fld Z h a0 "com/example/doubs/doubs/live/RunTimes" "maxWait" "J" (.long w0_maxWait)) (Fa0_totalWait : Fld Z h a0 "com/example/doubs/doubs/live/RunTimes" "totalWait" "J" (.long w0_totalWait)) (hs : s5_0 w0_locks v1 q2 q3) (hK : ∀ h' L' (u_firstRequest : Int64) (u_lastRelease : Int64) (u_maxWait : Int64) (u_totalWait : Int64), (∀ y ∈ L', y.base = a0) → Keep h0 h' [a0] → Exa Z h' a0 "com/example/doubs/doubs/live/RunTimes" → Fld Z h' a0 "com/example/doubs/doubs/live/RunTimes" "firstRequest" "J" (.long u_firstRequest) → Fld Z h' a0 "com/example/doubs/doubs/live/RunTimes" "lastRelease" "J" (.long u_lastRelease) → Fld Z h' a0 "com/example/doubs/doubs/live/RunTimes" "locks" "I" (.int (f5_0 w0_locks v1 q2 q3)) → Fld Z h' a0 "com/example/doubs/doubs/live/RunTimes" "maxWait" "J" (.long u_maxWait) → Fld Z h' a0 "com/example/doubs/doubs/live/RunTimes" "totalWait" "J" (.long u_totalWait) → K none h' L') : own_Go p e below (own_Q s K cc5 ss5) T (mkF m 0 #[.val (.ref a0), .val (.ref a1), .val (.long q2), .second, .val (.long q3), .second, .unset, .unset, .unset, .unset, .unset] []) := by
  obtain ⟨hx, hZ, hw, hby, hml, hown, hret, hlk, hnm⟩ := id C
  unfold f5_0 at hK
  unfold s5_0 at hs
  refine o_aloadN (pc' := 1) X hx (hb hby d5_0) rfl rfl rfl ?_
  refine o_astore (pc' := 3) (l' := #[.val (.ref a0), .val (.ref a1), .val (.long q2), .second, .val (.long q3), .second, .val (.ref a1), .unset, .unset, .unset, .unset]) X hx (hb hby d5_1) rfl rfl rfl ?_
  refine o_aload (pc' := 5) X hx (hb hby d5_3) rfl rfl rfl ?_
  refine o_alenJ (pc' := 6)  X hx hZ eT Aa1 (hb hby d5_5) rfl rfl ?_
  refine o_istore (pc' := 8) (l' := #[.val (.ref a0), .val (.ref a1), .val (.long q2), .second, .val (.long q3), .second, .val (.ref a1), .val (.int (own_len v1.length)), .unset, .unset, .unset]) X hx (hb hby d5_6) rfl rfl ?_
  refine o_iconst (pc' := 9) (x := (0 : Int32)) X hx (hb hby d5_8) (by decide) rfl ?_
  refine o_istore (pc' := 11) (l' := #[.val (.ref a0), .val (.ref a1), .val (.long q2), .second, .val (.long q3), .second, .val (.ref a1), .val (.int (own_len v1.length)), .val (.int (0 : Int32)), .unset, .unset]) X hx (hb hby d5_9) rfl rfl ?_
  exact b5_11 C a0 w0_firstRequest w0_lastRelease w0_locks w0_maxWait w0_totalWait a1 v1 q2 q3 (own_len v1.length) (0 : Int32) X eT hN hKp hs0 Aa1 Ea0 Fa0_firstRequest Fa0_lastRelease Fa0_locks Fa0_maxWait Fa0_totalWait hs hK

end Body5
theorem ef_5 (m : MethodId) (a0 : Addr) (a1 : Addr) (q2 : Int64) (q3 : Int64) : entryFrame m #[(.ref a0), (.ref a1), (.long q2), (.long q3)] 11 = mkF m 0 #[.val (.ref a0), .val (.ref a1), .val (.long q2), .second, .val (.long q3), .second, .unset, .unset, .unset, .unset, .unset] [] := by first | (simp [entryFrame, mkF, argsToLocals, Value.category]; done) | rfl
def K5 (Z : State) (a0 : Addr) (w0_firstRequest : Int64) (w0_lastRelease : Int64) (w0_locks : Int32) (w0_maxWait : Int64) (w0_totalWait : Int64) (a1 : Addr) (v1 : List Int64) (q2 : Int64) (q3 : Int64) (h0 : Heap) : Option Value → Heap → List Loc → Prop := fun v h L => v = none ∧ (∀ y ∈ L, y.base = a0) ∧ Keep h0 h [a0] ∧ ∃ (u_firstRequest : Int64), ∃ (u_lastRelease : Int64), ∃ (u_maxWait : Int64), ∃ (u_totalWait : Int64), Exa Z h a0 "com/example/doubs/doubs/live/RunTimes" ∧ Fld Z h a0 "com/example/doubs/doubs/live/RunTimes" "firstRequest" "J" (.long u_firstRequest) ∧ Fld Z h a0 "com/example/doubs/doubs/live/RunTimes" "lastRelease" "J" (.long u_lastRelease) ∧ Fld Z h a0 "com/example/doubs/doubs/live/RunTimes" "locks" "I" (.int (f5_0 w0_locks v1 q2 q3)) ∧ Fld Z h a0 "com/example/doubs/doubs/live/RunTimes" "maxWait" "J" (.long u_maxWait) ∧ Fld Z h a0 "com/example/doubs/doubs/live/RunTimes" "totalWait" "J" (.long u_totalWait)
set_option maxRecDepth 65536 in
set_option maxHeartbeats 40000000 in
theorem rm5 (l : Launch) (Z : State) (ag : Array Value) (hw : ∀ d ∈ tables_1, d.before ag Z = true) (ws : List Jvm.Cond) (a0 : Addr) (w0_firstRequest : Int64) (w0_lastRelease : Int64) (w0_locks : Int32) (w0_maxWait : Int64) (w0_totalWait : Int64) (a1 : Addr) (v1 : List Int64) (q2 : Int64) (q3 : Int64) (h0 : Heap) (Aa1 : own_AJ Z h0 a1 v1) (Ea0 : Exa Z h0 a0 "com/example/doubs/doubs/live/RunTimes") (Fa0_firstRequest : Fld Z h0 a0 "com/example/doubs/doubs/live/RunTimes" "firstRequest" "J" (.long w0_firstRequest)) (Fa0_lastRelease : Fld Z h0 a0 "com/example/doubs/doubs/live/RunTimes" "lastRelease" "J" (.long w0_lastRelease)) (Fa0_locks : Fld Z h0 a0 "com/example/doubs/doubs/live/RunTimes" "locks" "I" (.int w0_locks)) (Fa0_maxWait : Fld Z h0 a0 "com/example/doubs/doubs/live/RunTimes" "maxWait" "J" (.long w0_maxWait)) (Fa0_totalWait : Fld Z h0 a0 "com/example/doubs/doubs/live/RunTimes" "totalWait" "J" (.long w0_totalWait)) (hs : s5_0 w0_locks v1 q2 q3) :
    MetFree l (⟨"com/example/doubs/doubs/live/RunTimes", "add", "([JJJ)V"⟩ : MethodName) (head1 (Jvm.Cond.code (⟨"com/example/doubs/doubs/live/RunTimes", "add", "([JJJ)V"⟩ : MethodName) prog_46_method_2_code 11 none :: ws) R5) (fun a U => a = #[(.ref a0), (.ref a1), (.long q2), (.long q3)] ∧ Z.Warmed39 U.vm ∧ U.heap = h0) (fun _ _ _ _ _ => True) (fun _ U o U' => ∃ v L, o = .returned v ∧ (K5 Z a0 w0_firstRequest w0_lastRelease w0_locks w0_maxWait w0_totalWait a1 v1 q2 q3 h0) v U'.heap L ∧ FrameEnd U o U' L R5.cells R5.slots) := by
  refine MetFree.of_bodySF (plainFor_of_name pn_RunTimes) hisR ?_
  intro p e s m args below meth c s₁ Bd hml0 hP hK
  obtain ⟨rfl, hZ, hh⟩ := hP
  have C : own_Cx p s m meth c Z ag prog_46_method_2_code 11 "com/example/doubs/doubs/live/RunTimes" none "add" := ⟨Bd.exec, hZ, hw, Bd.bytes, hml0, findClass_of_methodNamed Bd.named, Bd.returns, Bd.notSynchronized, (name_of_methodNamed Bd.named Bd.method).1⟩
  have X0 : Stand p l e R5 s m #[(.ref a0), (.ref a1), (.long q2), (.long q3)] below meth c s₁ [] 0 0 := Stand.of_body Bd
  have e0 : s₁.heap = h0 := by rw [← hh, Bd.state]; rfl
  rw [ef_5]
  exact b5_0 (K := (K5 Z a0 w0_firstRequest w0_lastRelease w0_locks w0_maxWait w0_totalWait a1 v1 q2 q3 h0)) C a0 w0_firstRequest w0_lastRelease w0_locks w0_maxWait w0_totalWait a1 v1 q2 q3 X0 e0 (fun _ q => nomatch q) (Keep.refl _ _) hh Aa1 Ea0 Fa0_firstRequest Fa0_lastRelease Fa0_locks Fa0_maxWait Fa0_totalWait hs (fun h' L' u_firstRequest u_lastRelease u_maxWait u_totalWait q' q'' q0 q1 q2 q3 q4 q5 => ⟨rfl, q', q'', u_firstRequest, u_lastRelease, u_maxWait, u_totalWait, q0, q1, q2, q3, q4, q5⟩)

section Body0
variable {p : Program} {l : Launch} {e : Env} {s : State} {m : MethodId} {args : Array Value} {below : List Frame} {meth : Method} {c : Code} {Z : State} {ag : Array Value} {K : Option Value → Heap → List Loc → Prop}
abbrev R0 : Room := room_1
abbrev cc0 : Nat := 3
abbrev ss0 : Nat := 11
def f0_129 : Int32 := (0 : Int32)
set_option maxRecDepth 65536 in
set_option maxHeartbeats 40000000 in
theorem b0_129 (C : own_Cx p s m meth c Z ag code maxLocals "com/example/doubs/doubs/live/RunTimesAddPinLaw" ret "law") {T : State} {h : Heap} {z2 : Int64} {z4 : Int64} {z6 : Int64} {z8 : Int64} {z0 : Slot} {z1 : Slot} {z10 : Slot} {z11 : Slot} {z12 : Slot} {z13 : Slot} {z14 : Slot} {z15 : Slot} (X : Stand p l e R0 s m args below meth c T [] 3 11) (eT : T.heap = h) (hz0 : One z0) (hz1 : One z1) (hz10 : One z10) (hz11 : One z11) (hz12 : One z12) (hz13 : One z13) (hz14 : One z14) (hz15 : One z15) (hK : ∀ h', K (some (.int (f0_129))) h' []) : own_Go p e below (own_Q s K cc0 ss0) T (mkF m 129 #[z0, z1, .val (.long z2), .second, .val (.long z4), .second, .val (.long z6), .second, .val (.long z8), .second, z10, z11, z12, z13, z14, z15] [(.int (0 : Int32))]) := by
  obtain ⟨hx, hZ, hw, hby, hml, hown, hret, hlk, hnm⟩ := id C
  unfold f0_129 at hK
  exact o_retN X hx (t := .boolean) hret (by simp) hlk (hb hby at_129) (by decide) (by decide) eT (hK _)

def f0_128 : Int32 := f0_129
set_option maxRecDepth 65536 in
set_option maxHeartbeats 40000000 in
theorem b0_128 (C : own_Cx p s m meth c Z ag code maxLocals "com/example/doubs/doubs/live/RunTimesAddPinLaw" ret "law") {T : State} {h : Heap} {z2 : Int64} {z4 : Int64} {z6 : Int64} {z8 : Int64} {z0 : Slot} {z1 : Slot} {z10 : Slot} {z11 : Slot} {z12 : Slot} {z13 : Slot} {z14 : Slot} {z15 : Slot} (X : Stand p l e R0 s m args below meth c T [] 3 11) (eT : T.heap = h) (hz0 : One z0) (hz1 : One z1) (hz10 : One z10) (hz11 : One z11) (hz12 : One z12) (hz13 : One z13) (hz14 : One z14) (hz15 : One z15) (hK : ∀ h', K (some (.int (f0_128))) h' []) : own_Go p e below (own_Q s K cc0 ss0) T (mkF m 128 #[z0, z1, .val (.long z2), .second, .val (.long z4), .second, .val (.long z6), .second, .val (.long z8), .second, z10, z11, z12, z13, z14, z15] []) := by
  obtain ⟨hx, hZ, hw, hby, hml, hown, hret, hlk, hnm⟩ := id C
  unfold f0_128 at hK
  refine o_iconst (pc' := 129) (x := (0 : Int32)) X hx (hb hby at_128) (by decide) rfl ?_
  exact b0_129 C X eT hz0 hz1 hz10 hz11 hz12 hz13 hz14 hz15 hK

def f0_93 (x6 : Int64) (x8 : Int64) (x10 : Int32) (x11 : Int32) (v0 : List Int64) (w1_locks : Int32) : Int32 := f0_128
def s0_93 (x6 : Int64) (x8 : Int64) (x10 : Int32) (x11 : Int32) (v0 : List Int64) (w1_locks : Int32) : Prop := ((s5_0 w1_locks v0 x8 x6) ∧ True)
set_option maxRecDepth 65536 in
set_option maxHeartbeats 40000000 in
theorem b0_93 (C : own_Cx p s m meth c Z ag code maxLocals "com/example/doubs/doubs/live/RunTimesAddPinLaw" ret "law") {T : State} {h : Heap} {z2 : Int64} {z4 : Int64} {z0 : Slot} {z1 : Slot} {z12 : Slot} {z15 : Slot} (x6 : Int64) (x8 : Int64) (x10 : Int32) (x11 : Int32) (a0 : Addr) (v0 : List Int64) (a1 : Addr) (w1_firstRequest : Int64) (w1_lastRelease : Int64) (w1_locks : Int32) (w1_maxWait : Int64) (w1_totalWait : Int64) (X : Stand p l e R0 s m args below meth c T [] 3 11) (eT : T.heap = h) (Aa0 : own_AJ Z h a0 v0) (ga0 : s.heap.size ≤ a0) (Ea1 : Exa Z h a1 "com/example/doubs/doubs/live/RunTimes") (ga1 : s.heap.size ≤ a1) (Fa1_firstRequest : Fld Z h a1 "com/example/doubs/doubs/live/RunTimes" "firstRequest" "J" (.long w1_firstRequest)) (Fa1_lastRelease : Fld Z h a1 "com/example/doubs/doubs/live/RunTimes" "lastRelease" "J" (.long w1_lastRelease)) (Fa1_locks : Fld Z h a1 "com/example/doubs/doubs/live/RunTimes" "locks" "I" (.int w1_locks)) (Fa1_maxWait : Fld Z h a1 "com/example/doubs/doubs/live/RunTimes" "maxWait" "J" (.long w1_maxWait)) (Fa1_totalWait : Fld Z h a1 "com/example/doubs/doubs/live/RunTimes" "totalWait" "J" (.long w1_totalWait)) (hz0 : One z0) (hz1 : One z1) (hz12 : One z12) (hz15 : One z15) (hs : s0_93 x6 x8 x10 x11 v0 w1_locks) (hK : ∀ h', K (some (.int (f0_93 x6 x8 x10 x11 v0 w1_locks))) h' []) : own_Go p e below (own_Q s K cc0 ss0) T (mkF m 93 #[z0, z1, .val (.long z2), .second, .val (.long z4), .second, .val (.long x6), .second, .val (.long x8), .second, .val (.int x10), .val (.int x11), z12, .val (.ref a0), .val (.ref a1), z15] [(.int (0 : Int32))]) := by
  obtain ⟨hx, hZ, hw, hby, hml, hown, hret, hlk, hnm⟩ := id C
  unfold f0_93 at hK
  unfold s0_93 at hs
  refine o_istoreS (pc' := 95) (l' := #[z0, z1, .val (.long z2), .second, .val (.long z4), .second, .val (.long x6), .second, .val (.long x8), .second, .val (.int x10), .val (.int x11), z12, .val (.ref a0), .val (.ref a1), .val (.int (0 : Int32))]) X hx (hb hby at_93) rfl hz15 rfl rfl ?_
  refine o_aload (pc' := 97) X hx (hb hby at_95) rfl rfl rfl ?_
  refine o_aload (pc' := 99) X hx (hb hby at_97) rfl rfl rfl ?_
  refine o_lload (pc' := 101) X hx (hb hby at_99) rfl rfl ?_
  refine o_lload (pc' := 103) X hx (hb hby at_101) rfl rfl ?_
  refine o_callV (W := 0) (pc' := 106) (a := a1) (argsL := [(.ref a0), (.long x8), (.long x6)]) (rest := []) X hx hZ eT hown (hw _ (List.mem_of_getElem? (i := 27) rfl)) (hw _ (List.mem_of_getElem? (i := 28) rfl)) (hw _ (List.mem_of_getElem? (i := 30) rfl)) (hw _ (List.mem_of_getElem? (i := 29) rfl)) (hw _ (List.mem_of_getElem? (i := 7) rfl)) (hw _ (List.mem_of_getElem? (i := 31) rfl)) (by decide) (rm5 l Z ag hw [] a1 w1_firstRequest w1_lastRelease w1_locks w1_maxWait w1_totalWait a0 v0 x8 x6 h Aa0 Ea1 Fa1_firstRequest Fa1_lastRelease Fa1_locks Fa1_maxWait Fa1_totalWait hs.1) (by decide) (by decide) (by rw [hml]; rfl) Ea1 pd_1 rfl rfl rfl rfl (hb hby at_103) rfl (by decide) (by decide) fun v52 T52 L52 X52 k52 => ?_
  obtain ⟨rfl, N52, P52, u_firstRequest_52, u_lastRelease_52, u_maxWait_52, u_totalWait_52, H52_a1, G52_a1_firstRequest, G52_a1_lastRelease, G52_a1_locks, G52_a1_maxWait, G52_a1_totalWait⟩ := k52
  have B52_a0 := Aa0.keep P52 (fun q => absurd (List.mem_singleton.mp q) (Ne.symm (own_neOJ Ea1 (hw _ (List.mem_of_getElem? (i := 6) rfl)) Aa0)))
  have Y52 : Stand p l e R0 s m args below meth c T52 [] 3 11 := own_dropL (k := a1) X52 ga1 (fun y hy => Nat.le_of_eq (N52 y hy).symm)
  show own_Go p e below _ T52 (mkF m 106 #[z0, z1, .val (.long z2), .second, .val (.long z4), .second, .val (.long x6), .second, .val (.long x8), .second, .val (.int x10), .val (.int x11), z12, .val (.ref a0), .val (.ref a1), .val (.int (0 : Int32))] [])
  refine o_iload (pc' := 108) Y52 hx (hb hby at_106) rfl rfl ?_
  refine o_ifY (pc' := 128) Y52 hx (by decide) (hb hby at_108) (by decide) (by decide) ?_
  exact b0_128 C Y52 rfl hz0 hz1 (One.val rfl) (One.val rfl) hz12 (One.val rfl) (One.val rfl) (One.val rfl) hK

def f0_92 (x6 : Int64) (x8 : Int64) (x10 : Int32) (x11 : Int32) (v0 : List Int64) (w1_locks : Int32) : Int32 := (f0_93 x6 x8 x10 x11 v0 w1_locks)
def s0_92 (x6 : Int64) (x8 : Int64) (x10 : Int32) (x11 : Int32) (v0 : List Int64) (w1_locks : Int32) : Prop := s0_93 x6 x8 x10 x11 v0 w1_locks
set_option maxRecDepth 65536 in
set_option maxHeartbeats 40000000 in
theorem b0_92 (C : own_Cx p s m meth c Z ag code maxLocals "com/example/doubs/doubs/live/RunTimesAddPinLaw" ret "law") {T : State} {h : Heap} {z2 : Int64} {z4 : Int64} {z0 : Slot} {z1 : Slot} {z12 : Slot} {z15 : Slot} (x6 : Int64) (x8 : Int64) (x10 : Int32) (x11 : Int32) (a0 : Addr) (v0 : List Int64) (a1 : Addr) (w1_firstRequest : Int64) (w1_lastRelease : Int64) (w1_locks : Int32) (w1_maxWait : Int64) (w1_totalWait : Int64) (X : Stand p l e R0 s m args below meth c T [] 3 11) (eT : T.heap = h) (Aa0 : own_AJ Z h a0 v0) (ga0 : s.heap.size ≤ a0) (Ea1 : Exa Z h a1 "com/example/doubs/doubs/live/RunTimes") (ga1 : s.heap.size ≤ a1) (Fa1_firstRequest : Fld Z h a1 "com/example/doubs/doubs/live/RunTimes" "firstRequest" "J" (.long w1_firstRequest)) (Fa1_lastRelease : Fld Z h a1 "com/example/doubs/doubs/live/RunTimes" "lastRelease" "J" (.long w1_lastRelease)) (Fa1_locks : Fld Z h a1 "com/example/doubs/doubs/live/RunTimes" "locks" "I" (.int w1_locks)) (Fa1_maxWait : Fld Z h a1 "com/example/doubs/doubs/live/RunTimes" "maxWait" "J" (.long w1_maxWait)) (Fa1_totalWait : Fld Z h a1 "com/example/doubs/doubs/live/RunTimes" "totalWait" "J" (.long w1_totalWait)) (hz0 : One z0) (hz1 : One z1) (hz12 : One z12) (hz15 : One z15) (hs : s0_92 x6 x8 x10 x11 v0 w1_locks) (hK : ∀ h', K (some (.int (f0_92 x6 x8 x10 x11 v0 w1_locks))) h' []) : own_Go p e below (own_Q s K cc0 ss0) T (mkF m 92 #[z0, z1, .val (.long z2), .second, .val (.long z4), .second, .val (.long x6), .second, .val (.long x8), .second, .val (.int x10), .val (.int x11), z12, .val (.ref a0), .val (.ref a1), z15] []) := by
  obtain ⟨hx, hZ, hw, hby, hml, hown, hret, hlk, hnm⟩ := id C
  unfold f0_92 at hK
  unfold s0_92 at hs
  refine o_iconst (pc' := 93) (x := (0 : Int32)) X hx (hb hby at_92) (by decide) rfl ?_
  exact b0_93 C x6 x8 x10 x11 a0 v0 a1 w1_firstRequest w1_lastRelease w1_locks w1_maxWait w1_totalWait X eT Aa0 ga0 Ea1 ga1 Fa1_firstRequest Fa1_lastRelease Fa1_locks Fa1_maxWait Fa1_totalWait hz0 hz1 hz12 hz15 hs hK

def f0_60 (x6 : Int64) (x8 : Int64) (x10 : Int32) (x11 : Int32) (v0 : List Int64) (v1 : List Int64) (w2_locks : Int32) : Int32 := (f0_92 x6 x8 x10 x11 v1 (f5_0 w2_locks v0 x6 x8))
def s0_60 (x6 : Int64) (x8 : Int64) (x10 : Int32) (x11 : Int32) (v0 : List Int64) (v1 : List Int64) (w2_locks : Int32) : Prop := ((s5_0 w2_locks v0 x6 x8) ∧ s0_92 x6 x8 x10 x11 v1 (f5_0 w2_locks v0 x6 x8))
set_option maxRecDepth 65536 in
set_option maxHeartbeats 40000000 in
theorem b0_60 (C : own_Cx p s m meth c Z ag code maxLocals "com/example/doubs/doubs/live/RunTimesAddPinLaw" ret "law") {T : State} {h : Heap} {z2 : Int64} {z4 : Int64} {z0 : Slot} {z1 : Slot} {z15 : Slot} (x6 : Int64) (x8 : Int64) (x10 : Int32) (x11 : Int32) (a0 : Addr) (v0 : List Int64) (a1 : Addr) (v1 : List Int64) (a2 : Addr) (w2_firstRequest : Int64) (w2_lastRelease : Int64) (w2_locks : Int32) (w2_maxWait : Int64) (w2_totalWait : Int64) (X : Stand p l e R0 s m args below meth c T [] 3 11) (eT : T.heap = h) (Aa0 : own_AJ Z h a0 v0) (ga0 : s.heap.size ≤ a0) (Aa1 : own_AJ Z h a1 v1) (ga1 : s.heap.size ≤ a1) (Ea2 : Exa Z h a2 "com/example/doubs/doubs/live/RunTimes") (ga2 : s.heap.size ≤ a2) (Fa2_firstRequest : Fld Z h a2 "com/example/doubs/doubs/live/RunTimes" "firstRequest" "J" (.long w2_firstRequest)) (Fa2_lastRelease : Fld Z h a2 "com/example/doubs/doubs/live/RunTimes" "lastRelease" "J" (.long w2_lastRelease)) (Fa2_locks : Fld Z h a2 "com/example/doubs/doubs/live/RunTimes" "locks" "I" (.int w2_locks)) (Fa2_maxWait : Fld Z h a2 "com/example/doubs/doubs/live/RunTimes" "maxWait" "J" (.long w2_maxWait)) (Fa2_totalWait : Fld Z h a2 "com/example/doubs/doubs/live/RunTimes" "totalWait" "J" (.long w2_totalWait)) (ne_a0_a1 : a0 ≠ a1) (hz0 : One z0) (hz1 : One z1) (hz15 : One z15) (hs : s0_60 x6 x8 x10 x11 v0 v1 w2_locks) (hK : ∀ h', K (some (.int (f0_60 x6 x8 x10 x11 v0 v1 w2_locks))) h' []) : own_Go p e below (own_Q s K cc0 ss0) T (mkF m 60 #[z0, z1, .val (.long z2), .second, .val (.long z4), .second, .val (.long x6), .second, .val (.long x8), .second, .val (.int x10), .val (.int x11), .val (.ref a0), .val (.ref a1), .val (.ref a2), z15] [(.int (0 : Int32))]) := by
  obtain ⟨hx, hZ, hw, hby, hml, hown, hret, hlk, hnm⟩ := id C
  unfold f0_60 at hK
  unfold s0_60 at hs
  refine o_istoreS (pc' := 62) (l' := #[z0, z1, .val (.long z2), .second, .val (.long z4), .second, .val (.long x6), .second, .val (.long x8), .second, .val (.int x10), .val (.int x11), .val (.ref a0), .val (.ref a1), .val (.ref a2), .val (.int (0 : Int32))]) X hx (hb hby at_60) rfl hz15 rfl rfl ?_
  refine o_aload (pc' := 64) X hx (hb hby at_62) rfl rfl rfl ?_
  refine o_aload (pc' := 66) X hx (hb hby at_64) rfl rfl rfl ?_
  refine o_lload (pc' := 68) X hx (hb hby at_66) rfl rfl ?_
  refine o_lload (pc' := 70) X hx (hb hby at_68) rfl rfl ?_
  refine o_callV (W := 0) (pc' := 73) (a := a2) (argsL := [(.ref a0), (.long x6), (.long x8)]) (rest := []) X hx hZ eT hown (hw _ (List.mem_of_getElem? (i := 27) rfl)) (hw _ (List.mem_of_getElem? (i := 28) rfl)) (hw _ (List.mem_of_getElem? (i := 30) rfl)) (hw _ (List.mem_of_getElem? (i := 29) rfl)) (hw _ (List.mem_of_getElem? (i := 7) rfl)) (hw _ (List.mem_of_getElem? (i := 31) rfl)) (by decide) (rm5 l Z ag hw [] a2 w2_firstRequest w2_lastRelease w2_locks w2_maxWait w2_totalWait a0 v0 x6 x8 h Aa0 Ea2 Fa2_firstRequest Fa2_lastRelease Fa2_locks Fa2_maxWait Fa2_totalWait hs.1) (by decide) (by decide) (by rw [hml]; rfl) Ea2 pd_1 rfl rfl rfl rfl (hb hby at_70) rfl (by decide) (by decide) fun v51 T51 L51 X51 k51 => ?_
  obtain ⟨rfl, N51, P51, u_firstRequest_51, u_lastRelease_51, u_maxWait_51, u_totalWait_51, H51_a2, G51_a2_firstRequest, G51_a2_lastRelease, G51_a2_locks, G51_a2_maxWait, G51_a2_totalWait⟩ := k51
  have B51_a0 := Aa0.keep P51 (fun q => absurd (List.mem_singleton.mp q) (Ne.symm (own_neOJ Ea2 (hw _ (List.mem_of_getElem? (i := 6) rfl)) Aa0)))
  have B51_a1 := Aa1.keep P51 (fun q => absurd (List.mem_singleton.mp q) (Ne.symm (own_neOJ Ea2 (hw _ (List.mem_of_getElem? (i := 6) rfl)) Aa1)))
  have Y51 : Stand p l e R0 s m args below meth c T51 [] 3 11 := own_dropL (k := a2) X51 ga2 (fun y hy => Nat.le_of_eq (N51 y hy).symm)
  show own_Go p e below _ T51 (mkF m 73 #[z0, z1, .val (.long z2), .second, .val (.long z4), .second, .val (.long x6), .second, .val (.long x8), .second, .val (.int x10), .val (.int x11), .val (.ref a0), .val (.ref a1), .val (.ref a2), .val (.int (0 : Int32))] [])
  refine o_iload (pc' := 75) Y51 hx (hb hby at_73) rfl rfl ?_
  refine o_ifY (pc' := 92) Y51 hx (by decide) (hb hby at_75) (by decide) (by decide) ?_
  exact b0_92 C x6 x8 x10 x11 a1 v1 a2 u_firstRequest_51 u_lastRelease_51 (f5_0 w2_locks v0 x6 x8) u_maxWait_51 u_totalWait_51 Y51 rfl B51_a1 ga1 H51_a2 ga2 G51_a2_firstRequest G51_a2_lastRelease G51_a2_locks G51_a2_maxWait G51_a2_totalWait hz0 hz1 (One.val rfl) (One.val rfl) hs.2 hK

def f0_129_8 : Int32 := (1 : Int32)
set_option maxRecDepth 65536 in
set_option maxHeartbeats 40000000 in
theorem b0_129_8 (C : own_Cx p s m meth c Z ag code maxLocals "com/example/doubs/doubs/live/RunTimesAddPinLaw" ret "law") {T : State} {h : Heap} {z2 : Int64} {z4 : Int64} {z6 : Int64} {z8 : Int64} {z0 : Slot} {z1 : Slot} {z10 : Slot} {z11 : Slot} {z12 : Slot} {z13 : Slot} {z14 : Slot} {z15 : Slot} (X : Stand p l e R0 s m args below meth c T [] 3 11) (eT : T.heap = h) (hz0 : One z0) (hz1 : One z1) (hz10 : One z10) (hz11 : One z11) (hz12 : One z12) (hz13 : One z13) (hz14 : One z14) (hz15 : One z15) (hK : ∀ h', K (some (.int (f0_129_8))) h' []) : own_Go p e below (own_Q s K cc0 ss0) T (mkF m 129 #[z0, z1, .val (.long z2), .second, .val (.long z4), .second, .val (.long z6), .second, .val (.long z8), .second, z10, z11, z12, z13, z14, z15] [(.int (1 : Int32))]) := by
  obtain ⟨hx, hZ, hw, hby, hml, hown, hret, hlk, hnm⟩ := id C
  unfold f0_129_8 at hK
  exact o_retN X hx (t := .boolean) hret (by simp) hlk (hb hby at_129) (by decide) (by decide) eT (hK _)

def f0_93_7 (x6 : Int64) (x8 : Int64) (x10 : Int32) (x11 : Int32) (v0 : List Int64) (w1_locks : Int32) : Int32 := (if (f4_0 (f5_0 w1_locks v0 x8 x6)) = (x10 + x11) then f0_129_8 else f0_128)
def s0_93_7 (x6 : Int64) (x8 : Int64) (x10 : Int32) (x11 : Int32) (v0 : List Int64) (w1_locks : Int32) : Prop := ((s5_0 w1_locks v0 x8 x6) ∧ True)
set_option maxRecDepth 65536 in
set_option maxHeartbeats 40000000 in
theorem b0_93_7 (C : own_Cx p s m meth c Z ag code maxLocals "com/example/doubs/doubs/live/RunTimesAddPinLaw" ret "law") {T : State} {h : Heap} {z2 : Int64} {z4 : Int64} {z0 : Slot} {z1 : Slot} {z12 : Slot} {z15 : Slot} (x6 : Int64) (x8 : Int64) (x10 : Int32) (x11 : Int32) (a0 : Addr) (v0 : List Int64) (a1 : Addr) (w1_firstRequest : Int64) (w1_lastRelease : Int64) (w1_locks : Int32) (w1_maxWait : Int64) (w1_totalWait : Int64) (X : Stand p l e R0 s m args below meth c T [] 3 11) (eT : T.heap = h) (Aa0 : own_AJ Z h a0 v0) (ga0 : s.heap.size ≤ a0) (Ea1 : Exa Z h a1 "com/example/doubs/doubs/live/RunTimes") (ga1 : s.heap.size ≤ a1) (Fa1_firstRequest : Fld Z h a1 "com/example/doubs/doubs/live/RunTimes" "firstRequest" "J" (.long w1_firstRequest)) (Fa1_lastRelease : Fld Z h a1 "com/example/doubs/doubs/live/RunTimes" "lastRelease" "J" (.long w1_lastRelease)) (Fa1_locks : Fld Z h a1 "com/example/doubs/doubs/live/RunTimes" "locks" "I" (.int w1_locks)) (Fa1_maxWait : Fld Z h a1 "com/example/doubs/doubs/live/RunTimes" "maxWait" "J" (.long w1_maxWait)) (Fa1_totalWait : Fld Z h a1 "com/example/doubs/doubs/live/RunTimes" "totalWait" "J" (.long w1_totalWait)) (hz0 : One z0) (hz1 : One z1) (hz12 : One z12) (hz15 : One z15) (hs : s0_93_7 x6 x8 x10 x11 v0 w1_locks) (hK : ∀ h', K (some (.int (f0_93_7 x6 x8 x10 x11 v0 w1_locks))) h' []) : own_Go p e below (own_Q s K cc0 ss0) T (mkF m 93 #[z0, z1, .val (.long z2), .second, .val (.long z4), .second, .val (.long x6), .second, .val (.long x8), .second, .val (.int x10), .val (.int x11), z12, .val (.ref a0), .val (.ref a1), z15] [(.int (1 : Int32))]) := by
  obtain ⟨hx, hZ, hw, hby, hml, hown, hret, hlk, hnm⟩ := id C
  unfold f0_93_7 at hK
  unfold s0_93_7 at hs
  refine o_istoreS (pc' := 95) (l' := #[z0, z1, .val (.long z2), .second, .val (.long z4), .second, .val (.long x6), .second, .val (.long x8), .second, .val (.int x10), .val (.int x11), z12, .val (.ref a0), .val (.ref a1), .val (.int (1 : Int32))]) X hx (hb hby at_93) rfl hz15 rfl rfl ?_
  refine o_aload (pc' := 97) X hx (hb hby at_95) rfl rfl rfl ?_
  refine o_aload (pc' := 99) X hx (hb hby at_97) rfl rfl rfl ?_
  refine o_lload (pc' := 101) X hx (hb hby at_99) rfl rfl ?_
  refine o_lload (pc' := 103) X hx (hb hby at_101) rfl rfl ?_
  refine o_callV (W := 0) (pc' := 106) (a := a1) (argsL := [(.ref a0), (.long x8), (.long x6)]) (rest := []) X hx hZ eT hown (hw _ (List.mem_of_getElem? (i := 27) rfl)) (hw _ (List.mem_of_getElem? (i := 28) rfl)) (hw _ (List.mem_of_getElem? (i := 30) rfl)) (hw _ (List.mem_of_getElem? (i := 29) rfl)) (hw _ (List.mem_of_getElem? (i := 7) rfl)) (hw _ (List.mem_of_getElem? (i := 31) rfl)) (by decide) (rm5 l Z ag hw [] a1 w1_firstRequest w1_lastRelease w1_locks w1_maxWait w1_totalWait a0 v0 x8 x6 h Aa0 Ea1 Fa1_firstRequest Fa1_lastRelease Fa1_locks Fa1_maxWait Fa1_totalWait hs.1) (by decide) (by decide) (by rw [hml]; rfl) Ea1 pd_1 rfl rfl rfl rfl (hb hby at_103) rfl (by decide) (by decide) fun v56 T56 L56 X56 k56 => ?_
  obtain ⟨rfl, N56, P56, u_firstRequest_56, u_lastRelease_56, u_maxWait_56, u_totalWait_56, H56_a1, G56_a1_firstRequest, G56_a1_lastRelease, G56_a1_locks, G56_a1_maxWait, G56_a1_totalWait⟩ := k56
  have B56_a0 := Aa0.keep P56 (fun q => absurd (List.mem_singleton.mp q) (Ne.symm (own_neOJ Ea1 (hw _ (List.mem_of_getElem? (i := 6) rfl)) Aa0)))
  have Y56 : Stand p l e R0 s m args below meth c T56 [] 3 11 := own_dropL (k := a1) X56 ga1 (fun y hy => Nat.le_of_eq (N56 y hy).symm)
  show own_Go p e below _ T56 (mkF m 106 #[z0, z1, .val (.long z2), .second, .val (.long z4), .second, .val (.long x6), .second, .val (.long x8), .second, .val (.int x10), .val (.int x11), z12, .val (.ref a0), .val (.ref a1), .val (.int (1 : Int32))] [])
  refine o_iload (pc' := 108) Y56 hx (hb hby at_106) rfl rfl ?_
  refine o_ifX (pc' := 111) Y56 hx (by decide) (hb hby at_108) rfl ?_
  refine o_aload (pc' := 113) Y56 hx (hb hby at_111) rfl rfl rfl ?_
  refine o_callV (W := 0) (pc' := 116) (a := a1) (argsL := []) (rest := []) Y56 hx hZ rfl hown (hw _ (List.mem_of_getElem? (i := 20) rfl)) (hw _ (List.mem_of_getElem? (i := 21) rfl)) (hw _ (List.mem_of_getElem? (i := 23) rfl)) (hw _ (List.mem_of_getElem? (i := 22) rfl)) (hw _ (List.mem_of_getElem? (i := 7) rfl)) (hw _ (List.mem_of_getElem? (i := 24) rfl)) (by decide) (rm4 l Z ag hw [] a1 (f5_0 w1_locks v0 x8 x6) T56.heap H56_a1 G56_a1_locks) (by decide) (by decide) (by rw [hml]; rfl) H56_a1 pd_3 rfl rfl rfl rfl (hb hby at_113) rfl (by decide) (by decide) fun v57 T57 L57 X57 k57 => ?_
  obtain ⟨rfl, e57, rfl⟩ := k57
  have Y57 : Stand p l e R0 s m args below meth c T57 [] 3 11 := own_nil X57
  show own_Go p e below _ T57 (mkF m 116 #[z0, z1, .val (.long z2), .second, .val (.long z4), .second, .val (.long x6), .second, .val (.long x8), .second, .val (.int x10), .val (.int x11), z12, .val (.ref a0), .val (.ref a1), .val (.int (1 : Int32))] [(.int (f4_0 (f5_0 w1_locks v0 x8 x6)))])
  refine o_iload (pc' := 118) Y57 hx (hb hby at_116) rfl rfl ?_
  refine o_iload (pc' := 120) Y57 hx (hb hby at_118) rfl rfl ?_
  refine o_iadd (pc' := 121)  Y57 hx (hb hby at_120) rfl rfl ?_
  refine o_icN (P := (f4_0 (f5_0 w1_locks v0 x8 x6)) = (x10 + x11)) (pc1 := 128) (pc2 := 124) Y57 hx XT.ii_ne_f XT.ii_ne_t (hb hby at_121) (by decide) (by decide) rfl (fun c58 => ?_) (fun c58 => ?_)
  · rw [if_neg c58] at hK
    exact b0_128 C Y57 e57 hz0 hz1 (One.val rfl) (One.val rfl) hz12 (One.val rfl) (One.val rfl) (One.val rfl) hK
  · rw [if_pos c58] at hK
    refine o_iconst (pc' := 125) (x := (1 : Int32)) Y57 hx (hb hby at_124) (by decide) rfl ?_
    refine o_goto (pc' := 129) Y57 hx (hb hby at_125) (by decide) (by decide) ?_
    exact b0_129_8 C Y57 e57 hz0 hz1 (One.val rfl) (One.val rfl) hz12 (One.val rfl) (One.val rfl) (One.val rfl) hK

def f0_60_6 (x6 : Int64) (x8 : Int64) (x10 : Int32) (x11 : Int32) (v0 : List Int64) (v1 : List Int64) (w2_locks : Int32) : Int32 := (if (f4_0 (f5_0 w2_locks v0 x6 x8)) = x10 then (f0_93_7 x6 x8 x10 x11 v1 (f5_0 w2_locks v0 x6 x8)) else (f0_92 x6 x8 x10 x11 v1 (f5_0 w2_locks v0 x6 x8)))
def s0_60_6 (x6 : Int64) (x8 : Int64) (x10 : Int32) (x11 : Int32) (v0 : List Int64) (v1 : List Int64) (w2_locks : Int32) : Prop := ((s5_0 w2_locks v0 x6 x8) ∧ (((f4_0 (f5_0 w2_locks v0 x6 x8)) = x10 → s0_93_7 x6 x8 x10 x11 v1 (f5_0 w2_locks v0 x6 x8)) ∧ (¬ ((f4_0 (f5_0 w2_locks v0 x6 x8)) = x10) → s0_92 x6 x8 x10 x11 v1 (f5_0 w2_locks v0 x6 x8))))
set_option maxRecDepth 65536 in
set_option maxHeartbeats 40000000 in
theorem b0_60_6 (C : own_Cx p s m meth c Z ag code maxLocals "com/example/doubs/doubs/live/RunTimesAddPinLaw" ret "law") {T : State} {h : Heap} {z2 : Int64} {z4 : Int64} {z0 : Slot} {z1 : Slot} {z15 : Slot} (x6 : Int64) (x8 : Int64) (x10 : Int32) (x11 : Int32) (a0 : Addr) (v0 : List Int64) (a1 : Addr) (v1 : List Int64) (a2 : Addr) (w2_firstRequest : Int64) (w2_lastRelease : Int64) (w2_locks : Int32) (w2_maxWait : Int64) (w2_totalWait : Int64) (X : Stand p l e R0 s m args below meth c T [] 3 11) (eT : T.heap = h) (Aa0 : own_AJ Z h a0 v0) (ga0 : s.heap.size ≤ a0) (Aa1 : own_AJ Z h a1 v1) (ga1 : s.heap.size ≤ a1) (Ea2 : Exa Z h a2 "com/example/doubs/doubs/live/RunTimes") (ga2 : s.heap.size ≤ a2) (Fa2_firstRequest : Fld Z h a2 "com/example/doubs/doubs/live/RunTimes" "firstRequest" "J" (.long w2_firstRequest)) (Fa2_lastRelease : Fld Z h a2 "com/example/doubs/doubs/live/RunTimes" "lastRelease" "J" (.long w2_lastRelease)) (Fa2_locks : Fld Z h a2 "com/example/doubs/doubs/live/RunTimes" "locks" "I" (.int w2_locks)) (Fa2_maxWait : Fld Z h a2 "com/example/doubs/doubs/live/RunTimes" "maxWait" "J" (.long w2_maxWait)) (Fa2_totalWait : Fld Z h a2 "com/example/doubs/doubs/live/RunTimes" "totalWait" "J" (.long w2_totalWait)) (ne_a0_a1 : a0 ≠ a1) (hz0 : One z0) (hz1 : One z1) (hz15 : One z15) (hs : s0_60_6 x6 x8 x10 x11 v0 v1 w2_locks) (hK : ∀ h', K (some (.int (f0_60_6 x6 x8 x10 x11 v0 v1 w2_locks))) h' []) : own_Go p e below (own_Q s K cc0 ss0) T (mkF m 60 #[z0, z1, .val (.long z2), .second, .val (.long z4), .second, .val (.long x6), .second, .val (.long x8), .second, .val (.int x10), .val (.int x11), .val (.ref a0), .val (.ref a1), .val (.ref a2), z15] [(.int (1 : Int32))]) := by
  obtain ⟨hx, hZ, hw, hby, hml, hown, hret, hlk, hnm⟩ := id C
  unfold f0_60_6 at hK
  unfold s0_60_6 at hs
  refine o_istoreS (pc' := 62) (l' := #[z0, z1, .val (.long z2), .second, .val (.long z4), .second, .val (.long x6), .second, .val (.long x8), .second, .val (.int x10), .val (.int x11), .val (.ref a0), .val (.ref a1), .val (.ref a2), .val (.int (1 : Int32))]) X hx (hb hby at_60) rfl hz15 rfl rfl ?_
  refine o_aload (pc' := 64) X hx (hb hby at_62) rfl rfl rfl ?_
  refine o_aload (pc' := 66) X hx (hb hby at_64) rfl rfl rfl ?_
  refine o_lload (pc' := 68) X hx (hb hby at_66) rfl rfl ?_
  refine o_lload (pc' := 70) X hx (hb hby at_68) rfl rfl ?_
  refine o_callV (W := 0) (pc' := 73) (a := a2) (argsL := [(.ref a0), (.long x6), (.long x8)]) (rest := []) X hx hZ eT hown (hw _ (List.mem_of_getElem? (i := 27) rfl)) (hw _ (List.mem_of_getElem? (i := 28) rfl)) (hw _ (List.mem_of_getElem? (i := 30) rfl)) (hw _ (List.mem_of_getElem? (i := 29) rfl)) (hw _ (List.mem_of_getElem? (i := 7) rfl)) (hw _ (List.mem_of_getElem? (i := 31) rfl)) (by decide) (rm5 l Z ag hw [] a2 w2_firstRequest w2_lastRelease w2_locks w2_maxWait w2_totalWait a0 v0 x6 x8 h Aa0 Ea2 Fa2_firstRequest Fa2_lastRelease Fa2_locks Fa2_maxWait Fa2_totalWait hs.1) (by decide) (by decide) (by rw [hml]; rfl) Ea2 pd_1 rfl rfl rfl rfl (hb hby at_70) rfl (by decide) (by decide) fun v53 T53 L53 X53 k53 => ?_
  obtain ⟨rfl, N53, P53, u_firstRequest_53, u_lastRelease_53, u_maxWait_53, u_totalWait_53, H53_a2, G53_a2_firstRequest, G53_a2_lastRelease, G53_a2_locks, G53_a2_maxWait, G53_a2_totalWait⟩ := k53
  have B53_a0 := Aa0.keep P53 (fun q => absurd (List.mem_singleton.mp q) (Ne.symm (own_neOJ Ea2 (hw _ (List.mem_of_getElem? (i := 6) rfl)) Aa0)))
  have B53_a1 := Aa1.keep P53 (fun q => absurd (List.mem_singleton.mp q) (Ne.symm (own_neOJ Ea2 (hw _ (List.mem_of_getElem? (i := 6) rfl)) Aa1)))
  have Y53 : Stand p l e R0 s m args below meth c T53 [] 3 11 := own_dropL (k := a2) X53 ga2 (fun y hy => Nat.le_of_eq (N53 y hy).symm)
  show own_Go p e below _ T53 (mkF m 73 #[z0, z1, .val (.long z2), .second, .val (.long z4), .second, .val (.long x6), .second, .val (.long x8), .second, .val (.int x10), .val (.int x11), .val (.ref a0), .val (.ref a1), .val (.ref a2), .val (.int (1 : Int32))] [])
  refine o_iload (pc' := 75) Y53 hx (hb hby at_73) rfl rfl ?_
  refine o_ifX (pc' := 78) Y53 hx (by decide) (hb hby at_75) rfl ?_
  refine o_aload (pc' := 80) Y53 hx (hb hby at_78) rfl rfl rfl ?_
  refine o_callV (W := 0) (pc' := 83) (a := a2) (argsL := []) (rest := []) Y53 hx hZ rfl hown (hw _ (List.mem_of_getElem? (i := 20) rfl)) (hw _ (List.mem_of_getElem? (i := 21) rfl)) (hw _ (List.mem_of_getElem? (i := 23) rfl)) (hw _ (List.mem_of_getElem? (i := 22) rfl)) (hw _ (List.mem_of_getElem? (i := 7) rfl)) (hw _ (List.mem_of_getElem? (i := 24) rfl)) (by decide) (rm4 l Z ag hw [] a2 (f5_0 w2_locks v0 x6 x8) T53.heap H53_a2 G53_a2_locks) (by decide) (by decide) (by rw [hml]; rfl) H53_a2 pd_3 rfl rfl rfl rfl (hb hby at_80) rfl (by decide) (by decide) fun v54 T54 L54 X54 k54 => ?_
  obtain ⟨rfl, e54, rfl⟩ := k54
  have Y54 : Stand p l e R0 s m args below meth c T54 [] 3 11 := own_nil X54
  show own_Go p e below _ T54 (mkF m 83 #[z0, z1, .val (.long z2), .second, .val (.long z4), .second, .val (.long x6), .second, .val (.long x8), .second, .val (.int x10), .val (.int x11), .val (.ref a0), .val (.ref a1), .val (.ref a2), .val (.int (1 : Int32))] [(.int (f4_0 (f5_0 w2_locks v0 x6 x8)))])
  refine o_iload (pc' := 85) Y54 hx (hb hby at_83) rfl rfl ?_
  refine o_icN (P := (f4_0 (f5_0 w2_locks v0 x6 x8)) = x10) (pc1 := 92) (pc2 := 88) Y54 hx XT.ii_ne_f XT.ii_ne_t (hb hby at_85) (by decide) (by decide) rfl (fun c55 => ?_) (fun c55 => ?_)
  · rw [if_neg c55] at hK
    exact b0_92 C x6 x8 x10 x11 a1 v1 a2 u_firstRequest_53 u_lastRelease_53 (f5_0 w2_locks v0 x6 x8) u_maxWait_53 u_totalWait_53 Y54 e54 B53_a1 ga1 H53_a2 ga2 G53_a2_firstRequest G53_a2_lastRelease G53_a2_locks G53_a2_maxWait G53_a2_totalWait hz0 hz1 (One.val rfl) (One.val rfl) (hs.2.2 c55) hK
  · rw [if_pos c55] at hK
    refine o_iconst (pc' := 89) (x := (1 : Int32)) Y54 hx (hb hby at_88) (by decide) rfl ?_
    refine o_goto (pc' := 93) Y54 hx (hb hby at_89) (by decide) (by decide) ?_
    exact b0_93_7 C x6 x8 x10 x11 a1 v1 a2 u_firstRequest_53 u_lastRelease_53 (f5_0 w2_locks v0 x6 x8) u_maxWait_53 u_totalWait_53 Y54 e54 B53_a1 ga1 H53_a2 ga2 G53_a2_firstRequest G53_a2_lastRelease G53_a2_locks G53_a2_maxWait G53_a2_totalWait hz0 hz1 (One.val rfl) (One.val rfl) (hs.2.1 c55) hK

def f0_0 (p0 : Int32) (p1 : Int32) (q2 : Int64) (q3 : Int64) (q4 : Int64) (q5 : Int64) : Int32 := (if (f4_0 (f2_0 (0 : Int32))) = (0 : Int32) then (f0_60_6 q4 q5 (p0 &&& (3 : Int32)) (p1 &&& (3 : Int32)) (f1_0 (List.replicate (p0 &&& (3 : Int32)).toNatClampNeg 0) q2 q3) (f1_0 (List.replicate (p1 &&& (3 : Int32)).toNatClampNeg 0) q3 q2) (f2_0 (0 : Int32))) else (f0_60 q4 q5 (p0 &&& (3 : Int32)) (p1 &&& (3 : Int32)) (f1_0 (List.replicate (p0 &&& (3 : Int32)).toNatClampNeg 0) q2 q3) (f1_0 (List.replicate (p1 &&& (3 : Int32)).toNatClampNeg 0) q3 q2) (f2_0 (0 : Int32))))
def s0_0 (p0 : Int32) (p1 : Int32) (q2 : Int64) (q3 : Int64) (q4 : Int64) (q5 : Int64) : Prop := (¬ ((p0 &&& (3 : Int32)) < 0) ∧ (p0 &&& (3 : Int32)).toNatClampNeg ≤ 3 ∧ ¬ ((p1 &&& (3 : Int32)) < 0) ∧ (p1 &&& (3 : Int32)).toNatClampNeg ≤ 3 ∧ (s1_0 (List.replicate (p0 &&& (3 : Int32)).toNatClampNeg 0) q2 q3) ∧ (s1_0 (List.replicate (p1 &&& (3 : Int32)).toNatClampNeg 0) q3 q2) ∧ (((f4_0 (f2_0 (0 : Int32))) = (0 : Int32) → s0_60_6 q4 q5 (p0 &&& (3 : Int32)) (p1 &&& (3 : Int32)) (f1_0 (List.replicate (p0 &&& (3 : Int32)).toNatClampNeg 0) q2 q3) (f1_0 (List.replicate (p1 &&& (3 : Int32)).toNatClampNeg 0) q3 q2) (f2_0 (0 : Int32))) ∧ (¬ ((f4_0 (f2_0 (0 : Int32))) = (0 : Int32)) → s0_60 q4 q5 (p0 &&& (3 : Int32)) (p1 &&& (3 : Int32)) (f1_0 (List.replicate (p0 &&& (3 : Int32)).toNatClampNeg 0) q2 q3) (f1_0 (List.replicate (p1 &&& (3 : Int32)).toNatClampNeg 0) q3 q2) (f2_0 (0 : Int32)))))
set_option maxRecDepth 65536 in
set_option maxHeartbeats 40000000 in
theorem b0_0 (C : own_Cx p s m meth c Z ag code maxLocals "com/example/doubs/doubs/live/RunTimesAddPinLaw" ret "law") {T : State} {h : Heap} (p0 : Int32) (p1 : Int32) (q2 : Int64) (q3 : Int64) (q4 : Int64) (q5 : Int64) (X : Stand p l e R0 s m args below meth c T [] 0 0) (eT : T.heap = h) (hs : s0_0 p0 p1 q2 q3 q4 q5) (hK : ∀ h', K (some (.int (f0_0 p0 p1 q2 q3 q4 q5))) h' []) : own_Go p e below (own_Q s K cc0 ss0) T (mkF m 0 #[.val (.int p0), .val (.int p1), .val (.long q2), .second, .val (.long q3), .second, .val (.long q4), .second, .val (.long q5), .second, .unset, .unset, .unset, .unset, .unset, .unset] []) := by
  obtain ⟨hx, hZ, hw, hby, hml, hown, hret, hlk, hnm⟩ := id C
  unfold f0_0 at hK
  unfold s0_0 at hs
  refine o_iloadN (pc' := 1) X hx (hb hby at_0) rfl rfl ?_
  refine o_iconst (pc' := 2) (x := (3 : Int32)) X hx (hb hby at_1) (by decide) rfl ?_
  refine o_iand (pc' := 3)  X hx (hb hby at_2) rfl rfl ?_
  refine o_istore (pc' := 5) (l' := #[.val (.int p0), .val (.int p1), .val (.long q2), .second, .val (.long q3), .second, .val (.long q4), .second, .val (.long q5), .second, .val (.int (p0 &&& (3 : Int32))), .unset, .unset, .unset, .unset, .unset]) X hx (hb hby at_3) rfl rfl ?_
  refine o_iloadN (pc' := 6) X hx (hb hby at_5) rfl rfl ?_
  refine o_iconst (pc' := 7) (x := (3 : Int32)) X hx (hb hby at_6) (by decide) rfl ?_
  refine o_iand (pc' := 8)  X hx (hb hby at_7) rfl rfl ?_
  refine o_istore (pc' := 10) (l' := #[.val (.int p0), .val (.int p1), .val (.long q2), .second, .val (.long q3), .second, .val (.long q4), .second, .val (.long q5), .second, .val (.int (p0 &&& (3 : Int32))), .val (.int (p1 &&& (3 : Int32))), .unset, .unset, .unset, .unset]) X hx (hb hby at_8) rfl rfl ?_
  refine o_iload (pc' := 12) X hx (hb hby at_10) rfl rfl ?_
  refine o_newJ (pc' := 14) (cap := 3) (vs := (List.replicate (p0 &&& (3 : Int32)).toNatClampNeg 0)) X hx hZ eT (hw _ (List.mem_of_getElem? (i := 0) rfl)) (hb hby at_12) rfl hs.1 hs.2.1 (by decide) (by decide) (by decide) rfl fun T43 h43 b43 X43 e43 q43 E43 A43 => ?_
  have g43 : s.heap.size ≤ b43 := q43 ▸ own_sz X eT
  refine o_astore (pc' := 16) (l' := #[.val (.int p0), .val (.int p1), .val (.long q2), .second, .val (.long q3), .second, .val (.long q4), .second, .val (.long q5), .second, .val (.int (p0 &&& (3 : Int32))), .val (.int (p1 &&& (3 : Int32))), .val (.ref b43), .unset, .unset, .unset]) X43 hx (hb hby at_14) rfl rfl rfl ?_
  refine o_iload (pc' := 18) X43 hx (hb hby at_16) rfl rfl ?_
  refine o_newJ (pc' := 20) (cap := 3) (vs := (List.replicate (p1 &&& (3 : Int32)).toNatClampNeg 0)) X43 hx hZ e43 (hw _ (List.mem_of_getElem? (i := 0) rfl)) (hb hby at_18) rfl hs.2.2.1 hs.2.2.2.1 (by decide) (by decide) (by decide) rfl fun T44 h44 b44 X44 e44 q44 E44 A44 => ?_
  have g44 : s.heap.size ≤ b44 := q44 ▸ own_sz X43 e43
  have ne44_b43 : b43 ≠ b44 := Nat.ne_of_lt (q44 ▸ A43.lt)
  have B44_b43 := A43.ext E44
  refine o_astore (pc' := 22) (l' := #[.val (.int p0), .val (.int p1), .val (.long q2), .second, .val (.long q3), .second, .val (.long q4), .second, .val (.long q5), .second, .val (.int (p0 &&& (3 : Int32))), .val (.int (p1 &&& (3 : Int32))), .val (.ref b43), .val (.ref b44), .unset, .unset]) X44 hx (hb hby at_20) rfl rfl rfl ?_
  refine o_aload (pc' := 24) X44 hx (hb hby at_22) rfl rfl rfl ?_
  refine o_lloadN (pc' := 25) X44 hx (hb hby at_24) rfl rfl ?_
  refine o_lload (pc' := 27) X44 hx (hb hby at_25) rfl rfl ?_
  refine o_callS (W := 0) (pc' := 30) (argsL := [(.ref b43), (.long q2), (.long q3)]) (rest := []) X44 hx hZ e44 hown (hw _ (List.mem_of_getElem? (i := 1) rfl)) (hw _ (List.mem_of_getElem? (i := 2) rfl)) (hw _ (List.mem_of_getElem? (i := 3) rfl)) (hw _ (List.mem_of_getElem? (i := 4) rfl)) (by decide) (rm1 l Z ag hw [] b43 (List.replicate (p0 &&& (3 : Int32)).toNatClampNeg 0) q2 q3 h44 B44_b43 hs.2.2.2.2.1) (by decide) (by decide) (by rw [hml]; rfl) pd_1 rfl rfl rfl rfl (hb hby at_27) rfl (by decide) (by decide) fun v45 T45 L45 X45 k45 => ?_
  obtain ⟨rfl, N45, P45, A45⟩ := k45
  have B45_b44 := A44.keep P45 (fun q => absurd (List.mem_singleton.mp q) (Ne.symm ne44_b43))
  have Y45 : Stand p l e R0 s m args below meth c T45 [] 2 6 := own_dropL (k := b43) X45 g43 (fun y hy => Nat.le_of_eq (N45 y hy).symm)
  refine o_aload (pc' := 32) Y45 hx (hb hby at_30) rfl rfl rfl ?_
  refine o_lload (pc' := 34) Y45 hx (hb hby at_32) rfl rfl ?_
  refine o_lloadN (pc' := 35) Y45 hx (hb hby at_34) rfl rfl ?_
  refine o_callS (W := 0) (pc' := 38) (argsL := [(.ref b44), (.long q3), (.long q2)]) (rest := []) Y45 hx hZ rfl hown (hw _ (List.mem_of_getElem? (i := 1) rfl)) (hw _ (List.mem_of_getElem? (i := 2) rfl)) (hw _ (List.mem_of_getElem? (i := 3) rfl)) (hw _ (List.mem_of_getElem? (i := 4) rfl)) (by decide) (rm1 l Z ag hw [] b44 (List.replicate (p1 &&& (3 : Int32)).toNatClampNeg 0) q3 q2 T45.heap B45_b44 hs.2.2.2.2.2.1) (by decide) (by decide) (by rw [hml]; rfl) pd_1 rfl rfl rfl rfl (hb hby at_35) rfl (by decide) (by decide) fun v46 T46 L46 X46 k46 => ?_
  obtain ⟨rfl, N46, P46, A46⟩ := k46
  have B46_b43 := A45.keep P46 (fun q => absurd (List.mem_singleton.mp q) ne44_b43)
  have Y46 : Stand p l e R0 s m args below meth c T46 [] 2 6 := own_dropL (k := b44) X46 g44 (fun y hy => Nat.le_of_eq (N46 y hy).symm)
  refine o_newO (pc' := 41) Y46 hx hZ rfl hown (hw _ (List.mem_of_getElem? (i := 5) rfl)) (hw _ (List.mem_of_getElem? (i := 6) rfl)) (hw _ (List.mem_of_getElem? (i := 7) rfl)) (hb hby at_38) rfl (by decide) (by decide) fun T47 h47 b47 X47 e47 q47 E47 A47 D47 => ?_
  have g47 : s.heap.size ≤ b47 := q47 ▸ own_sz Y46 rfl
  have B47_b43 := B46_b43.ext E47
  have B47_b44 := A46.ext E47
  have F47_firstRequest : Fld Z h47 b47 "com/example/doubs/doubs/live/RunTimes" "firstRequest" "J" (.long (0 : Int64)) := D47 (Or.inl (hw _ (List.mem_of_getElem? (i := 16) rfl))) (ty := .long) (by decide)
  have F47_lastRelease : Fld Z h47 b47 "com/example/doubs/doubs/live/RunTimes" "lastRelease" "J" (.long (0 : Int64)) := D47 (Or.inl (hw _ (List.mem_of_getElem? (i := 19) rfl))) (ty := .long) (by decide)
  have F47_locks : Fld Z h47 b47 "com/example/doubs/doubs/live/RunTimes" "locks" "I" (.int (0 : Int32)) := D47 (Or.inl (hw _ (List.mem_of_getElem? (i := 26) rfl))) (ty := .int) (by decide)
  have F47_totalWait : Fld Z h47 b47 "com/example/doubs/doubs/live/RunTimes" "totalWait" "J" (.long (0 : Int64)) := D47 (Or.inl (hw _ (List.mem_of_getElem? (i := 33) rfl))) (ty := .long) (by decide)
  have F47_maxWait : Fld Z h47 b47 "com/example/doubs/doubs/live/RunTimes" "maxWait" "J" (.long (0 : Int64)) := D47 (Or.inl (hw _ (List.mem_of_getElem? (i := 35) rfl))) (ty := .long) (by decide)
  refine o_dup (pc' := 42) X47 hx (hb hby at_41) rfl rfl ?_
  refine o_ctor (W := 1) (pc' := 45) (a := b47) (argsL := []) (rest := [(.ref b47)]) X47 hx hZ e47 rfl hown (hw _ (List.mem_of_getElem? (i := 8) rfl)) (hw _ (List.mem_of_getElem? (i := 9) rfl)) (hw _ (List.mem_of_getElem? (i := 7) rfl)) (hw _ (List.mem_of_getElem? (i := 10) rfl)) (by decide) (rm2 l Z ag hw [] b47 (0 : Int64) (0 : Int64) (0 : Int32) (0 : Int64) (0 : Int64) h47 A47 F47_firstRequest F47_lastRelease F47_locks F47_maxWait F47_totalWait) (by decide) (by decide) (by rw [hml]; rfl) pd_2 rfl rfl rfl rfl (hb hby at_42) rfl (by decide) (by decide) fun v48 T48 L48 X48 k48 => ?_
  obtain ⟨rfl, N48, P48, u_firstRequest_48, u_lastRelease_48, u_maxWait_48, u_totalWait_48, H48_b47, G48_b47_firstRequest, G48_b47_lastRelease, G48_b47_locks, G48_b47_maxWait, G48_b47_totalWait⟩ := k48
  have B48_b43 := B47_b43.keep P48 (fun q => absurd (List.mem_singleton.mp q) (Ne.symm (own_neOJ A47 (hw _ (List.mem_of_getElem? (i := 6) rfl)) B47_b43)))
  have B48_b44 := B47_b44.keep P48 (fun q => absurd (List.mem_singleton.mp q) (Ne.symm (own_neOJ A47 (hw _ (List.mem_of_getElem? (i := 6) rfl)) B47_b44)))
  have Y48 : Stand p l e R0 s m args below meth c T48 [] 3 11 := own_dropL (k := b47) X48 g47 (fun y hy => Nat.le_of_eq (N48 y hy).symm)
  show own_Go p e below _ T48 (mkF m 45 #[.val (.int p0), .val (.int p1), .val (.long q2), .second, .val (.long q3), .second, .val (.long q4), .second, .val (.long q5), .second, .val (.int (p0 &&& (3 : Int32))), .val (.int (p1 &&& (3 : Int32))), .val (.ref b43), .val (.ref b44), .unset, .unset] [(.ref b47)])
  refine o_astore (pc' := 47) (l' := #[.val (.int p0), .val (.int p1), .val (.long q2), .second, .val (.long q3), .second, .val (.long q4), .second, .val (.long q5), .second, .val (.int (p0 &&& (3 : Int32))), .val (.int (p1 &&& (3 : Int32))), .val (.ref b43), .val (.ref b44), .val (.ref b47), .unset]) Y48 hx (hb hby at_45) rfl rfl rfl ?_
  refine o_aload (pc' := 49) Y48 hx (hb hby at_47) rfl rfl rfl ?_
  refine o_callV (W := 0) (pc' := 52) (a := b47) (argsL := []) (rest := []) Y48 hx hZ rfl hown (hw _ (List.mem_of_getElem? (i := 20) rfl)) (hw _ (List.mem_of_getElem? (i := 21) rfl)) (hw _ (List.mem_of_getElem? (i := 23) rfl)) (hw _ (List.mem_of_getElem? (i := 22) rfl)) (hw _ (List.mem_of_getElem? (i := 7) rfl)) (hw _ (List.mem_of_getElem? (i := 24) rfl)) (by decide) (rm4 l Z ag hw [] b47 (f2_0 (0 : Int32)) T48.heap H48_b47 G48_b47_locks) (by decide) (by decide) (by rw [hml]; rfl) H48_b47 pd_3 rfl rfl rfl rfl (hb hby at_49) rfl (by decide) (by decide) fun v49 T49 L49 X49 k49 => ?_
  obtain ⟨rfl, e49, rfl⟩ := k49
  have Y49 : Stand p l e R0 s m args below meth c T49 [] 3 11 := own_nil X49
  show own_Go p e below _ T49 (mkF m 52 #[.val (.int p0), .val (.int p1), .val (.long q2), .second, .val (.long q3), .second, .val (.long q4), .second, .val (.long q5), .second, .val (.int (p0 &&& (3 : Int32))), .val (.int (p1 &&& (3 : Int32))), .val (.ref b43), .val (.ref b44), .val (.ref b47), .unset] [(.int (f4_0 (f2_0 (0 : Int32))))])
  refine o_ifN (P := (f4_0 (f2_0 (0 : Int32))) = (0 : Int32)) (pc1 := 59) (pc2 := 55) Y49 hx XT.i0_ne_f XT.i0_ne_t (hb hby at_52) (by decide) (by decide) rfl (fun c50 => ?_) (fun c50 => ?_)
  · rw [if_neg c50] at hK
    refine o_iconst (pc' := 60) (x := (0 : Int32)) Y49 hx (hb hby at_59) (by decide) rfl ?_
    exact b0_60 C q4 q5 (p0 &&& (3 : Int32)) (p1 &&& (3 : Int32)) b43 (f1_0 (List.replicate (p0 &&& (3 : Int32)).toNatClampNeg 0) q2 q3) b44 (f1_0 (List.replicate (p1 &&& (3 : Int32)).toNatClampNeg 0) q3 q2) b47 u_firstRequest_48 u_lastRelease_48 (f2_0 (0 : Int32)) u_maxWait_48 u_totalWait_48 Y49 e49 B48_b43 g43 B48_b44 g44 H48_b47 g47 G48_b47_firstRequest G48_b47_lastRelease G48_b47_locks G48_b47_maxWait G48_b47_totalWait ne44_b43 (One.val rfl) (One.val rfl) One.u (hs.2.2.2.2.2.2.2 c50) hK
  · rw [if_pos c50] at hK
    refine o_iconst (pc' := 56) (x := (1 : Int32)) Y49 hx (hb hby at_55) (by decide) rfl ?_
    refine o_goto (pc' := 60) Y49 hx (hb hby at_56) (by decide) (by decide) ?_
    exact b0_60_6 C q4 q5 (p0 &&& (3 : Int32)) (p1 &&& (3 : Int32)) b43 (f1_0 (List.replicate (p0 &&& (3 : Int32)).toNatClampNeg 0) q2 q3) b44 (f1_0 (List.replicate (p1 &&& (3 : Int32)).toNatClampNeg 0) q3 q2) b47 u_firstRequest_48 u_lastRelease_48 (f2_0 (0 : Int32)) u_maxWait_48 u_totalWait_48 Y49 e49 B48_b43 g43 B48_b44 g44 H48_b47 g47 G48_b47_firstRequest G48_b47_lastRelease G48_b47_locks G48_b47_maxWait G48_b47_totalWait ne44_b43 (One.val rfl) (One.val rfl) One.u (hs.2.2.2.2.2.2.1 c50) hK

end Body0
theorem ef_0 (m : MethodId) (p0 : Int32) (p1 : Int32) (q2 : Int64) (q3 : Int64) (q4 : Int64) (q5 : Int64) : entryFrame m #[(.int p0), (.int p1), (.long q2), (.long q3), (.long q4), (.long q5)] maxLocals = mkF m 0 #[.val (.int p0), .val (.int p1), .val (.long q2), .second, .val (.long q3), .second, .val (.long q4), .second, .val (.long q5), .second, .unset, .unset, .unset, .unset, .unset, .unset] [] := by first | (simp [entryFrame, mkF, argsToLocals, Value.category, maxLocals]; done) | rfl
set_option maxRecDepth 65536 in
set_option maxHeartbeats 40000000 in
theorem rm0 (l : Launch) (Z : State) (ag : Array Value) (hw : ∀ d ∈ tables_1, d.before ag Z = true) (ws : List Jvm.Cond) (p0 : Int32) (p1 : Int32) (q2 : Int64) (q3 : Int64) (q4 : Int64) (q5 : Int64) (h0 : Heap) (hs : s0_0 p0 p1 q2 q3 q4 q5) :
    MetFree l x (head1 (Jvm.Cond.code x code maxLocals ret :: ws) R0) (fun a U => a = #[(.int p0), (.int p1), (.long q2), (.long q3), (.long q4), (.long q5)] ∧ Z.Warmed39 U.vm ∧ U.heap = h0) (fun _ _ _ _ _ => True) (fun _ U o U' => ∃ v L, o = .returned v ∧ own_KL (some (.int (f0_0 p0 p1 q2 q3 q4 q5))) v U'.heap L ∧ FrameEnd U o U' L cc0 ss0) := by
  refine MetFree.of_bodySF (plainFor_of_name pn_RunTimesAddPinLaw) hisR ?_
  intro p e s m args below meth c s₁ Bd hml0 hP hK
  obtain ⟨rfl, hZ, hh⟩ := hP
  have C : own_Cx p s m meth c Z ag code maxLocals "com/example/doubs/doubs/live/RunTimesAddPinLaw" ret "law" := ⟨Bd.exec, hZ, hw, Bd.bytes, hml0, findClass_of_methodNamed Bd.named, Bd.returns, Bd.notSynchronized, (name_of_methodNamed Bd.named Bd.method).1⟩
  have X0 : Stand p l e R0 s m #[(.int p0), (.int p1), (.long q2), (.long q3), (.long q4), (.long q5)] below meth c s₁ [] 0 0 := Stand.of_body Bd
  have e0 : s₁.heap = h0 := by rw [← hh, Bd.state]; rfl
  rw [ef_0]
  exact b0_0 (K := own_KL (some (.int (f0_0 p0 p1 q2 q3 q4 q5)))) C p0 p1 q2 q3 q4 q5 X0 e0 hs (fun _ => ⟨rfl, rfl⟩)

theorem own_and3 (x : Int32) : x &&& 3 = 0 ∨ x &&& 3 = 1 ∨ x &&& 3 = 2 ∨ x &&& 3 = 3 := by
  have h : (x &&& 3).toInt = x.toInt % 2 ^ 2 := Jvm.Kit.i32_mask x 3 (by decide) (by decide)
  rw [own_eq, own_eq, own_eq, own_eq, show (0 : Int32).toInt = 0 from rfl, show (1 : Int32).toInt = 1 from rfl, show (2 : Int32).toInt = 2 from rfl, show (3 : Int32).toInt = 3 from rfl]
  omega
theorem own_len_lt {n : Nat} (k : Int32) {j : Nat} (hk : k.toInt = j) (hn : n < 2 ^ 31) (q : k < own_len n) : own_in n k := by
  rw [own_lt] at q
  have e : (own_len n).toInt = n := len_toInt hn
  exact own_in_of (by omega) (by omega)
theorem own_setL_len (v : List Int64) (j : Int32) (u : Int64) : (own_setL v j u).length = v.length := by simp [own_setL]
theorem own_19 (v : List Int64) (a b : Int64) (h : v.length ≤ 3) : s1_19 v a b ∧ (f1_19 v a b).length = v.length := by
  constructor
  · exact ⟨fun q => ⟨own_len_lt 2 (j := 2) rfl (by omega) q, trivial⟩, fun _ => trivial⟩
  · unfold f1_19 f1_31; split
    · exact own_setL_len _ _ _
    · rfl
theorem own_9 (v : List Int64) (a b : Int64) (h : v.length ≤ 3) : s1_9 v a b ∧ (f1_9 v a b).length = v.length := by
  have e := own_setL_len v 1 b
  constructor
  · exact ⟨fun q => ⟨own_len_lt 1 (j := 1) rfl (by omega) q, (own_19 _ a b (by omega)).1⟩, fun _ => (own_19 v a b h).1⟩
  · unfold f1_9; split
    · rw [(own_19 _ a b (by omega)).2, e]
    · exact (own_19 v a b h).2
theorem own_fill (v : List Int64) (a b : Int64) (h : v.length ≤ 3) : s1_0 v a b ∧ (f1_0 v a b).length = v.length := by
  have e := own_setL_len v 0 a
  constructor
  · exact ⟨fun q => ⟨own_len_lt 0 (j := 0) rfl (by omega) q, (own_9 _ a b (by omega)).1⟩, fun _ => (own_9 v a b h).1⟩
  · unfold f1_0; split
    · rw [(own_9 _ a b (by omega)).2, e]
    · exact (own_9 v a b h).2
theorem own_add (w : Int32) (v : List Int64) (a b : Int64) (h : v.length ≤ 3) : s5_0 w v a b ∧ f5_0 w v a b = w + own_len v.length := by
  have hin (k : Nat) (hk : k < v.length) : own_in v.length (Int32.ofNat k) := own_nat_in hk (by omega)
  rcases (by omega : v.length = 0 ∨ v.length = 1 ∨ v.length = 2 ∨ v.length = 3) with e | e | e | e
  · constructor
    · unfold s5_0 s5_11; rw [e]; exact ⟨fun q => absurd q (by decide), fun _ => trivial⟩
    · unfold f5_0 f5_11 f5_96; rw [e, if_neg (by decide), if_neg (by decide)]
      show w = w + 0
      rw [Int32.add_zero]
  · constructor
    · unfold s5_0 s5_11; rw [e] at hin ⊢
      refine ⟨fun _ => ⟨hin 0 (by omega), ?_⟩, fun _ => trivial⟩
      rw [s5_11_3, e]; exact ⟨fun q => absurd q (by decide), fun _ => trivial⟩
    · unfold f5_0 f5_11; rw [e, if_pos (by decide), f5_11_3, if_neg (by decide), e, if_pos (by decide)]; rfl
  · constructor
    · unfold s5_0 s5_11; rw [e] at hin ⊢
      refine ⟨fun _ => ⟨hin 0 (by omega), ?_⟩, fun _ => trivial⟩
      rw [s5_11_3, e]
      refine ⟨fun _ => ⟨hin 1 (by omega), ?_⟩, fun _ => trivial⟩
      rw [s5_11_3, e]; exact ⟨fun q => absurd q (by decide), fun _ => trivial⟩
    · unfold f5_0 f5_11; rw [e, if_pos (by decide), f5_11_3, if_pos (by decide), f5_11_3, if_neg (by decide), e, if_pos (by decide)]; rfl
  · constructor
    · unfold s5_0 s5_11; rw [e] at hin ⊢
      refine ⟨fun _ => ⟨hin 0 (by omega), ?_⟩, fun _ => trivial⟩
      rw [s5_11_3, e]
      refine ⟨fun _ => ⟨hin 1 (by omega), ?_⟩, fun _ => trivial⟩
      rw [s5_11_3, e]
      refine ⟨fun _ => ⟨hin 2 (by omega), ?_⟩, fun _ => trivial⟩
      rw [s5_11_3, e]; exact ⟨fun q => absurd q (by decide), fun _ => trivial⟩
    · unfold f5_0 f5_11; rw [e, if_pos (by decide), f5_11_3, if_pos (by decide), f5_11_3, if_pos (by decide), f5_11_3, if_neg (by decide), e, if_pos (by decide)]; rfl
/-- the two lengths, as ints and as numbers -/
theorem own_rep {k : Int32} (h : k = 0 ∨ k = 1 ∨ k = 2 ∨ k = 3) : ¬ k < 0 ∧ k.toNatClampNeg ≤ 3 ∧ own_len k.toNatClampNeg = k := by
  rcases h with rfl | rfl | rfl | rfl <;> decide
theorem own_both (p0 p1 : Int32) (q2 q3 q4 q5 : Int64) : s0_0 p0 p1 q2 q3 q4 q5 ∧ f0_0 p0 p1 q2 q3 q4 q5 = 1 := by
  have h1 := own_rep (own_and3 p0); have h2 := own_rep (own_and3 p1)
  unfold s0_0 f0_0
  generalize p0 &&& 3 = k1 at *
  generalize p1 &&& 3 = k2 at *
  have l1 : (List.replicate k1.toNatClampNeg (0 : Int64)).length = k1.toNatClampNeg := by simp
  have l2 : (List.replicate k2.toNatClampNeg (0 : Int64)).length = k2.toNatClampNeg := by simp
  have a1 := own_fill (List.replicate k1.toNatClampNeg 0) q2 q3 (by omega)
  have a2 := own_fill (List.replicate k2.toNatClampNeg 0) q3 q2 (by omega)
  generalize f1_0 (List.replicate k1.toNatClampNeg 0) q2 q3 = v1 at *
  generalize f1_0 (List.replicate k2.toNatClampNeg 0) q3 q2 = v2 at *
  have b1 := own_add 0 v1 q4 q5 (by omega)
  have e1 : own_len v1.length = k1 := by rw [a1.2, l1]; exact h1.2.2
  have e2 : own_len v2.length = k2 := by rw [a2.2, l2]; exact h2.2.2
  rw [e1, Int32.zero_add] at b1
  have b2 := own_add k1 v2 q5 q4 (by omega)
  rw [e2] at b2
  have z : f4_0 (f2_0 0) = 0 := rfl
  have z2 : f2_0 0 = 0 := rfl
  have k93 : s0_93_7 q4 q5 k1 k2 v2 k1 ∧ f0_93_7 q4 q5 k1 k2 v2 k1 = 1 := by
    constructor
    · exact ⟨b2.1, trivial⟩
    · unfold f0_93_7; rw [b2.2, show f4_0 (k1 + k2) = k1 + k2 from rfl, if_pos rfl]; rfl
  have k60 : s0_60_6 q4 q5 k1 k2 v1 v2 0 ∧ f0_60_6 q4 q5 k1 k2 v1 v2 0 = 1 := by
    constructor
    · unfold s0_60_6; rw [b1.2]
      exact ⟨b1.1, fun _ => k93.1, fun q => absurd rfl q⟩
    · unfold f0_60_6; rw [b1.2, show f4_0 k1 = k1 from rfl, if_pos rfl]; exact k93.2
  rw [z, z2, if_pos rfl]
  exact ⟨⟨h1.1, h1.2.1, h2.1, h2.2.1, a1.1, a2.1, fun _ => k60.1, fun q => absurd rfl q⟩, k60.2⟩
theorem own_law (p0 p1 : Int32) (q2 q3 q4 q5 : Int64) : f0_0 p0 p1 q2 q3 q4 q5 = 1 := (own_both p0 p1 q2 q3 q4 q5).2
theorem own_safe (p0 p1 : Int32) (q2 q3 q4 q5 : Int64) : s0_0 p0 p1 q2 q3 q4 q5 := (own_both p0 p1 q2 q3 q4 q5).1

set_option maxRecDepth 65536 in
set_option maxHeartbeats 40000000 in
theorem comes_1 {Post : Tables → Env → Array Value → State → Outcome → State → Prop} (hpost : ∀ tb e args s v u, (limb_1_1.after args s (.returned v) u = true ∧ limb_1_2.after args s (.returned v) u = true) → FrameEnd s (.returned v) u (Jvm.fieldLocs frame_1_writes args s ++ Jvm.arrayLocs frame_1_arrays args s ++ Jvm.staticLocs frame_1_statics s) 16 128 → Post tb e args s (.returned v) u) :
    ArmFor flags0 classFile x code maxLocals ret World_1 tables_1 room_1 Calls_1 rest_1 Pre_1 Post := by
  intro l hfl _ _ p e ha hc hk s m args below hf hA hF happ hP
  obtain ⟨hcalls, hrest, hpre⟩ := hP
  obtain ⟨-, -, -, hnamed, -, -, -, hat⟩ := (Spec.applies_iff hf).mp happ
  obtain ⟨hg, hn⟩ := and_e (Cond.before_iff.mp (show (Jvm.Cond.and given_1 narrow_1).before args s = true from hpre))
  obtain ⟨g1a, g1b⟩ := and_e hg
  obtain ⟨g2a, g2b⟩ := and_e g1b
  obtain ⟨g3a, g3b⟩ := and_e g2b
  obtain ⟨g4a, g4b⟩ := and_e g3b
  obtain ⟨g5a, g5b⟩ := and_e g4b
  obtain ⟨g6a, g6b⟩ := and_e g5b
  obtain ⟨w0, w1, w2, w3, w4, w5, rfl⟩ : ∃ w0 w1 w2 w3 w4 w5 : Value, args = #[w0, w1, w2, w3, w4, w5] := by
    have hs : args.size = 6 := by simpa [Cond.value, given_1] using g1a
    obtain ⟨L⟩ := args
    match L, hs with
    | [w0, w1, w2, w3, w4, w5], _ => exact ⟨w0, w1, w2, w3, w4, w5, rfl⟩
  have hw := fun d (hd : d ∈ tables_1) => atoms_spec (ws := Jvm.Cond.code x code maxLocals ret :: tables_1) hat d (List.mem_cons_of_mem _ hd)
  obtain ⟨i0, ei0⟩ := is_v g2a
  obtain rfl : w0 = (.int i0) := Option.some.inj ei0
  obtain ⟨i1, ei1⟩ := is_v g3a
  obtain rfl : w1 = (.int i1) := Option.some.inj ei1
  obtain ⟨i2, ei2⟩ := isL_v g4a
  obtain rfl : w2 = (.long i2) := Option.some.inj ei2
  obtain ⟨i3, ei3⟩ := isL_v g5a
  obtain rfl : w3 = (.long i3) := Option.some.inj ei3
  obtain ⟨i4, ei4⟩ := isL_v g6a
  obtain rfl : w4 = (.long i4) := Option.some.inj ei4
  obtain ⟨i5, ei5⟩ := isL_v g6b
  obtain rfl : w5 = (.long i5) := Option.some.inj ei5
  obtain ⟨n, o, h1, h2, h3, v, L, rfl, ⟨rfl, rfl⟩, hq⟩ := rm0 l s _ hw tables_1 i0 i1 i2 i3 i4 i5 s.heap (own_safe i0 i1 i2 i3 i4 i5) p e ha hc hk s m _ below hf ((Spec.applies_iff_loose hf).mp happ).1 ⟨rfl, State.Warmed39.refl s, rfl⟩ trivial
  have hv1 := own_law i0 i1 i2 i3 i4 i5
  refine ⟨n, _, h1, h2, h3, hpost _ _ _ _ _ _ ⟨Cond.after_iff.mpr rfl, Cond.after_iff.mpr (eq_i res_at (Term.int_eval (1)) (by rw [hv1]) rfl)⟩ ⟨hq.1, hq.2.1, (hq.2.2.sift fun y hy => nomatch hy).mono (by decide) (by decide)⟩⟩
theorem main_1_1 : Claimed_1_1 := comes_1 fun _ _ _ _ _ _ h hF => ⟨h.1, hF⟩
theorem main_1_2 : Claimed_1_2 := comes_1 fun _ _ _ _ _ _ h hF => ⟨h.2, hF⟩
end Jvm.Pilot.@@N@@
namespace Jvm.Pilot.@@N@@
open Jvm Jvm.ClassFile Sem Op Lib Jvm.Free Jvm.Stand Jvm.Pilot.@@N@@.Jvm.D
/-! MADE BY PROGRAM (witnessworld.py) out of the Statement's table words and the real class files: 12 classes; the members and pool entries that the words name. The judged class is class 1, her method 1. -/
namespace start1
open Jvm.ClassFile
def u (s : String) : CpInfo := .utf8 (stringToUtf16 s)
/-- a pool by its gaps: so many unusable entries, then the entry; so many at the end -/
def gap : Nat → List CpInfo → List CpInfo
  | 0, r => r
  | n + 1, r => .unusable :: gap n r
def poolList (es : List (Nat × CpInfo)) (last : Nat) : List CpInfo := es.foldr (fun e r => gap e.1 (e.2 :: r)) (gap last [])
def pool (es : List (Nat × CpInfo)) (last : Nat) : Array CpInfo := ⟨poolList es last⟩
def fileOf (pool : Array CpInfo) (this : Nat) (attrs : Array Attribute := #[]) (ms : Array MethodInfo := #[]) (fl : Nat := 33) (sup : Nat := 0) (ifs : Array Nat := #[]) (fds : Array FieldInfo := #[]) : ClassFile where
  minorVersion := 0
  majorVersion := 65
  constantPool := pool
  accessFlags := fl
  thisClass := this
  superClass := sup
  interfaces := ifs
  fields := fds
  methods := ms
  attributes := attrs
def plain (name : String) (sup : Option ClassId) : Class where
  name := name
  kind := .ordinary
  loader := none
  accessFlags := 33
  super := sup
  interfaces := #[]
  cf := none
  fields := #[]
  methods := #[]
  instanceTypes := #[]
  staticTypes := #[]
  resolved := #[]
  callSites := []
  init := .initialized
  statics := none
  mirror := none

def pool0 : Array CpInfo := pool [(5, u "<init>"), (0, u "()V"), (1, .class_ 10), (1, u "java/lang/Object")] 113

def k0c0 : Code := { maxStack := 0, maxLocals := 1, code := object_method_1_code, exceptionTable := #[], attributes := #[] }
def k0m0 : Method := { name := "<init>", desc := "()V", sig := { parameters := [], returnType := none }, accessFlags := 1, code := some k0c0 }
/-- java/lang/Object -/
def k0 : Class := { plain "java/lang/Object" none with
  accessFlags := 33
  interfaces := #[]
  cf := some (fileOf pool0 8 #[] #[{ accessFlags := 1, nameIndex := 5, descriptorIndex := 6, attributes := #[] }] 33 0 #[] #[])
  fields := #[]
  methods := #[k0m0]
  instanceTypes := #[]
  staticTypes := #[]
  resolved := Array.replicate 124 none
  statics := none }

def pool1 : Array CpInfo := pool [(2, .class_ 4), (0, .nameAndType 5 6), (0, u "java/lang/Object"), (0, u "<init>"), (0, u "()V"), (0, .methodref 8 9), (0, .class_ 10), (0, .nameAndType 11 12), (0, u "com/example/doubs/doubs/live/RunTimesAddPinLaw"), (0, u "fill"), (0, u "([JJJ)V"), (0, .class_ 14), (0, u "com/example/doubs/doubs/live/RunTimes"), (0, .methodref 13 3), (0, .methodref 13 17), (0, .nameAndType 18 19), (0, u "locks"), (0, u "()I"), (0, .methodref 13 21), (0, .nameAndType 22 12), (0, u "add"), (2, u "law"), (0, u "(IIJJJJ)Z")] 5

def k1m0 : Method := { name := "<init>", desc := "()V", sig := { parameters := [], returnType := none }, accessFlags := 1, code := none }
def k1c1 : Code := { maxStack := 6, maxLocals := 16, code := code, exceptionTable := #[], attributes := #[] }
def k1m1 : Method := { name := "law", desc := "(IIJJJJ)Z", sig := { parameters := [.int, .int, .long, .long, .long, .long], returnType := some .boolean }, accessFlags := 9, code := some k1c1 }
def k1c2 : Code := { maxStack := 6, maxLocals := 5, code := method_3_code, exceptionTable := #[], attributes := #[] }
def k1m2 : Method := { name := "fill", desc := "([JJJ)V", sig := { parameters := [(.array .long), .long, .long], returnType := none }, accessFlags := 10, code := some k1c2 }
/-- com/example/doubs/doubs/live/RunTimesAddPinLaw -/
def k1 : Class := { plain "com/example/doubs/doubs/live/RunTimesAddPinLaw" (some 0) with
  accessFlags := 49
  interfaces := #[]
  cf := some (fileOf pool1 8 #[] #[{ accessFlags := 1, nameIndex := 5, descriptorIndex := 6, attributes := #[] }, { accessFlags := 9, nameIndex := 25, descriptorIndex := 26, attributes := #[] }, { accessFlags := 10, nameIndex := 11, descriptorIndex := 12, attributes := #[] }] 49 2 #[] #[])
  fields := #[]
  methods := #[k1m0, k1m1, k1m2]
  instanceTypes := #[]
  staticTypes := #[]
  resolved := Array.replicate 32 none
  statics := none }

def pool2 : Array CpInfo := pool [(1, .methodref 2 3), (0, .class_ 4), (0, .nameAndType 5 6), (0, u "java/lang/Object"), (0, u "<init>"), (0, u "()V"), (2, .long 9223372036854775807), (1, .fieldref 12 13), (0, .class_ 14), (0, .nameAndType 15 16), (0, u "com/example/doubs/doubs/live/RunTimes"), (0, u "firstRequest"), (0, u "J"), (0, .long 9223372036854775808), (1, .fieldref 12 20), (0, .nameAndType 21 16), (0, u "lastRelease"), (0, .fieldref 12 23), (0, .nameAndType 24 16), (0, u "totalWait"), (0, .fieldref 12 26), (0, .nameAndType 27 16), (0, u "maxWait"), (0, .methodref 29 30), (0, .class_ 31), (0, .nameAndType 32 33), (0, u "java/lang/Math"), (0, u "max"), (0, u "(JJ)J"), (0, .fieldref 12 35), (0, .nameAndType 36 37), (0, u "locks"), (0, u "I"), (0, .methodref 29 39), (0, .nameAndType 40 33), (0, u "min"), (31, u "DECIMALS"), (2, u "NANOS_PER_MILLI_DIGITS"), (1, u "NANOS_PER_SECOND_DIGITS"), (3, u "add"), (0, u "([JJJ)V"), (3, u "()I")] 7

def k2c0 : Code := { maxStack := 3, maxLocals := 1, code := prog_46_method_1_code, exceptionTable := #[], attributes := #[] }
def k2m0 : Method := { name := "<init>", desc := "()V", sig := { parameters := [], returnType := none }, accessFlags := 1, code := some k2c0 }
def k2c1 : Code := { maxStack := 5, maxLocals := 11, code := prog_46_method_2_code, exceptionTable := #[], attributes := #[] }
def k2m1 : Method := { name := "add", desc := "([JJJ)V", sig := { parameters := [(.array .long), .long, .long], returnType := none }, accessFlags := 1, code := some k2c1 }
def k2c2 : Code := { maxStack := 1, maxLocals := 1, code := prog_46_method_3_code, exceptionTable := #[], attributes := #[] }
def k2m2 : Method := { name := "locks", desc := "()I", sig := { parameters := [], returnType := some .int }, accessFlags := 1, code := some k2c2 }
/-- com/example/doubs/doubs/live/RunTimes -/
def k2 : Class := { plain "com/example/doubs/doubs/live/RunTimes" (some 0) with
  accessFlags := 49
  interfaces := #[]
  cf := some (fileOf pool2 12 #[] #[{ accessFlags := 1, nameIndex := 5, descriptorIndex := 6, attributes := #[] }, { accessFlags := 1, nameIndex := 81, descriptorIndex := 82, attributes := #[] }, { accessFlags := 1, nameIndex := 36, descriptorIndex := 86, attributes := #[] }] 49 2 #[] #[{ accessFlags := 26, nameIndex := 72, descriptorIndex := 37, attributes := #[] }, { accessFlags := 26, nameIndex := 75, descriptorIndex := 37, attributes := #[] }, { accessFlags := 26, nameIndex := 77, descriptorIndex := 37, attributes := #[] }, { accessFlags := 2, nameIndex := 36, descriptorIndex := 37, attributes := #[] }, { accessFlags := 2, nameIndex := 24, descriptorIndex := 16, attributes := #[] }, { accessFlags := 2, nameIndex := 27, descriptorIndex := 16, attributes := #[] }, { accessFlags := 2, nameIndex := 15, descriptorIndex := 16, attributes := #[] }, { accessFlags := 2, nameIndex := 21, descriptorIndex := 16, attributes := #[] }])
  fields := #[{ name := "DECIMALS", type := .int, accessFlags := 26, slot := 0, constantValue := 0 }, { name := "NANOS_PER_MILLI_DIGITS", type := .int, accessFlags := 26, slot := 1, constantValue := 0 }, { name := "NANOS_PER_SECOND_DIGITS", type := .int, accessFlags := 26, slot := 2, constantValue := 0 }, { name := "locks", type := .int, accessFlags := 2, slot := 0, constantValue := 0 }, { name := "totalWait", type := .long, accessFlags := 2, slot := 1, constantValue := 0 }, { name := "maxWait", type := .long, accessFlags := 2, slot := 2, constantValue := 0 }, { name := "firstRequest", type := .long, accessFlags := 2, slot := 3, constantValue := 0 }, { name := "lastRelease", type := .long, accessFlags := 2, slot := 4, constantValue := 0 }]
  methods := #[k2m0, k2m1, k2m2]
  instanceTypes := #[.int, .long, .long, .long, .long]
  staticTypes := #[.int, .int, .int]
  resolved := Array.replicate 94 none
  statics := none }

def pool3 : Array CpInfo := pool [(1, .class_ 2), (0, u "java/lang/Math"), (1, .class_ 6), (1, u "java/lang/Object"), (0, u "<init>"), (0, u "()V"), (89, .class_ 100), (1, u "java/lang/Math$RandomNumberGeneratorHolder"), (20, u "(JJ)J"), (50, u "negativeZeroFloatBits"), (0, u "J"), (2, u "negativeZeroDoubleBits"), (21, u "max"), (2, u "min"), (43, u "$assertionsDisabled"), (0, u "Z"), (91, u "twoToTheDoubleScaleDown"), (0, u "D"), (4, u "twoToTheDoubleScaleUp"), (9, u "E"), (3, u "PI"), (2, u "TAU"), (2, u "DEGREES_TO_RADIANS"), (0, u "RADIANS_TO_DEGREES")] 94

def k3m0 : Method := { name := "<init>", desc := "()V", sig := { parameters := [], returnType := none }, accessFlags := 2, code := none }
def k3c1 : Code := { maxStack := 4, maxLocals := 4, code := jdk_29_method_66_code, exceptionTable := #[], attributes := #[] }
def k3m1 : Method := { name := "max", desc := "(JJ)J", sig := { parameters := [.long, .long], returnType := some .long }, accessFlags := 9, code := some k3c1 }
def k3c2 : Code := { maxStack := 4, maxLocals := 4, code := jdk_29_method_70_code, exceptionTable := #[], attributes := #[] }
def k3m2 : Method := { name := "min", desc := "(JJ)J", sig := { parameters := [.long, .long], returnType := some .long }, accessFlags := 9, code := some k3c2 }
/-- java/lang/Math -/
def k3 : Class := { plain "java/lang/Math" (some 0) with
  accessFlags := 49
  interfaces := #[]
  cf := some (fileOf pool3 1 #[.nestMembers #[98]] #[{ accessFlags := 2, nameIndex := 7, descriptorIndex := 8, attributes := #[] }, { accessFlags := 9, nameIndex := 198, descriptorIndex := 121, attributes := #[] }, { accessFlags := 9, nameIndex := 201, descriptorIndex := 121, attributes := #[] }] 49 4 #[] #[{ accessFlags := 25, nameIndex := 354, descriptorIndex := 339, attributes := #[] }, { accessFlags := 25, nameIndex := 358, descriptorIndex := 339, attributes := #[] }, { accessFlags := 25, nameIndex := 361, descriptorIndex := 339, attributes := #[] }, { accessFlags := 26, nameIndex := 364, descriptorIndex := 339, attributes := #[] }, { accessFlags := 26, nameIndex := 365, descriptorIndex := 339, attributes := #[] }, { accessFlags := 26, nameIndex := 172, descriptorIndex := 173, attributes := #[] }, { accessFlags := 26, nameIndex := 176, descriptorIndex := 173, attributes := #[] }, { accessFlags := 8, nameIndex := 344, descriptorIndex := 339, attributes := #[] }, { accessFlags := 8, nameIndex := 338, descriptorIndex := 339, attributes := #[] }, { accessFlags := 4120, nameIndex := 245, descriptorIndex := 246, attributes := #[] }])
  fields := #[{ name := "E", type := .double, accessFlags := 25, slot := 0, constantValue := 0 }, { name := "PI", type := .double, accessFlags := 25, slot := 1, constantValue := 0 }, { name := "TAU", type := .double, accessFlags := 25, slot := 2, constantValue := 0 }, { name := "DEGREES_TO_RADIANS", type := .double, accessFlags := 26, slot := 3, constantValue := 0 }, { name := "RADIANS_TO_DEGREES", type := .double, accessFlags := 26, slot := 4, constantValue := 0 }, { name := "negativeZeroFloatBits", type := .long, accessFlags := 26, slot := 5, constantValue := 0 }, { name := "negativeZeroDoubleBits", type := .long, accessFlags := 26, slot := 6, constantValue := 0 }, { name := "twoToTheDoubleScaleUp", type := .double, accessFlags := 8, slot := 7, constantValue := 0 }, { name := "twoToTheDoubleScaleDown", type := .double, accessFlags := 8, slot := 8, constantValue := 0 }, { name := "$assertionsDisabled", type := .boolean, accessFlags := 4120, slot := 9, constantValue := 0 }]
  methods := #[k3m0, k3m1, k3m2]
  instanceTypes := #[]
  staticTypes := #[.double, .double, .double, .double, .double, .long, .long, .double, .double, .boolean]
  resolved := Array.replicate 460 none
  statics := none }

def pool4 : Array CpInfo := pool [(1, u "java/lang/Cloneable"), (0, .class_ 1), (0, u "java/lang/Object"), (0, .class_ 3)] 3

/-- java/lang/Cloneable -/
def k4 : Class := { plain "java/lang/Cloneable" (some 0) with
  accessFlags := 1537
  interfaces := #[]
  cf := some (fileOf pool4 2 #[] #[] 1537 4 #[] #[])
  fields := #[]
  methods := #[]
  instanceTypes := #[]
  staticTypes := #[]
  resolved := Array.replicate 8 none
  statics := none }

def pool5 : Array CpInfo := pool [(1, u "java/io/Serializable"), (0, .class_ 1), (0, u "java/lang/Object"), (0, .class_ 3)] 3

/-- java/io/Serializable -/
def k5 : Class := { plain "java/io/Serializable" (some 0) with
  accessFlags := 1537
  interfaces := #[]
  cf := some (fileOf pool5 2 #[] #[] 1537 4 #[] #[])
  fields := #[]
  methods := #[]
  instanceTypes := #[]
  staticTypes := #[]
  resolved := Array.replicate 8 none
  statics := none }

/-- the primitive byte -/
def k6 : Class := { plain "byte" none with kind := .primitive 'B', accessFlags := 0x411 }
/-- [B -/
def k7 : Class := { plain "[B" (some 0) with kind := .array 6 .byte, interfaces := #[4, 5], accessFlags := 1041 }

/-- the primitive int -/
def k8 : Class := { plain "int" none with kind := .primitive 'I', accessFlags := 0x411 }
/-- [I -/
def k9 : Class := { plain "[I" (some 0) with kind := .array 8 .int, interfaces := #[4, 5], accessFlags := 1041 }

/-- the primitive long -/
def k10 : Class := { plain "long" none with kind := .primitive 'J', accessFlags := 0x411 }
/-- [J -/
def k11 : Class := { plain "[J" (some 0) with kind := .array 10 .long, interfaces := #[4, 5], accessFlags := 1041 }

def heap : Heap := #[]
def classes : Array Class := #[k0, k1, k2, k3, k4, k5, k6, k7, k8, k9, k10, k11]
def interned : List (Array UInt16 × Addr) := []
def slotsUsed : Nat := 0
def theMethod : MethodId := ⟨1, 1⟩
def args0 : Array Value := #[.int 5, .int 5, .long 5, .long 5, .long 5, .long 5]
def aboutOver (below : List Frame) : State where
  vm := { classes := classes, interned := interned.toArray }
  heap := heap
  slotsUsed := slotsUsed
  threads := #[{ frames := .invoking theMethod args0 :: below }]
def below0 : List Frame := [.native { method := ⟨0, 0⟩, args := #[] }]
def about1 : State := aboutOver below0
def p0 : Program := .bare "" "" ""
def e0 : Env := launch0.env 0 0 0
theorem w_frames : about1.frames = Frame.invoking theMethod args0 :: below0 := rfl
set_option maxRecDepth 65536 in
theorem w_args : argsFit about1.vm theMethod args0 = true := by decide +kernel
set_option maxRecDepth 65536 in
theorem w_heap : heapFits about1 = true := by decide +kernel
set_option maxRecDepth 65536 in
theorem w_runnable : about1.curStatus? = some .runnable := by decide +kernel
set_option maxRecDepth 65536 in
theorem w_alone : about1.alone = true := by decide +kernel
set_option maxRecDepth 65536 in
theorem w_named : about1.methodNamed? x = some theMethod := by decide +kernel
set_option maxRecDepth 65536 in
theorem w_hears : about1.hears theMethod below0 = true := by decide +kernel
set_option maxRecDepth 65536 in
theorem w_ripe : about1.ripe theMethod args0 below0 = true := by decide +kernel
theorem w_running : about1.status = .running := rfl
set_option maxRecDepth 65536 in
theorem w_room : about1.hasRoom e0.platform room_1 = true :=
  launch0.hasRoom_least _ room_1 (by decide +kernel) (by decide +kernel) (by decide +kernel) (by decide +kernel) (by decide +kernel) (by decide +kernel)
theorem allAtoms_all (ts : List Jvm.Cond) (a : Array Jvm.Value) (st : Jvm.State) : (allAtoms ts).before a st = ts.all (fun c => c.before a st) := by
  induction ts with
  | nil => rfl
  | cons c t ih =>
    show (Jvm.Cond.and c (allAtoms t)).before a st = _
    rw [Jvm.Cond.before_and, ih, List.all_cons]
def words1 : List Jvm.Cond := Jvm.Cond.code x code maxLocals ret :: tables_1
/-- a 'code' word, met by the world's own term for the bytes: nothing is compared byte by byte -/
theorem code_word {y : MethodName} {bytes : ByteArray} {mx : Nat} {rt : Option FieldType} {a : Array Value} {s : State} {m : MethodId} {meth : Method} {c : Code} (h1 : s.methodNamed? y = some m) (h2 : s.vm.method? m = some meth) (h3 : meth.code = some c) (h4 : c.code = bytes)
    (h5 : (c.maxLocals == mx && c.exceptionTable.isEmpty && decide (c.maxStack ≤ mostOperands) && decide (meth.sig.returnType = rt) && !meth.locks && decide (parseMethodDescriptor y.desc = some meth.sig)) = true) : (Jvm.Cond.code y bytes mx rt).before a s = true := by
  simp only [Bool.and_eq_true, beq_iff_eq, Bool.not_eq_true', decide_eq_true_eq] at h5
  obtain ⟨⟨⟨⟨⟨g1, g2⟩, g3⟩, g4⟩, g5⟩, g6⟩ := h5
  simp [Cond.before, Cond.holds, Cond.value, h1, h2, h3, h4, g1, g2, g3, g4, g5, g6]
def isCode : Jvm.Cond → Bool
  | .code _ _ _ _ => true
  | _ => false
theorem all_split {L : List Jvm.Cond} {P : Jvm.Cond → Bool} (h1 : L.all (fun c => isCode c || P c) = true) (h2 : ∀ c ∈ L.filter isCode, P c = true) : L.all P = true := by
  refine List.all_eq_true.mpr fun c hc => ?_
  have h := List.all_eq_true.mp h1 c hc
  rcases Bool.eq_false_or_eq_true (isCode c) with hi | hi
  · exact h2 c (List.mem_filter.mpr ⟨hc, hi⟩)
  · simpa [hi] using h
set_option maxRecDepth 65536 in
theorem w_c0 : (Jvm.Cond.code x code maxLocals ret).before args0 about1 = true := code_word (m := ⟨1, 1⟩) (meth := k1m1) (c := k1c1) (by decide +kernel) rfl rfl rfl (by decide +kernel)
set_option maxRecDepth 65536 in
theorem w_c1 : (Jvm.Cond.code ({ cls := "com/example/doubs/doubs/live/RunTimesAddPinLaw", name := "fill", desc := "([JJJ)V" } : Jvm.MethodName) method_3_code (5 : Nat) (Option.none : Option Jvm.ClassFile.FieldType)).before args0 about1 = true := code_word (m := ⟨1, 2⟩) (meth := k1m2) (c := k1c2) (by decide +kernel) rfl rfl rfl (by decide +kernel)
set_option maxRecDepth 65536 in
theorem w_c2 : (Jvm.Cond.code ({ cls := "com/example/doubs/doubs/live/RunTimes", name := "<init>", desc := "()V" } : Jvm.MethodName) prog_46_method_1_code (1 : Nat) (Option.none : Option Jvm.ClassFile.FieldType)).before args0 about1 = true := code_word (m := ⟨2, 0⟩) (meth := k2m0) (c := k2c0) (by decide +kernel) rfl rfl rfl (by decide +kernel)
set_option maxRecDepth 65536 in
theorem w_c3 : (Jvm.Cond.code ({ cls := "java/lang/Object", name := "<init>", desc := "()V" } : Jvm.MethodName) object_method_1_code (1 : Nat) (Option.none : Option Jvm.ClassFile.FieldType)).before args0 about1 = true := code_word (m := ⟨0, 0⟩) (meth := k0m0) (c := k0c0) (by decide +kernel) rfl rfl rfl (by decide +kernel)
set_option maxRecDepth 65536 in
theorem w_c4 : (Jvm.Cond.code ({ cls := "com/example/doubs/doubs/live/RunTimes", name := "locks", desc := "()I" } : Jvm.MethodName) prog_46_method_3_code (1 : Nat) (Option.some Jvm.ClassFile.FieldType.int)).before args0 about1 = true := code_word (m := ⟨2, 2⟩) (meth := k2m2) (c := k2c2) (by decide +kernel) rfl rfl rfl (by decide +kernel)
set_option maxRecDepth 65536 in
theorem w_c5 : (Jvm.Cond.code ({ cls := "com/example/doubs/doubs/live/RunTimes", name := "add", desc := "([JJJ)V" } : Jvm.MethodName) prog_46_method_2_code (11 : Nat) (Option.none : Option Jvm.ClassFile.FieldType)).before args0 about1 = true := code_word (m := ⟨2, 1⟩) (meth := k2m1) (c := k2c1) (by decide +kernel) rfl rfl rfl (by decide +kernel)
set_option maxRecDepth 65536 in
theorem w_c6 : (Jvm.Cond.code ({ cls := "java/lang/Math", name := "max", desc := "(JJ)J" } : Jvm.MethodName) jdk_29_method_66_code (4 : Nat) (Option.some Jvm.ClassFile.FieldType.long)).before args0 about1 = true := code_word (m := ⟨3, 1⟩) (meth := k3m1) (c := k3c1) (by decide +kernel) rfl rfl rfl (by decide +kernel)
set_option maxRecDepth 65536 in
theorem w_c7 : (Jvm.Cond.code ({ cls := "java/lang/Math", name := "min", desc := "(JJ)J" } : Jvm.MethodName) jdk_29_method_70_code (4 : Nat) (Option.some Jvm.ClassFile.FieldType.long)).before args0 about1 = true := code_word (m := ⟨3, 2⟩) (meth := k3m2) (c := k3c2) (by decide +kernel) rfl rfl rfl (by decide +kernel)
def codes1 : List Jvm.Cond := [Jvm.Cond.code x code maxLocals ret, Jvm.Cond.code ({ cls := "com/example/doubs/doubs/live/RunTimesAddPinLaw", name := "fill", desc := "([JJJ)V" } : Jvm.MethodName) method_3_code (5 : Nat) (Option.none : Option Jvm.ClassFile.FieldType), Jvm.Cond.code ({ cls := "com/example/doubs/doubs/live/RunTimes", name := "<init>", desc := "()V" } : Jvm.MethodName) prog_46_method_1_code (1 : Nat) (Option.none : Option Jvm.ClassFile.FieldType), Jvm.Cond.code ({ cls := "java/lang/Object", name := "<init>", desc := "()V" } : Jvm.MethodName) object_method_1_code (1 : Nat) (Option.none : Option Jvm.ClassFile.FieldType), Jvm.Cond.code ({ cls := "com/example/doubs/doubs/live/RunTimes", name := "locks", desc := "()I" } : Jvm.MethodName) prog_46_method_3_code (1 : Nat) (Option.some Jvm.ClassFile.FieldType.int), Jvm.Cond.code ({ cls := "com/example/doubs/doubs/live/RunTimes", name := "add", desc := "([JJJ)V" } : Jvm.MethodName) prog_46_method_2_code (11 : Nat) (Option.none : Option Jvm.ClassFile.FieldType), Jvm.Cond.code ({ cls := "java/lang/Math", name := "max", desc := "(JJ)J" } : Jvm.MethodName) jdk_29_method_66_code (4 : Nat) (Option.some Jvm.ClassFile.FieldType.long), Jvm.Cond.code ({ cls := "java/lang/Math", name := "min", desc := "(JJ)J" } : Jvm.MethodName) jdk_29_method_70_code (4 : Nat) (Option.some Jvm.ClassFile.FieldType.long)]
set_option maxRecDepth 65536 in
theorem codes_eq : words1.filter isCode = codes1 := rfl
theorem w_codes : ∀ c ∈ words1.filter isCode, c.before args0 about1 = true := by
  rw [codes_eq]
  intro c hc
  simp only [codes1, List.mem_cons, List.not_mem_nil, or_false] at hc
  rcases hc with rfl | rfl | rfl | rfl | rfl | rfl | rfl | rfl
  · exact w_c0
  · exact w_c1
  · exact w_c2
  · exact w_c3
  · exact w_c4
  · exact w_c5
  · exact w_c6
  · exact w_c7
set_option maxRecDepth 65536 in
theorem w_t1 : (words1.take 24).all (fun c => isCode c || c.before args0 about1) = true := by decide +kernel
set_option maxRecDepth 65536 in
theorem w_t2 : (words1.drop 24).all (fun c => isCode c || c.before args0 about1) = true := by decide +kernel
theorem w_tables : (allAtoms (Jvm.Cond.code x code maxLocals ret :: tables_1)).before args0 about1 = true := by
  rw [allAtoms_all]
  show words1.all (fun c => c.before args0 about1) = true
  refine all_split ?_ w_codes
  rw [← List.take_append_drop 24 words1, List.all_append, w_t1, w_t2]
  rfl
set_option maxRecDepth 65536 in
theorem w_case : (Jvm.Cond.and given_1 narrow_1).before args0 about1 = true := by decide +kernel
theorem w_applies : (headSpec (Jvm.Cond.code x code maxLocals ret :: tables_1) room_1).applies x e0.platform about1 = true :=
  (Spec.applies_iff w_frames).mpr ⟨w_running, w_runnable, w_alone, w_named, w_hears, w_ripe, w_room, w_tables⟩
theorem atStart : AtStart classFile x code maxLocals ret World_1 tables_1 room_1 Calls_1 rest_1 Pre_1 launch0 p0 e0 about1 theMethod args0 below0 :=
  ⟨lists_1, trivial, launch0.admits_env _ _ _, launch0.least_env, fairChoices_fair.cas, fairChoices_fair.clock, w_frames, w_args, w_heap, w_applies, trivial, trivial, w_case⟩
end start1
theorem witness_1 : WitnessClaimed_1 := ⟨start1.p0, start1.e0, start1.about1, start1.theMethod, start1.args0, start1.below0, start1.atStart⟩
end Jvm.Pilot.@@N@@
