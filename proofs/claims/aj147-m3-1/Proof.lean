import JvmDerived
import JvmDerived.Pilot.@@N@@Statement
import JvmDerived.Pilot.@@N@@Code
set_option linter.unusedVariables false
set_option linter.unusedSimpArgs false
@@BLOCK:NumsL.lean.txt@@
namespace Jvm.RoadKit
open Sem ClassFile Op Lib Jvm.Stand Jvm.Free Jvm.LawKit
section New
variable {p : Program} {l : Launch} {e : Env} {R : Room} {s : State} {m : MethodId} {args : Array Value} {below : List Frame} {meth : Method} {c : Code} {T : State} {locs : List Loc} {cells slots : Nat}
theorem retI (X : Stand p l e R s m args below meth c T locs cells slots) (hx : p.tables.exec = Jvm.exec) {pc : Nat} {Ls : Array Slot} {z : Int32} {rest : List Value} (hret : meth.sig.returnType = some .int) (hd : decode c.code pc = .ok (.ireturn, 1)) {fs : List Frame}
    (hl : ∀ (f : JFrame) (acts : List Action), f.method = m → f.locked = none → f.entered = [] → (doReturn e (T.setTop f) acts (some (.int z))).1 = T.setFrames fs) : Steps p.tables e below (T.setTop (mkF m pc Ls (.int z :: rest))) (T.setFrames fs) := by
  have hm' : T.vm.method? m = some meth := X.method'
  have hn : narrow .int (.int z) = .int z := rfl
  show Steps p.tables e below (T.setTop { method := m, pc := pc, locals := Ls, stack := _ :: rest, locked := none }) _
  jvm_step X.here [X.here.top, hx, hd, hm', hret, hn]
  first | (intro acts; rw [hl _ acts rfl rfl rfl]) | rw [hl _ _ rfl rfl rfl]
  exact Steps.refl _
end New
end Jvm.RoadKit
namespace Jvm.Pilot.@@N@@
open Jvm Jvm.ClassFile Sem Op Lib Jvm.Free Jvm.Stand Jvm.LawKit Jvm.RoadKit Bundle Jvm.Pilot.@@N@@.Jvm.D
/-! OWN KIT: a run that comes to an end, one law an instruction, arrays as lists (written once, pasted by wip/gen/lawgen.py) -/
section OwnKit
variable {p : Program} {l : Launch} {e : Env} {R : Room} {s : State} {m : MethodId} {args : Array Value} {below : List Frame} {meth : Method} {c : Code} {T T' : State} {locs : List Loc} {cells slots : Nat} {Z : State} {a0 : Array Value} {h h' : Heap}
variable {Q : Outcome → State → Prop} {K : Option Value → Heap → List Loc → Prop} {cc ss : Nat}
variable {pc pc' pc1 pc2 : Nat} {Ls l' : Array Slot} {rest : List Value} {x y : Int32} {u w : Int64}
/-- from T, with g on top, the run comes to an end of which Q holds -/
def own_Go (p : Program) (e : Env) (below : List Frame) (Q : Outcome → State → Prop) (T : State) (g : JFrame) : Prop :=
  ∃ s₂ o, Steps p.tables e below (T.setTop g) s₂ ∧ s₂.status = .running ∧ Ended s₂ below o ∧ Q o s₂
/-- what a body's end says: it returned, K holds of the value, the heap and the old places written -/
def own_Q (s : State) (K : Option Value → Heap → List Loc → Prop) (cc ss : Nat) : Outcome → State → Prop := fun o t => ∃ v L, o = .returned v ∧ K v t.heap L ∧ FrameEnd s o t L cc ss
/-- what stands fast in one body -/
def own_Cx (p : Program) (s : State) (m : MethodId) (meth : Method) (c : Code) (Z : State) (a0 : Array Value) (bytes : ByteArray) (ml : Nat) (own : String) (rt : Option FieldType) (nm : String) : Prop :=
  p.tables.exec = Jvm.exec ∧ Z.Warmed39 s.vm ∧ (∀ d ∈ tables_1, d.before a0 Z = true) ∧ c.code = bytes ∧ c.maxLocals = ml ∧ s.vm.findClass own = some m.cls ∧ meth.sig.returnType = rt ∧ meth.locks = false ∧ meth.name = nm
theorem own_go {g g' : JFrame} (st : ∀ t, Steps p.tables e below (T'.setTop g') t → Steps p.tables e below (T.setTop g) t) (k : own_Go p e below Q T' g') : own_Go p e below Q T g := by
  obtain ⟨s₂, o, h1, h2⟩ := k
  exact ⟨s₂, o, st _ h1, h2⟩
theorem o_iloadN (X : Stand p l e R s m args below meth c T locs cells slots) (hx : p.tables.exec = Jvm.exec) {k : Fin 4} {v : Int32} (hd : decode c.code pc = .ok (.iload_n k, 1)) (hl : Ls[k.val]? = some (.val (.int v))) (hp : pc + 1 = pc') (q : own_Go p e below Q T (mkF m pc' Ls (.int v :: rest))) : own_Go p e below Q T (mkF m pc Ls rest) := by
  subst hp; exact own_go (fun t k' => XS.iloadN X.here hx rfl hd hl k') q
theorem o_iload (X : Stand p l e R s m args below meth c T locs cells slots) (hx : p.tables.exec = Jvm.exec) {k : Nat} {v : Int32} (hd : decode c.code pc = .ok (.iload k, 2)) (hl : Ls[k]? = some (.val (.int v))) (hp : pc + 2 = pc') (q : own_Go p e below Q T (mkF m pc' Ls (.int v :: rest))) : own_Go p e below Q T (mkF m pc Ls rest) := by
  subst hp; exact own_go (fun t k' => XS.iload X.here hx rfl hd hl k') q
theorem o_lloadN (X : Stand p l e R s m args below meth c T locs cells slots) (hx : p.tables.exec = Jvm.exec) {k : Fin 4} {v : Int64} (hd : decode c.code pc = .ok (.lload_n k, 1)) (hl : Ls[k.val]? = some (.val (.long v))) (hp : pc + 1 = pc') (q : own_Go p e below Q T (mkF m pc' Ls (.long v :: rest))) : own_Go p e below Q T (mkF m pc Ls rest) := by
  subst hp; exact own_go (fun t k' => XS.lloadN X.here hx rfl hd hl k') q
theorem o_lload (X : Stand p l e R s m args below meth c T locs cells slots) (hx : p.tables.exec = Jvm.exec) {k : Nat} {v : Int64} (hd : decode c.code pc = .ok (.lload k, 2)) (hl : Ls[k]? = some (.val (.long v))) (hp : pc + 2 = pc') (q : own_Go p e below Q T (mkF m pc' Ls (.long v :: rest))) : own_Go p e below Q T (mkF m pc Ls rest) := by
  subst hp; exact own_go (fun t k' => XS.lload X.here hx rfl hd hl k') q
theorem o_aloadN (X : Stand p l e R s m args below meth c T locs cells slots) (hx : p.tables.exec = Jvm.exec) {k : Fin 4} {v : Value} (hd : decode c.code pc = .ok (.aload_n k, 1)) (hl : Ls[k.val]? = some (.val v)) (hv : v.isRef = true) (hp : pc + 1 = pc') (q : own_Go p e below Q T (mkF m pc' Ls (v :: rest))) : own_Go p e below Q T (mkF m pc Ls rest) := by
  subst hp; exact own_go (fun t k' => XS.aloadN X.here hx rfl hd hl hv k') q
theorem o_aload (X : Stand p l e R s m args below meth c T locs cells slots) (hx : p.tables.exec = Jvm.exec) {k : Nat} {v : Value} (hd : decode c.code pc = .ok (.aload k, 2)) (hl : Ls[k]? = some (.val v)) (hv : v.isRef = true) (hp : pc + 2 = pc') (q : own_Go p e below Q T (mkF m pc' Ls (v :: rest))) : own_Go p e below Q T (mkF m pc Ls rest) := by
  subst hp; exact own_go (fun t k' => XS.aload X.here hx rfl hd hl hv k') q
theorem o_istoreN (X : Stand p l e R s m args below meth c T locs cells slots) (hx : p.tables.exec = Jvm.exec) {k : Fin 4} (hd : decode c.code pc = .ok (.istore_n k, 1)) (hl : storeLocals Ls k.val (.int x) = some l') (hp : pc + 1 = pc') (q : own_Go p e below Q T (mkF m pc' l' rest)) : own_Go p e below Q T (mkF m pc Ls (.int x :: rest)) := by
  subst hp; exact own_go (fun t k' => XS.istoreN X.here hx rfl hd rfl hl k') q
theorem o_istore (X : Stand p l e R s m args below meth c T locs cells slots) (hx : p.tables.exec = Jvm.exec) {k : Nat} (hd : decode c.code pc = .ok (.istore k, 2)) (hl : storeLocals Ls k (.int x) = some l') (hp : pc + 2 = pc') (q : own_Go p e below Q T (mkF m pc' l' rest)) : own_Go p e below Q T (mkF m pc Ls (.int x :: rest)) := by
  subst hp; exact own_go (fun t k' => XS.istore X.here hx rfl hd rfl hl k') q
theorem o_lstoreN (X : Stand p l e R s m args below meth c T locs cells slots) (hx : p.tables.exec = Jvm.exec) {k : Fin 4} (hd : decode c.code pc = .ok (.lstore_n k, 1)) (hl : storeLocals Ls k.val (.long u) = some l') (hp : pc + 1 = pc') (q : own_Go p e below Q T (mkF m pc' l' rest)) : own_Go p e below Q T (mkF m pc Ls (.long u :: rest)) := by
  subst hp; exact own_go (fun t k' => XS.lstoreN X.here hx rfl hd rfl hl k') q
theorem o_lstore (X : Stand p l e R s m args below meth c T locs cells slots) (hx : p.tables.exec = Jvm.exec) {k : Nat} (hd : decode c.code pc = .ok (.lstore k, 2)) (hl : storeLocals Ls k (.long u) = some l') (hp : pc + 2 = pc') (q : own_Go p e below Q T (mkF m pc' l' rest)) : own_Go p e below Q T (mkF m pc Ls (.long u :: rest)) := by
  subst hp; exact own_go (fun t k' => XS.lstore X.here hx rfl hd rfl hl k') q
theorem o_astoreN (X : Stand p l e R s m args below meth c T locs cells slots) (hx : p.tables.exec = Jvm.exec) {k : Fin 4} {v : Value} (hd : decode c.code pc = .ok (.astore_n k, 1)) (hv : v.isRef = true) (hl : storeLocals Ls k.val v = some l') (hp : pc + 1 = pc') (q : own_Go p e below Q T (mkF m pc' l' rest)) : own_Go p e below Q T (mkF m pc Ls (v :: rest)) := by
  subst hp; exact own_go (fun t k' => XS.astoreN X.here hx rfl hd rfl hv hl k') q
theorem o_astore (X : Stand p l e R s m args below meth c T locs cells slots) (hx : p.tables.exec = Jvm.exec) {k : Nat} {v : Value} (hd : decode c.code pc = .ok (.astore k, 2)) (hv : v.isRef = true) (hl : storeLocals Ls k v = some l') (hp : pc + 2 = pc') (q : own_Go p e below Q T (mkF m pc' l' rest)) : own_Go p e below Q T (mkF m pc Ls (v :: rest)) := by
  subst hp; exact own_go (fun t k' => XS.astore X.here hx rfl hd rfl hv hl k') q
theorem o_iconst (X : Stand p l e R s m args below meth c T locs cells slots) (hx : p.tables.exec = Jvm.exec) {i : Int} (hd : decode c.code pc = .ok (.iconst i, 1)) (hv : Int32.ofInt i = x) (hp : pc + 1 = pc') (q : own_Go p e below Q T (mkF m pc' Ls (.int x :: rest))) : own_Go p e below Q T (mkF m pc Ls rest) := by
  subst hp hv; exact own_go (fun t k' => XS.iconst X.here hx rfl hd k') q
theorem o_bipush (X : Stand p l e R s m args below meth c T locs cells slots) (hx : p.tables.exec = Jvm.exec) {i : Int} (hd : decode c.code pc = .ok (.bipush i, 2)) (hv : (Int8.ofInt i).toInt32 = x) (hp : pc + 2 = pc') (q : own_Go p e below Q T (mkF m pc' Ls (.int x :: rest))) : own_Go p e below Q T (mkF m pc Ls rest) := by
  subst hp hv; exact own_go (fun t k' => XS.bipush X.here hx rfl hd k') q
theorem o_sipush (X : Stand p l e R s m args below meth c T locs cells slots) (hx : p.tables.exec = Jvm.exec) {i : Int} (hd : decode c.code pc = .ok (.sipush i, 3)) (hv : (Int16.ofInt i).toInt32 = x) (hp : pc + 3 = pc') (q : own_Go p e below Q T (mkF m pc' Ls (.int x :: rest))) : own_Go p e below Q T (mkF m pc Ls rest) := by
  subst hp hv; exact own_go (fun t k' => XS.sipush X.here hx rfl hd k') q
theorem o_lconst (X : Stand p l e R s m args below meth c T locs cells slots) (hx : p.tables.exec = Jvm.exec) {k : Fin 2} (hd : decode c.code pc = .ok (.lconst k, 1)) (hv : Int64.ofNat k = u) (hp : pc + 1 = pc') (q : own_Go p e below Q T (mkF m pc' Ls (.long u :: rest))) : own_Go p e below Q T (mkF m pc Ls rest) := by
  subst hp hv; exact own_go (fun t k' => XS.lconst X.here hx rfl hd k') q
theorem o_ldcI (X : Stand p l e R s m args below meth c T locs cells slots) (hx : p.tables.exec = Jvm.exec) (hZ : Z.Warmed39 s.vm) {own : String} {index : Nat} (hown : s.vm.findClass own = some m.cls) (w1 : (Cond.constant own index x).before a0 Z = true) (hd : decode c.code pc = .ok (.ldc index, 2)) (hp : pc + 2 = pc') (q : own_Go p e below Q T (mkF m pc' Ls (.int x :: rest))) : own_Go p e below Q T (mkF m pc Ls rest) := by
  subst hp; exact own_go (fun t k' => X.ldcInt hx hown (mvT hZ w1) (g := mkF m pc Ls rest) rfl hd t k') q
theorem o_ldcL (X : Stand p l e R s m args below meth c T locs cells slots) (hx : p.tables.exec = Jvm.exec) (hZ : Z.Warmed39 s.vm) {own : String} {index : Nat} (hown : s.vm.findClass own = some m.cls) (w1 : (Cond.constantLong own index u).before a0 Z = true) (hd : decode c.code pc = .ok (.ldc2_w index, 3)) (hp : pc + 3 = pc') (q : own_Go p e below Q T (mkF m pc' Ls (.long u :: rest))) : own_Go p e below Q T (mkF m pc Ls rest) := by
  subst hp; exact own_go (fun t k' => X.ldc2Long hx hown (mvT hZ w1) (g := mkF m pc Ls rest) rfl hd t k') q
theorem o_iadd (X : Stand p l e R s m args below meth c T locs cells slots) (hx : p.tables.exec = Jvm.exec) (hd : decode c.code pc = .ok (.iadd, 1)) (hp : pc + 1 = pc') {z : Int32} (hz : x + y = z) (q : own_Go p e below Q T (mkF m pc' Ls (.int z :: rest))) : own_Go p e below Q T (mkF m pc Ls (.int y :: .int x :: rest)) := by
  subst hp hz; exact own_go (fun t k' => XS.iadd X.here hx rfl hd rfl k') q
theorem o_isub (X : Stand p l e R s m args below meth c T locs cells slots) (hx : p.tables.exec = Jvm.exec) (hd : decode c.code pc = .ok (.isub, 1)) (hp : pc + 1 = pc') {z : Int32} (hz : x - y = z) (q : own_Go p e below Q T (mkF m pc' Ls (.int z :: rest))) : own_Go p e below Q T (mkF m pc Ls (.int y :: .int x :: rest)) := by
  subst hp hz; exact own_go (fun t k' => XS.isub X.here hx rfl hd rfl k') q
theorem o_imul (X : Stand p l e R s m args below meth c T locs cells slots) (hx : p.tables.exec = Jvm.exec) (hd : decode c.code pc = .ok (.imul, 1)) (hp : pc + 1 = pc') {z : Int32} (hz : x * y = z) (q : own_Go p e below Q T (mkF m pc' Ls (.int z :: rest))) : own_Go p e below Q T (mkF m pc Ls (.int y :: .int x :: rest)) := by
  subst hp hz; exact own_go (fun t k' => XS.imul X.here hx rfl hd rfl k') q
theorem o_iand (X : Stand p l e R s m args below meth c T locs cells slots) (hx : p.tables.exec = Jvm.exec) (hd : decode c.code pc = .ok (.iand, 1)) (hp : pc + 1 = pc') {z : Int32} (hz : x &&& y = z) (q : own_Go p e below Q T (mkF m pc' Ls (.int z :: rest))) : own_Go p e below Q T (mkF m pc Ls (.int y :: .int x :: rest)) := by
  subst hp hz; exact own_go (fun t k' => XS.iand X.here hx rfl hd rfl k') q
theorem o_ior (X : Stand p l e R s m args below meth c T locs cells slots) (hx : p.tables.exec = Jvm.exec) (hd : decode c.code pc = .ok (.ior, 1)) (hp : pc + 1 = pc') {z : Int32} (hz : x ||| y = z) (q : own_Go p e below Q T (mkF m pc' Ls (.int z :: rest))) : own_Go p e below Q T (mkF m pc Ls (.int y :: .int x :: rest)) := by
  subst hp hz; exact own_go (fun t k' => XS.ior X.here hx rfl hd rfl k') q
theorem o_ixor (X : Stand p l e R s m args below meth c T locs cells slots) (hx : p.tables.exec = Jvm.exec) (hd : decode c.code pc = .ok (.ixor, 1)) (hp : pc + 1 = pc') {z : Int32} (hz : x ^^^ y = z) (q : own_Go p e below Q T (mkF m pc' Ls (.int z :: rest))) : own_Go p e below Q T (mkF m pc Ls (.int y :: .int x :: rest)) := by
  subst hp hz; exact own_go (fun t k' => XS.ixor X.here hx rfl hd rfl k') q
/-- Java's shifts, remainders: under names of our own -/
def own_shl (x y : Int32) : Int32 := x <<< (y &&& 31)
def own_shr (x y : Int32) : Int32 := x >>> (y &&& 31)
def own_ushr (x y : Int32) : Int32 := (x.toUInt32 >>> (y &&& 31).toUInt32).toInt32
def own_rem (x y : Int32) : Int32 := x - (x / y) * y
def own_lshl (u : Int64) (y : Int32) : Int64 := u <<< (y &&& 0x3f).toInt64
def own_lushr (u : Int64) (y : Int32) : Int64 := (u.toUInt64 >>> (y &&& 0x3f).toInt64.toUInt64).toInt64
def own_lrem (u w : Int64) : Int64 := u - (u / w) * w
theorem o_ishl (X : Stand p l e R s m args below meth c T locs cells slots) (hx : p.tables.exec = Jvm.exec) (hd : decode c.code pc = .ok (.ishl, 1)) (hp : pc + 1 = pc') {z : Int32} (hz : own_shl x y = z) (q : own_Go p e below Q T (mkF m pc' Ls (.int z :: rest))) : own_Go p e below Q T (mkF m pc Ls (.int y :: .int x :: rest)) := by
  subst hp hz; exact own_go (fun t k' => XS.ishl X.here hx rfl hd rfl k') q
theorem o_ishr (X : Stand p l e R s m args below meth c T locs cells slots) (hx : p.tables.exec = Jvm.exec) (hd : decode c.code pc = .ok (.ishr, 1)) (hp : pc + 1 = pc') {z : Int32} (hz : own_shr x y = z) (q : own_Go p e below Q T (mkF m pc' Ls (.int z :: rest))) : own_Go p e below Q T (mkF m pc Ls (.int y :: .int x :: rest)) := by
  subst hp hz; exact own_go (fun t k' => XS.ishr X.here hx rfl hd rfl k') q
theorem o_iushr (X : Stand p l e R s m args below meth c T locs cells slots) (hx : p.tables.exec = Jvm.exec) (hd : decode c.code pc = .ok (.iushr, 1)) (hp : pc + 1 = pc') {z : Int32} (hz : own_ushr x y = z) (q : own_Go p e below Q T (mkF m pc' Ls (.int z :: rest))) : own_Go p e below Q T (mkF m pc Ls (.int y :: .int x :: rest)) := by
  subst hp hz; exact own_go (fun t k' => XS.iushr X.here hx rfl hd rfl k') q
theorem o_irem (X : Stand p l e R s m args below meth c T locs cells slots) (hx : p.tables.exec = Jvm.exec) (hd : decode c.code pc = .ok (.irem, 1)) (hp : pc + 1 = pc') (hy : y ≠ 0) {z : Int32} (hz : own_rem x y = z) (q : own_Go p e below Q T (mkF m pc' Ls (.int z :: rest))) : own_Go p e below Q T (mkF m pc Ls (.int y :: .int x :: rest)) := by
  subst hp hz; exact own_go (fun t k' => XS.irem X.here hx rfl hd rfl hy k') q
theorem o_idiv (X : Stand p l e R s m args below meth c T locs cells slots) (hx : p.tables.exec = Jvm.exec) (hd : decode c.code pc = .ok (.idiv, 1)) (hp : pc + 1 = pc') (hy : y ≠ 0) {z : Int32} (hz : x / y = z) (q : own_Go p e below Q T (mkF m pc' Ls (.int z :: rest))) : own_Go p e below Q T (mkF m pc Ls (.int y :: .int x :: rest)) := by
  subst hp hz; exact own_go (fun t k' => XS.idiv X.here hx rfl hd rfl hy k') q
theorem o_ineg (X : Stand p l e R s m args below meth c T locs cells slots) (hx : p.tables.exec = Jvm.exec) (hd : decode c.code pc = .ok (.ineg, 1)) (hp : pc + 1 = pc') {z : Int32} (hz : -x = z) (q : own_Go p e below Q T (mkF m pc' Ls (.int z :: rest))) : own_Go p e below Q T (mkF m pc Ls (.int x :: rest)) := by
  subst hp hz; exact own_go (fun t k' => XS.ineg X.here hx rfl hd rfl k') q
theorem o_ladd (X : Stand p l e R s m args below meth c T locs cells slots) (hx : p.tables.exec = Jvm.exec) (hd : decode c.code pc = .ok (.ladd, 1)) (hp : pc + 1 = pc') {z : Int64} (hz : u + w = z) (q : own_Go p e below Q T (mkF m pc' Ls (.long z :: rest))) : own_Go p e below Q T (mkF m pc Ls (.long w :: .long u :: rest)) := by
  subst hp hz; exact own_go (fun t k' => XS.ladd X.here hx rfl hd rfl k') q
theorem o_lsub (X : Stand p l e R s m args below meth c T locs cells slots) (hx : p.tables.exec = Jvm.exec) (hd : decode c.code pc = .ok (.lsub, 1)) (hp : pc + 1 = pc') {z : Int64} (hz : u - w = z) (q : own_Go p e below Q T (mkF m pc' Ls (.long z :: rest))) : own_Go p e below Q T (mkF m pc Ls (.long w :: .long u :: rest)) := by
  subst hp hz; exact own_go (fun t k' => XS.lsub X.here hx rfl hd rfl k') q
theorem o_lmul (X : Stand p l e R s m args below meth c T locs cells slots) (hx : p.tables.exec = Jvm.exec) (hd : decode c.code pc = .ok (.lmul, 1)) (hp : pc + 1 = pc') {z : Int64} (hz : u * w = z) (q : own_Go p e below Q T (mkF m pc' Ls (.long z :: rest))) : own_Go p e below Q T (mkF m pc Ls (.long w :: .long u :: rest)) := by
  subst hp hz; exact own_go (fun t k' => XS.lmul X.here hx rfl hd rfl k') q
theorem o_land (X : Stand p l e R s m args below meth c T locs cells slots) (hx : p.tables.exec = Jvm.exec) (hd : decode c.code pc = .ok (.land, 1)) (hp : pc + 1 = pc') {z : Int64} (hz : u &&& w = z) (q : own_Go p e below Q T (mkF m pc' Ls (.long z :: rest))) : own_Go p e below Q T (mkF m pc Ls (.long w :: .long u :: rest)) := by
  subst hp hz; exact own_go (fun t k' => XS.land X.here hx rfl hd rfl k') q
theorem o_lor (X : Stand p l e R s m args below meth c T locs cells slots) (hx : p.tables.exec = Jvm.exec) (hd : decode c.code pc = .ok (.lor, 1)) (hp : pc + 1 = pc') {z : Int64} (hz : u ||| w = z) (q : own_Go p e below Q T (mkF m pc' Ls (.long z :: rest))) : own_Go p e below Q T (mkF m pc Ls (.long w :: .long u :: rest)) := by
  subst hp hz; exact own_go (fun t k' => XS.lor X.here hx rfl hd rfl k') q
theorem o_lxor (X : Stand p l e R s m args below meth c T locs cells slots) (hx : p.tables.exec = Jvm.exec) (hd : decode c.code pc = .ok (.lxor, 1)) (hp : pc + 1 = pc') {z : Int64} (hz : u ^^^ w = z) (q : own_Go p e below Q T (mkF m pc' Ls (.long z :: rest))) : own_Go p e below Q T (mkF m pc Ls (.long w :: .long u :: rest)) := by
  subst hp hz; exact own_go (fun t k' => XS.lxor X.here hx rfl hd rfl k') q
theorem o_lshl (X : Stand p l e R s m args below meth c T locs cells slots) (hx : p.tables.exec = Jvm.exec) (hd : decode c.code pc = .ok (.lshl, 1)) (hp : pc + 1 = pc') {z : Int64} (hz : own_lshl u y = z) (q : own_Go p e below Q T (mkF m pc' Ls (.long z :: rest))) : own_Go p e below Q T (mkF m pc Ls (.int y :: .long u :: rest)) := by
  subst hp hz; exact own_go (fun t k' => XS.lshl X.here hx rfl hd rfl k') q
theorem o_lushr (X : Stand p l e R s m args below meth c T locs cells slots) (hx : p.tables.exec = Jvm.exec) (hd : decode c.code pc = .ok (.lushr, 1)) (hp : pc + 1 = pc') {z : Int64} (hz : own_lushr u y = z) (q : own_Go p e below Q T (mkF m pc' Ls (.long z :: rest))) : own_Go p e below Q T (mkF m pc Ls (.int y :: .long u :: rest)) := by
  subst hp hz; exact own_go (fun t k' => XS.lushr X.here hx rfl hd rfl k') q
theorem o_ldiv (X : Stand p l e R s m args below meth c T locs cells slots) (hx : p.tables.exec = Jvm.exec) (hd : decode c.code pc = .ok (.ldiv, 1)) (hp : pc + 1 = pc') (hy : w ≠ 0) {z : Int64} (hz : u / w = z) (q : own_Go p e below Q T (mkF m pc' Ls (.long z :: rest))) : own_Go p e below Q T (mkF m pc Ls (.long w :: .long u :: rest)) := by
  subst hp hz; exact own_go (fun t k' => XS.ldiv X.here hx rfl hd rfl hy k') q
theorem o_lrem (X : Stand p l e R s m args below meth c T locs cells slots) (hx : p.tables.exec = Jvm.exec) (hd : decode c.code pc = .ok (.lrem, 1)) (hp : pc + 1 = pc') (hy : w ≠ 0) {z : Int64} (hz : own_lrem u w = z) (q : own_Go p e below Q T (mkF m pc' Ls (.long z :: rest))) : own_Go p e below Q T (mkF m pc Ls (.long w :: .long u :: rest)) := by
  subst hp hz; exact own_go (fun t k' => XS.lrem X.here hx rfl hd rfl hy k') q
theorem o_i2l (X : Stand p l e R s m args below meth c T locs cells slots) (hx : p.tables.exec = Jvm.exec) (hd : decode c.code pc = .ok (.i2l, 1)) (hp : pc + 1 = pc') {z : Int64} (hz : x.toInt64 = z) (q : own_Go p e below Q T (mkF m pc' Ls (.long z :: rest))) : own_Go p e below Q T (mkF m pc Ls (.int x :: rest)) := by
  subst hp hz; exact own_go (fun t k' => XS.i2l X.here hx rfl hd rfl k') q
theorem o_l2i (X : Stand p l e R s m args below meth c T locs cells slots) (hx : p.tables.exec = Jvm.exec) (hd : decode c.code pc = .ok (.l2i, 1)) (hp : pc + 1 = pc') {z : Int32} (hz : u.toInt32 = z) (q : own_Go p e below Q T (mkF m pc' Ls (.int z :: rest))) : own_Go p e below Q T (mkF m pc Ls (.long u :: rest)) := by
  subst hp hz; exact own_go (fun t k' => XS.l2i X.here hx rfl hd rfl k') q
def own_i2b (x : Int32) : Int32 := x.toInt8.toInt32
def own_i2c (x : Int32) : Int32 := x.toUInt32.toUInt16.toUInt32.toInt32
theorem o_i2b (X : Stand p l e R s m args below meth c T locs cells slots) (hx : p.tables.exec = Jvm.exec) (hd : decode c.code pc = .ok (.i2b, 1)) (hp : pc + 1 = pc') {z : Int32} (hz : own_i2b x = z) (q : own_Go p e below Q T (mkF m pc' Ls (.int z :: rest))) : own_Go p e below Q T (mkF m pc Ls (.int x :: rest)) := by
  subst hp hz; exact own_go (fun t k' => XS.i2b X.here hx rfl hd rfl k') q
theorem o_i2c (X : Stand p l e R s m args below meth c T locs cells slots) (hx : p.tables.exec = Jvm.exec) (hd : decode c.code pc = .ok (.i2c, 1)) (hp : pc + 1 = pc') {z : Int32} (hz : own_i2c x = z) (q : own_Go p e below Q T (mkF m pc' Ls (.int z :: rest))) : own_Go p e below Q T (mkF m pc Ls (.int x :: rest)) := by
  subst hp hz; exact own_go (fun t k' => XS.i2c X.here hx rfl hd rfl k') q
theorem o_iinc (X : Stand p l e R s m args below meth c T locs cells slots) (hx : p.tables.exec = Jvm.exec) {k : Nat} {i : Int} (hd : decode c.code pc = .ok (.iinc k i, 3)) (hl : Ls[k]? = some (.val (.int x))) (hz : x + Int32.ofInt i = y) (hl' : storeLocals Ls k (.int y) = some l') (hp : pc + 3 = pc') (q : own_Go p e below Q T (mkF m pc' l' rest)) : own_Go p e below Q T (mkF m pc Ls rest) := by
  subst hp hz; exact own_go (fun t k' => XS.iinc X.here hx rfl hd hl hl' k') q
theorem o_dup (X : Stand p l e R s m args below meth c T locs cells slots) (hx : p.tables.exec = Jvm.exec) {v : Value} (hd : decode c.code pc = .ok (.dup, 1)) (hv : v.category = 1) (hp : pc + 1 = pc') (q : own_Go p e below Q T (mkF m pc' Ls (v :: v :: rest))) : own_Go p e below Q T (mkF m pc Ls (v :: rest)) := by
  subst hp; exact own_go (fun t k' => XS.dup X.here hx rfl hd rfl hv k') q
theorem o_pop (X : Stand p l e R s m args below meth c T locs cells slots) (hx : p.tables.exec = Jvm.exec) {v : Value} (hd : decode c.code pc = .ok (.pop, 1)) (hv : v.category = 1) (hp : pc + 1 = pc') (q : own_Go p e below Q T (mkF m pc' Ls rest)) : own_Go p e below Q T (mkF m pc Ls (v :: rest)) := by
  subst hp; exact own_go (fun t k' => XS.pop X.here hx rfl hd rfl hv k') q
theorem o_goto (X : Stand p l e R s m args below meth c T locs cells slots) (hx : p.tables.exec = Jvm.exec) {o : Int} (hd : decode c.code pc = .ok (.goto o, 3)) (ho : 0 ≤ (pc : Int) + o) (hp : ((pc : Int) + o).toNat = pc') (q : own_Go p e below Q T (mkF m pc' Ls rest)) : own_Go p e below Q T (mkF m pc Ls rest) :=
  own_go (fun t k' => XS.goto X.here hx rfl rfl hd ho hp k') q
theorem o_ifP (X : Stand p l e R s m args below meth c T locs cells slots) (hx : p.tables.exec = Jvm.exec) {cd : ClassFile.Cond} {o : Int} {P : Prop} [Decidable P] (hP : P → ifCond.holds cd x = true) (hN : ¬ P → ifCond.holds cd x = false) (hd : decode c.code pc = .ok (.ifCond cd o, 3)) (ho : 0 ≤ (pc : Int) + o) (hp : ((pc : Int) + o).toNat = pc1) (hp2 : pc + 3 = pc2)
    (kt : P → own_Go p e below Q T (mkF m pc1 Ls rest)) (kf : ¬ P → own_Go p e below Q T (mkF m pc2 Ls rest)) : own_Go p e below Q T (mkF m pc Ls (.int x :: rest)) := by
  subst hp2
  by_cases q : P
  · exact own_go (fun t k' => XS.ifYes X.here hx rfl rfl hd rfl (hP q) ho hp k') (kt q)
  · exact own_go (fun t k' => XS.ifNo X.here hx rfl hd rfl (hN q) k') (kf q)
theorem o_ifN (X : Stand p l e R s m args below meth c T locs cells slots) (hx : p.tables.exec = Jvm.exec) {cd : ClassFile.Cond} {o : Int} {P : Prop} [Decidable P] (hP : P → ifCond.holds cd x = false) (hN : ¬ P → ifCond.holds cd x = true) (hd : decode c.code pc = .ok (.ifCond cd o, 3)) (ho : 0 ≤ (pc : Int) + o) (hp : ((pc : Int) + o).toNat = pc1) (hp2 : pc + 3 = pc2)
    (kt : ¬ P → own_Go p e below Q T (mkF m pc1 Ls rest)) (kf : P → own_Go p e below Q T (mkF m pc2 Ls rest)) : own_Go p e below Q T (mkF m pc Ls (.int x :: rest)) := by
  subst hp2
  by_cases q : P
  · exact own_go (fun t k' => XS.ifNo X.here hx rfl hd rfl (hP q) k') (kf q)
  · exact own_go (fun t k' => XS.ifYes X.here hx rfl rfl hd rfl (hN q) ho hp k') (kt q)
theorem o_icP (X : Stand p l e R s m args below meth c T locs cells slots) (hx : p.tables.exec = Jvm.exec) {cd : ClassFile.Cond} {o : Int} {P : Prop} [Decidable P] (hP : P → if_icmp.holds cd x y = true) (hN : ¬ P → if_icmp.holds cd x y = false) (hd : decode c.code pc = .ok (.if_icmp cd o, 3)) (ho : 0 ≤ (pc : Int) + o) (hp : ((pc : Int) + o).toNat = pc1) (hp2 : pc + 3 = pc2)
    (kt : P → own_Go p e below Q T (mkF m pc1 Ls rest)) (kf : ¬ P → own_Go p e below Q T (mkF m pc2 Ls rest)) : own_Go p e below Q T (mkF m pc Ls (.int y :: .int x :: rest)) := by
  subst hp2
  by_cases q : P
  · exact own_go (fun t k' => XS.icmpYes X.here hx rfl rfl hd rfl (hP q) ho hp k') (kt q)
  · exact own_go (fun t k' => XS.icmpNo X.here hx rfl hd rfl (hN q) k') (kf q)
theorem o_icN (X : Stand p l e R s m args below meth c T locs cells slots) (hx : p.tables.exec = Jvm.exec) {cd : ClassFile.Cond} {o : Int} {P : Prop} [Decidable P] (hP : P → if_icmp.holds cd x y = false) (hN : ¬ P → if_icmp.holds cd x y = true) (hd : decode c.code pc = .ok (.if_icmp cd o, 3)) (ho : 0 ≤ (pc : Int) + o) (hp : ((pc : Int) + o).toNat = pc1) (hp2 : pc + 3 = pc2)
    (kt : ¬ P → own_Go p e below Q T (mkF m pc1 Ls rest)) (kf : P → own_Go p e below Q T (mkF m pc2 Ls rest)) : own_Go p e below Q T (mkF m pc Ls (.int y :: .int x :: rest)) := by
  subst hp2
  by_cases q : P
  · exact own_go (fun t k' => XS.icmpNo X.here hx rfl hd rfl (hP q) k') (kf q)
  · exact own_go (fun t k' => XS.icmpYes X.here hx rfl rfl hd rfl (hN q) ho hp k') (kt q)
/-- a branch that goes one way for sure -/
theorem o_ifY (X : Stand p l e R s m args below meth c T locs cells slots) (hx : p.tables.exec = Jvm.exec) {cd : ClassFile.Cond} {o : Int} (hc : ifCond.holds cd x = true) (hd : decode c.code pc = .ok (.ifCond cd o, 3)) (ho : 0 ≤ (pc : Int) + o) (hp : ((pc : Int) + o).toNat = pc') (q : own_Go p e below Q T (mkF m pc' Ls rest)) : own_Go p e below Q T (mkF m pc Ls (.int x :: rest)) :=
  own_go (fun t k' => XS.ifYes X.here hx rfl rfl hd rfl hc ho hp k') q
theorem o_ifX (X : Stand p l e R s m args below meth c T locs cells slots) (hx : p.tables.exec = Jvm.exec) {cd : ClassFile.Cond} {o : Int} (hc : ifCond.holds cd x = false) (hd : decode c.code pc = .ok (.ifCond cd o, 3)) (hp : pc + 3 = pc') (q : own_Go p e below Q T (mkF m pc' Ls rest)) : own_Go p e below Q T (mkF m pc Ls (.int x :: rest)) := by
  subst hp; exact own_go (fun t k' => XS.ifNo X.here hx rfl hd rfl hc k') q
theorem o_icY (X : Stand p l e R s m args below meth c T locs cells slots) (hx : p.tables.exec = Jvm.exec) {cd : ClassFile.Cond} {o : Int} (hc : if_icmp.holds cd x y = true) (hd : decode c.code pc = .ok (.if_icmp cd o, 3)) (ho : 0 ≤ (pc : Int) + o) (hp : ((pc : Int) + o).toNat = pc') (q : own_Go p e below Q T (mkF m pc' Ls rest)) : own_Go p e below Q T (mkF m pc Ls (.int y :: .int x :: rest)) :=
  own_go (fun t k' => XS.icmpYes X.here hx rfl rfl hd rfl hc ho hp k') q
theorem o_icX (X : Stand p l e R s m args below meth c T locs cells slots) (hx : p.tables.exec = Jvm.exec) {cd : ClassFile.Cond} {o : Int} (hc : if_icmp.holds cd x y = false) (hd : decode c.code pc = .ok (.if_icmp cd o, 3)) (hp : pc + 3 = pc') (q : own_Go p e below Q T (mkF m pc' Ls rest)) : own_Go p e below Q T (mkF m pc Ls (.int y :: .int x :: rest)) := by
  subst hp; exact own_go (fun t k' => XS.icmpNo X.here hx rfl hd rfl hc k') q
theorem o_lcmp (X : Stand p l e R s m args below meth c T locs cells slots) (hx : p.tables.exec = Jvm.exec) (hd : decode c.code pc = .ok (.lcmp, 1)) (hp : pc + 1 = pc') (q : own_Go p e below Q T (mkF m pc' Ls (.int (XT.cmpL u w) :: rest))) : own_Go p e below Q T (mkF m pc Ls (.long w :: .long u :: rest)) := by
  subst hp; exact own_go (fun t k' => XS.lcmp X.here hx rfl hd rfl k') q
theorem o_ifnullX (X : Stand p l e R s m args below meth c T locs cells slots) (hx : p.tables.exec = Jvm.exec) {o : Int} {a : Addr} (hd : decode c.code pc = .ok (.ifnull o, 3)) (hp : pc + 3 = pc') (q : own_Go p e below Q T (mkF m pc' Ls rest)) : own_Go p e below Q T (mkF m pc Ls (.ref a :: rest)) := by
  subst hp; exact own_go (fun t k' => XS.ifnullNo X.here hx rfl hd rfl k') q
/-- the ends -/
theorem o_ret (X : Stand p l e R s m args below meth c T locs cells slots) {v : Option Value} {g : JFrame} (hv : meth.sig.returnType = none → v = none) (hlk : meth.locks = false) (hc : cells ≤ cc) (hs : slots ≤ ss) (eT : T.heap = h) (hK : K v h locs)
    (st : ∀ fs : List Frame, (∀ (f : JFrame) (acts : List Action), f.method = m → f.locked = none → f.entered = [] → (doReturn e (T.setTop f) acts v).1 = T.setFrames fs) → Steps p.tables e below (T.setTop g) (T.setFrames fs)) : own_Go p e below (own_Q s K cc ss) T g := by
  subst eT
  obtain ⟨fs, hr, hrun, hended, hW, hsame⟩ := X.leave (v := v) hv hlk
  exact ⟨_, _, st fs hr, hrun, hended, _, _, rfl, hK, ⟨_, rfl⟩, hW, hsame.mono hc hs⟩
theorem o_retV (X : Stand p l e R s m args below meth c T locs cells slots) (hx : p.tables.exec = Jvm.exec) (hret : meth.sig.returnType = none) (hlk : meth.locks = false) (hd : decode c.code pc = .ok (.return_, 1)) (hc : cells ≤ cc) (hs : slots ≤ ss) (eT : T.heap = h) (hK : K none h locs) : own_Go p e below (own_Q s K cc ss) T (mkF m pc Ls []) :=
  o_ret X (fun _ => rfl) hlk hc hs eT hK fun fs hr => X.returnOut hx hret hd hr
theorem o_retI (X : Stand p l e R s m args below meth c T locs cells slots) (hx : p.tables.exec = Jvm.exec) (hret : meth.sig.returnType = some .int) (hlk : meth.locks = false) (hd : decode c.code pc = .ok (.ireturn, 1)) (hc : cells ≤ cc) (hs : slots ≤ ss) (eT : T.heap = h) (hK : K (some (.int x)) h locs) : own_Go p e below (own_Q s K cc ss) T (mkF m pc Ls (.int x :: rest)) :=
  o_ret X (fun h => by rw [hret] at h; cases h) hlk hc hs eT hK fun fs hr => retI X hx hret hd hr
theorem o_retN (X : Stand p l e R s m args below meth c T locs cells slots) (hx : p.tables.exec = Jvm.exec) {t : FieldType} (hret : meth.sig.returnType = some t) (ht : t = .boolean ∨ t = .byte ∨ t = .char ∨ t = .short) (hlk : meth.locks = false) (hd : decode c.code pc = .ok (.ireturn, 1)) (hc : cells ≤ cc) (hs : slots ≤ ss) (eT : T.heap = h) (hK : K (some (.int (nar t x))) h locs) : own_Go p e below (own_Q s K cc ss) T (mkF m pc Ls (.int x :: rest)) :=
  o_ret X (fun h => by rw [hret] at h; cases h) hlk hc hs eT hK fun fs hr => retN X hx hret ht hd hr
theorem o_retL (X : Stand p l e R s m args below meth c T locs cells slots) (hx : p.tables.exec = Jvm.exec) (hret : meth.sig.returnType = some .long) (hlk : meth.locks = false) (hd : decode c.code pc = .ok (.lreturn, 1)) (hc : cells ≤ cc) (hs : slots ≤ ss) (eT : T.heap = h) (hK : K (some (.long u)) h locs) : own_Go p e below (own_Q s K cc ss) T (mkF m pc Ls (.long u :: rest)) :=
  o_ret X (fun h => by rw [hret] at h; cases h) hlk hc hs eT hK fun fs hr => by
    jvm_step X.here [X.here.top, hx, hd, X.method', hret, narrow]
    first | (intro acts; rw [hr _ acts rfl rfl rfl]) | rw [hr _ _ rfl rfl rfl]
    exact Steps.refl _
theorem o_retA (X : Stand p l e R s m args below meth c T locs cells slots) (hx : p.tables.exec = Jvm.exec) {t : FieldType} (hret : meth.sig.returnType = some (.array t)) (hlk : meth.locks = false) {a : Addr} (hd : decode c.code pc = .ok (.areturn, 1)) (hc : cells ≤ cc) (hs : slots ≤ ss) (eT : T.heap = h) (hK : K (some (.ref a)) h locs) : own_Go p e below (own_Q s K cc ss) T (mkF m pc Ls (.ref a :: rest)) :=
  o_ret X (fun h => by rw [hret] at h; cases h) hlk hc hs eT hK fun fs hr => by
    jvm_step X.here [X.here.top, hx, hd, X.method', hret, Value.isRef, FieldType.isReference]
    first | (intro acts; rw [hr _ acts rfl rfl rfl]) | rw [hr _ _ rfl rfl rfl]
    exact Steps.refl _
/-- arrays as lists -/
def own_AI (Z : State) (h : Heap) (a : Addr) (ty : FieldType) (vs : List Int32) : Prop := ∃ cl : Cell, Arr Z h a cl ty ∧ cl.slots = (vs.map Value.int).toArray
def own_AJ (Z : State) (h : Heap) (a : Addr) (vs : List Int64) : Prop := ∃ cl : Cell, Arr Z h a cl .long ∧ cl.slots = (vs.map Value.long).toArray
def own_in (n : Nat) (j : Int32) : Prop := ¬ j < 0 ∧ j.toNatClampNeg < n
def own_get (vs : List Int32) (j : Int32) : Int32 := vs.getD j.toNatClampNeg 0
def own_getL (vs : List Int64) (j : Int32) : Int64 := vs.getD j.toNatClampNeg 0
def own_set (vs : List Int32) (j x : Int32) : List Int32 := vs.set j.toNatClampNeg x
def own_setL (vs : List Int64) (j : Int32) (u : Int64) : List Int64 := vs.set j.toNatClampNeg u
theorem own_AI.lt {a : Addr} {ty : FieldType} {vs : List Int32} (A : own_AI Z h a ty vs) : a < h.size := by obtain ⟨cl, A, -⟩ := A; exact A.lt
theorem own_AI.ext {a : Addr} {ty : FieldType} {vs : List Int32} (A : own_AI Z h a ty vs) (E : Ext h h') : own_AI Z h' a ty vs := by obtain ⟨cl, A, q⟩ := A; exact ⟨cl, A.ext E, q⟩
theorem own_AI.other {a b : Addr} {ty : FieldType} {vs : List Int32} {sl : Nat} {v : Value} (A : own_AI Z h a ty vs) (W : Wr h h' b sl v) (ne : a ≠ b) : own_AI Z h' a ty vs := by obtain ⟨cl, A, q⟩ := A; exact ⟨cl, A.other W ne, q⟩
theorem own_AI.keep {a : Addr} {ty : FieldType} {vs : List Int32} {ws : List Addr} (A : own_AI Z h a ty vs) (K : Keep h h' ws) (ne : a ∉ ws) : own_AI Z h' a ty vs := by obtain ⟨cl, A, q⟩ := A; exact ⟨cl, ⟨K.2.1 a cl A.1 ne, A.2⟩, q⟩
theorem own_AI.put {a : Addr} {ty : FieldType} {vs : List Int32} {j : Int32} (A : own_AI Z h a ty vs) (W : Wr h h' a j.toNatClampNeg (.int x)) : own_AI Z h' a ty (own_set vs j x) := by
  obtain ⟨cl, A, q⟩ := A
  refine ⟨_, A.same W, ?_⟩
  show cl.slots.setIfInBounds _ _ = _
  rw [q, own_set, List.map_set, List.setIfInBounds_toArray]
theorem own_AJ.lt {a : Addr} {vs : List Int64} (A : own_AJ Z h a vs) : a < h.size := by obtain ⟨cl, A, -⟩ := A; exact A.lt
theorem own_AJ.ext {a : Addr} {vs : List Int64} (A : own_AJ Z h a vs) (E : Ext h h') : own_AJ Z h' a vs := by obtain ⟨cl, A, q⟩ := A; exact ⟨cl, A.ext E, q⟩
theorem own_AJ.other {a b : Addr} {vs : List Int64} {sl : Nat} {v : Value} (A : own_AJ Z h a vs) (W : Wr h h' b sl v) (ne : a ≠ b) : own_AJ Z h' a vs := by obtain ⟨cl, A, q⟩ := A; exact ⟨cl, A.other W ne, q⟩
theorem own_AJ.keep {a : Addr} {vs : List Int64} {ws : List Addr} (A : own_AJ Z h a vs) (K : Keep h h' ws) (ne : a ∉ ws) : own_AJ Z h' a vs := by obtain ⟨cl, A, q⟩ := A; exact ⟨cl, ⟨K.2.1 a cl A.1 ne, A.2⟩, q⟩
theorem own_AJ.put {a : Addr} {vs : List Int64} {j : Int32} (A : own_AJ Z h a vs) (W : Wr h h' a j.toNatClampNeg (.long u)) : own_AJ Z h' a (own_setL vs j u) := by
  obtain ⟨cl, A, q⟩ := A
  refine ⟨_, A.same W, ?_⟩
  show cl.slots.setIfInBounds _ _ = _
  rw [q, own_setL, List.map_set, List.setIfInBounds_toArray]
theorem own_inA {n : Nat} {j : Int32} {cl : Cell} (hj : own_in n j) (hn : cl.slots.size = n) : ¬ (j < 0 ∨ cl.slots.size ≤ j.toNatClampNeg) := fun q => q.elim hj.1 fun q => by rw [hn] at q; exact Nat.not_lt.mpr q hj.2
theorem own_szI {cl : Cell} {vs : List Int32} (q : cl.slots = (vs.map Value.int).toArray) : cl.slots.size = vs.length := by rw [q]; simp
theorem own_szJ {cl : Cell} {vs : List Int64} (q : cl.slots = (vs.map Value.long).toArray) : cl.slots.size = vs.length := by rw [q]; simp
theorem own_atI {cl : Cell} {vs : List Int32} {j : Int32} (q : cl.slots = (vs.map Value.int).toArray) (hj : own_in vs.length j) : cl.slots[j.toNatClampNeg]? = some (.int (own_get vs j)) := by
  rw [q, List.getElem?_toArray, List.getElem?_map, List.getElem?_eq_getElem hj.2, own_get, List.getD_eq_getElem?_getD, List.getElem?_eq_getElem hj.2]; rfl
theorem own_atJ {cl : Cell} {vs : List Int64} {j : Int32} (q : cl.slots = (vs.map Value.long).toArray) (hj : own_in vs.length j) : cl.slots[j.toNatClampNeg]? = some (.long (own_getL vs j)) := by
  rw [q, List.getElem?_toArray, List.getElem?_map, List.getElem?_eq_getElem hj.2, own_getL, List.getD_eq_getElem?_getD, List.getElem?_eq_getElem hj.2]; rfl
theorem o_iaload (X : Stand p l e R s m args below meth c T locs cells slots) (hx : p.tables.exec = Jvm.exec) (hZ : Z.Warmed39 s.vm) (eT : T.heap = h) {a : Addr} {vs : List Int32} {j : Int32} (A : own_AI Z h a .int vs) (hj : own_in vs.length j) (hd : decode c.code pc = .ok (.iaload, 1)) (hp : pc + 1 = pc') (hv : own_get vs j = x) (q : own_Go p e below Q T (mkF m pc' Ls (.int x :: rest))) : own_Go p e below Q T (mkF m pc Ls (.int j :: .ref a :: rest)) := by
  subst hp hv
  obtain ⟨cl, A, qs⟩ := A
  exact own_go (fun t k' => X.iaload hx (by rw [eT]; exact A.1) (State.isArrayOf_alike hZ.alike A.2.1) A.2.2 (own_inA hj (own_szI qs)) (own_atI qs hj) (g := mkF m pc Ls (.int j :: .ref a :: rest)) rfl rfl hd t k') q
theorem o_baload (X : Stand p l e R s m args below meth c T locs cells slots) (hx : p.tables.exec = Jvm.exec) (hZ : Z.Warmed39 s.vm) (eT : T.heap = h) {a : Addr} {vs : List Int32} {j : Int32} (A : own_AI Z h a .byte vs) (hj : own_in vs.length j) (hd : decode c.code pc = .ok (.baload, 1)) (hp : pc + 1 = pc') (hv : own_get vs j = x) (q : own_Go p e below Q T (mkF m pc' Ls (.int x :: rest))) : own_Go p e below Q T (mkF m pc Ls (.int j :: .ref a :: rest)) := by
  subst hp hv
  obtain ⟨cl, A, qs⟩ := A
  exact own_go (fun t k' => X.baloadBytes hx (by rw [eT]; exact A.1) (State.isArrayOf_alike hZ.alike A.2.1) A.2.2 (own_inA hj (own_szI qs)) (own_atI qs hj) (g := mkF m pc Ls (.int j :: .ref a :: rest)) rfl rfl hd t k') q
theorem o_laload (X : Stand p l e R s m args below meth c T locs cells slots) (hx : p.tables.exec = Jvm.exec) (hZ : Z.Warmed39 s.vm) (eT : T.heap = h) {a : Addr} {vs : List Int64} {j : Int32} (A : own_AJ Z h a vs) (hj : own_in vs.length j) (hd : decode c.code pc = .ok (.laload, 1)) (hp : pc + 1 = pc') (hv : own_getL vs j = u) (q : own_Go p e below Q T (mkF m pc' Ls (.long u :: rest))) : own_Go p e below Q T (mkF m pc Ls (.int j :: .ref a :: rest)) := by
  subst hp hv
  obtain ⟨cl, A, qs⟩ := A
  exact own_go (fun t k' => X.laload hx (by rw [eT]; exact A.1) (State.isArrayOf_alike hZ.alike A.2.1) A.2.2 (own_inA hj (own_szJ qs)) (own_atJ qs hj) (g := mkF m pc Ls (.int j :: .ref a :: rest)) rfl rfl hd t k') q
/-- the length as arraylength pushes it -/
def own_len (n : Nat) : Int32 := n.toInt32
theorem o_alenI (X : Stand p l e R s m args below meth c T locs cells slots) (hx : p.tables.exec = Jvm.exec) (hZ : Z.Warmed39 s.vm) (eT : T.heap = h) {a : Addr} {ty : FieldType} {vs : List Int32} (A : own_AI Z h a ty vs) (hd : decode c.code pc = .ok (.arraylength, 1)) (hp : pc + 1 = pc') (hv : own_len vs.length = x) (q : own_Go p e below Q T (mkF m pc' Ls (.int x :: rest))) : own_Go p e below Q T (mkF m pc Ls (.ref a :: rest)) := by
  subst hp hv
  obtain ⟨cl, A, qs⟩ := A
  refine own_go (fun t k' => X.arraylength hx (by rw [eT]; exact A.1) (State.isArrayOf_alike hZ.alike A.2.1) (g := mkF m pc Ls (.ref a :: rest)) rfl rfl hd t k') ?_
  rw [own_szI qs]; exact q
theorem o_alenJ (X : Stand p l e R s m args below meth c T locs cells slots) (hx : p.tables.exec = Jvm.exec) (hZ : Z.Warmed39 s.vm) (eT : T.heap = h) {a : Addr} {vs : List Int64} (A : own_AJ Z h a vs) (hd : decode c.code pc = .ok (.arraylength, 1)) (hp : pc + 1 = pc') (hv : own_len vs.length = x) (q : own_Go p e below Q T (mkF m pc' Ls (.int x :: rest))) : own_Go p e below Q T (mkF m pc Ls (.ref a :: rest)) := by
  subst hp hv
  obtain ⟨cl, A, qs⟩ := A
  refine own_go (fun t k' => X.arraylength hx (by rw [eT]; exact A.1) (State.isArrayOf_alike hZ.alike A.2.1) (g := mkF m pc Ls (.ref a :: rest)) rfl rfl hd t k') ?_
  rw [own_szJ qs]; exact q
/-- stores: the place stays in locs -/
theorem o_iastore (X : Stand p l e R s m args below meth c T locs cells slots) (hx : p.tables.exec = Jvm.exec) (hZ : Z.Warmed39 s.vm) (eT : T.heap = h) {a : Addr} {vs vs' : List Int32} {j : Int32} (A : own_AI Z h a .int vs) (hj : own_in vs.length j) (hd : decode c.code pc = .ok (.iastore, 1)) (hp : pc + 1 = pc') (hv : own_set vs j x = vs')
    (k : ∀ T' h', Stand p l e R s m args below meth c T' (locs ++ [⟨a, j.toNatClampNeg⟩]) cells slots → T'.heap = h' → Wr h h' a j.toNatClampNeg (.int x) → own_AI Z h' a .int vs' → own_Go p e below Q T' (mkF m pc' Ls rest)) : own_Go p e below Q T (mkF m pc Ls (.int x :: .int j :: .ref a :: rest)) := by
  subst hp hv
  obtain ⟨cl, A', qs⟩ := id A
  obtain ⟨T', h', X', e', W, st⟩ := stI X hx hZ eT A' (own_inA hj (own_szI qs)) (g := mkF m pc Ls (.int x :: .int j :: .ref a :: rest)) rfl rfl hd
  exact own_go st (k T' h' X' e' W (A.put W))
theorem o_bastore (X : Stand p l e R s m args below meth c T locs cells slots) (hx : p.tables.exec = Jvm.exec) (hZ : Z.Warmed39 s.vm) (eT : T.heap = h) {a : Addr} {vs vs' : List Int32} {j : Int32} (A : own_AI Z h a .byte vs) (hj : own_in vs.length j) (hd : decode c.code pc = .ok (.bastore, 1)) (hp : pc + 1 = pc') (hv : own_set vs j (own_i2b x) = vs')
    (k : ∀ T' h', Stand p l e R s m args below meth c T' (locs ++ [⟨a, j.toNatClampNeg⟩]) cells slots → T'.heap = h' → Wr h h' a j.toNatClampNeg (.int (own_i2b x)) → own_AI Z h' a .byte vs' → own_Go p e below Q T' (mkF m pc' Ls rest)) : own_Go p e below Q T (mkF m pc Ls (.int x :: .int j :: .ref a :: rest)) := by
  subst hp hv
  obtain ⟨cl, A', qs⟩ := id A
  obtain ⟨T', h', X', e', W, st⟩ := stB X hx hZ eT A' (own_inA hj (own_szI qs)) (g := mkF m pc Ls (.int x :: .int j :: .ref a :: rest)) rfl rfl hd
  exact own_go st (k T' h' X' e' W (A.put W))
theorem o_lastore (X : Stand p l e R s m args below meth c T locs cells slots) (hx : p.tables.exec = Jvm.exec) (hZ : Z.Warmed39 s.vm) (eT : T.heap = h) {a : Addr} {vs vs' : List Int64} {j : Int32} (A : own_AJ Z h a vs) (hj : own_in vs.length j) (hd : decode c.code pc = .ok (.lastore, 1)) (hp : pc + 1 = pc') (hv : own_setL vs j u = vs')
    (k : ∀ T' h', Stand p l e R s m args below meth c T' (locs ++ [⟨a, j.toNatClampNeg⟩]) cells slots → T'.heap = h' → Wr h h' a j.toNatClampNeg (.long u) → own_AJ Z h' a vs' → own_Go p e below Q T' (mkF m pc' Ls rest)) : own_Go p e below Q T (mkF m pc Ls (.long u :: .int j :: .ref a :: rest)) := by
  subst hp hv
  obtain ⟨cl, A', qs⟩ := id A
  obtain ⟨T', h', X', e', W, st⟩ := stJ X hx hZ eT A' (own_inA hj (own_szJ qs)) (g := mkF m pc Ls (.long u :: .int j :: .ref a :: rest)) rfl rfl hd
  exact own_go st (k T' h' X' e' W (A.put W))
theorem own_sz (X : Stand p l e R s m args below meth c T locs cells slots) (eT : T.heap = h) : s.heap.size ≤ h.size := by
  have q := X.same.2.1
  rw [← eT]; exact q
/-- the place written lies in a cell made since the start: it needn't be told -/
theorem own_drop {a : Addr} {j : Nat} (X : Stand p l e R s m args below meth c T (locs ++ [⟨a, j⟩]) cells slots) (ha : s.heap.size ≤ a) : Stand p l e R s m args below meth c T locs cells slots := X.forget fun y hy => by cases List.mem_singleton.mp hy; exact ha
theorem own_dropL {L : List Loc} {k : Nat} (X : Stand p l e R s m args below meth c T (locs ++ L) cells slots) (ha : s.heap.size ≤ k) (hL : ∀ y ∈ L, k ≤ y.base) : Stand p l e R s m args below meth c T locs cells slots := X.forget fun y hy => Nat.le_trans ha (hL y hy)
/-- newarray -/
theorem o_newI (X : Stand p l e R s m args below meth c T locs cells slots) (hx : p.tables.exec = Jvm.exec) (hZ : Z.Warmed39 s.vm) (eT : T.heap = h) {aty : ArrayType} {ty : FieldType} (w1 : (Cond.arrayClass ty).before a0 Z = true) (hty : newarray.typeOf aty = ty) (hdv : defaultValue ty = .int 0) (hd : decode c.code pc = .ok (.newarray aty, 2)) (hp : pc + 2 = pc') (hn : ¬ x < 0) {cap : Nat} (hcap : x.toNatClampNeg ≤ cap) (hb : cap * 8 ≤ 536870912) (hc : cells + 1 ≤ R.cells) (hs : slots + cap ≤ R.slots) {vs : List Int32} (hv : List.replicate x.toNatClampNeg 0 = vs)
    (k : ∀ T' h' a, Stand p l e R s m args below meth c T' locs (cells + 1) (slots + cap) → T'.heap = h' → h.size = a → Ext h h' → own_AI Z h' a ty vs → own_Go p e below Q T' (mkF m pc' Ls (.ref a :: rest))) : own_Go p e below Q T (mkF m pc Ls (.int x :: rest)) := by
  subst hp hv hty
  obtain ⟨T', h', cA, X', e', E, A, st⟩ := newP X hx hZ w1 eT (g := mkF m pc Ls (.int x :: rest)) rfl hd rfl hn hcap hb hc hs
  exact own_go st (k T' h' _ X' e' rfl E ⟨_, A, by simp [newA, hdv]⟩)
theorem o_newJ (X : Stand p l e R s m args below meth c T locs cells slots) (hx : p.tables.exec = Jvm.exec) (hZ : Z.Warmed39 s.vm) (eT : T.heap = h) (w1 : (Cond.arrayClass .long).before a0 Z = true) (hd : decode c.code pc = .ok (.newarray .long, 2)) (hp : pc + 2 = pc') (hn : ¬ x < 0) {cap : Nat} (hcap : x.toNatClampNeg ≤ cap) (hb : cap * 8 ≤ 536870912) (hc : cells + 1 ≤ R.cells) (hs : slots + cap ≤ R.slots) {vs : List Int64} (hv : List.replicate x.toNatClampNeg 0 = vs)
    (k : ∀ T' h' a, Stand p l e R s m args below meth c T' locs (cells + 1) (slots + cap) → T'.heap = h' → h.size = a → Ext h h' → own_AJ Z h' a vs → own_Go p e below Q T' (mkF m pc' Ls (.ref a :: rest))) : own_Go p e below Q T (mkF m pc Ls (.int x :: rest)) := by
  subst hp hv
  obtain ⟨T', h', cA, X', e', E, A, st⟩ := newP X hx hZ (aty := .long) w1 eT (g := mkF m pc Ls (.int x :: rest)) rfl hd rfl hn hcap hb hc hs
  exact own_go st (k T' h' _ X' e' rfl E ⟨_, A, by simp [newA, show defaultValue (newarray.typeOf .long) = Value.long 0 from rfl]⟩)
/-- a static call by the callee's contract -/
theorem o_callS (X : Stand p l e R s m args below meth c T locs cells slots) (hx : p.tables.exec = Jvm.exec) (hZ : Z.Warmed39 s.vm) (eT : T.heap = h) {own : String} {index : Nat} {y : MethodName} {bytes : ByteArray} {maxL : Nat} {ret : Option FieldType} {rm : Room} {W : Nat} (hown : s.vm.findClass own = some m.cls)
    (w1 : (Cond.methodLink own index y).before a0 Z = true) (w2 : (Cond.static y).before a0 Z = true) (w3 : (Cond.initialized y.cls).before a0 Z = true) (w4 : (Cond.code y bytes maxL ret).before a0 Z = true) (hy : y.cls ≠ "java/lang/invoke/MethodHandle" ∧ y.cls ≠ "java/lang/invoke/VarHandle") {as' : Array Value} {K : Option Value → Heap → List Loc → Prop}
    (hM : MetFree l y (head1 [Cond.code y bytes maxL ret] rm) (fun a U => a = as' ∧ Z.Warmed39 U.vm ∧ U.heap = h) (fun _ _ _ _ _ => True) (fun _ U o U' => ∃ v L, o = .returned v ∧ K v U'.heap L ∧ FrameEnd U o U' L rm.cells rm.slots))
    (hf : rm.frames + 1 ≤ R.frames) (hl : W + (maxL + 11) + rm.locals ≤ R.locals) (hml : Ls.size = c.maxLocals) {argsL st : List Value} {sig : MethodDescriptor} (hpd : parseMethodDescriptor y.desc = some sig) (hlen : argsL.length = sig.parameters.length) (hst : st = argsL.reverse ++ rest) (has : argsL.toArray = as') (hW : (rest.map fun v => v.category).sum = W)
    (hd : decode c.code pc = .ok (.invokestatic index, 3)) (hp : pc + 3 = pc') (hc : cells + rm.cells ≤ R.cells) (hs : slots + rm.slots ≤ R.slots)
    (k : ∀ v T' L, Stand p l e R s m args below meth c T' (locs ++ L) (cells + rm.cells) (slots + rm.slots) → K v T'.heap L → own_Go p e below Q T' (mkF m pc' Ls (v.toList ++ rest))) : own_Go p e below Q T (mkF m pc Ls st) := by
  subst hp hst has
  obtain ⟨v, _, ⟨T1, L1, k1, n1⟩, -, X1, ⟨Lc, hQ, l1, y1, z1⟩, st1⟩ := Jvm.LawKit.callS X hx hown (mvT hZ w1) (mvT hZ w2) (mvT hZ w3) (mvT hZ w4) hy (backOf (W := W) hM hZ w4 w3 hf hl) (g := mkF m pc Ls (argsL.reverse ++ rest)) rfl hml (argsL := argsL) (rest := rest) (fun sg hsg => by cases hpd.symm.trans hsg; exact hlen) rfl (by show 2 * 0 + _ ≤ _; rw [hW]; omega) hd (fun _ _ => ⟨rfl, eT, hc, hs⟩)
  dsimp only [Pt.U, Pt.locs, Pt.cells, Pt.slots] at X1 l1 y1 z1 st1 hQ
  subst l1 y1 z1
  exact own_go st1 (k v T1 Lc X1 hQ)
/-- a body that writes nothing: what it returns, the heap as it was -/
def own_KP (V : Option Value) (h0 : Heap) : Option Value → Heap → List Loc → Prop := fun v h L => v = V ∧ h = h0 ∧ L = []
/-- a law: what it returns; nothing old is written -/
def own_KL (V : Option Value) : Option Value → Heap → List Loc → Prop := fun v _ L => v = V ∧ L = []
theorem o_callP (X : Stand p l e R s m args below meth c T locs cells slots) (hx : p.tables.exec = Jvm.exec) (hZ : Z.Warmed39 s.vm) (eT : T.heap = h) {own : String} {index : Nat} {y : MethodName} {bytes : ByteArray} {maxL : Nat} {ret : Option FieldType} {rm : Room} {W : Nat} (hown : s.vm.findClass own = some m.cls)
    (w1 : (Cond.methodLink own index y).before a0 Z = true) (w2 : (Cond.static y).before a0 Z = true) (w3 : (Cond.initialized y.cls).before a0 Z = true) (w4 : (Cond.code y bytes maxL ret).before a0 Z = true) (hy : y.cls ≠ "java/lang/invoke/MethodHandle" ∧ y.cls ≠ "java/lang/invoke/VarHandle") {as' : Array Value} {V : Option Value}
    (hM : MetFree l y (head1 [Cond.code y bytes maxL ret] rm) (fun a U => a = as' ∧ Z.Warmed39 U.vm ∧ U.heap = h) (fun _ _ _ _ _ => True) (fun _ U o U' => ∃ v L, o = .returned v ∧ own_KP V h v U'.heap L ∧ FrameEnd U o U' L rm.cells rm.slots))
    (hf : rm.frames + 1 ≤ R.frames) (hl : W + (maxL + 11) + rm.locals ≤ R.locals) (hml : Ls.size = c.maxLocals) {argsL st : List Value} {sig : MethodDescriptor} (hpd : parseMethodDescriptor y.desc = some sig) (hlen : argsL.length = sig.parameters.length) (hst : st = argsL.reverse ++ rest) (has : argsL.toArray = as') (hW : (rest.map fun v => v.category).sum = W)
    (hd : decode c.code pc = .ok (.invokestatic index, 3)) (hp : pc + 3 = pc') (hc0 : rm.cells = 0) (hs0 : rm.slots = 0) (hc : cells + rm.cells ≤ R.cells) (hs : slots + rm.slots ≤ R.slots)
    {st' : List Value} (hst' : V.toList ++ rest = st')
    (k : ∀ T', Stand p l e R s m args below meth c T' locs cells slots → T'.heap = h → own_Go p e below Q T' (mkF m pc' Ls st')) : own_Go p e below Q T (mkF m pc Ls st) := by
  subst hst'
  refine o_callS X hx hZ eT hown w1 w2 w3 w4 hy hM hf hl hml hpd hlen hst has hW hd hp hc hs fun v T' L X' hK => ?_
  obtain ⟨rfl, e', rfl⟩ := hK
  rw [hc0, hs0, List.append_nil] at X'
  exact k T' X' e'
theorem own_snoc {a : Addr} {L : List Loc} {j : Nat} (N : ∀ y ∈ L, y.base = a) : ∀ y ∈ L ++ [⟨a, j⟩], y.base = a := fun y hy => (List.mem_append.mp hy).elim (N y) fun q => by cases List.mem_singleton.mp q; rfl
theorem own_nil (X : Stand p l e R s m args below meth c T (locs ++ []) cells slots) : Stand p l e R s m args below meth c T locs cells slots := by rw [List.append_nil] at X; exact X
/-- a body that writes into the array a alone -/
def own_KW (Z : State) (a : Addr) (ty : FieldType) (vs : List Int32) (h0 : Heap) : Option Value → Heap → List Loc → Prop := fun v h L => v = none ∧ (∀ y ∈ L, y.base = a) ∧ Keep h0 h [a] ∧ own_AI Z h a ty vs
def own_KWJ (Z : State) (a : Addr) (vs : List Int64) (h0 : Heap) : Option Value → Heap → List Loc → Prop := fun v h L => v = none ∧ (∀ y ∈ L, y.base = a) ∧ Keep h0 h [a] ∧ own_AJ Z h a vs
/-- a body that makes an array and hands it back -/
def own_KM (Z : State) (ty : FieldType) (vs : List Int32) (h0 : Heap) : Option Value → Heap → List Loc → Prop := fun v h L => ∃ b, v = some (.ref b) ∧ L = [] ∧ Keep h0 h [] ∧ h0.size ≤ b ∧ own_AI Z h b ty vs
/-- a store over a local that held nothing or one word -/
theorem o_istoreNS (X : Stand p l e R s m args below meth c T locs cells slots) (hx : p.tables.exec = Jvm.exec) {k : Fin 4} {o : Slot} (hd : decode c.code pc = .ok (.istore_n k, 1)) (hold : Ls[k.val]? = some o) (ho : One o) (hl : Ls.setIfInBounds k.val (.val (.int x)) = l') (hp : pc + 1 = pc') (q : own_Go p e below Q T (mkF m pc' l' rest)) : own_Go p e below Q T (mkF m pc Ls (.int x :: rest)) := by
  subst hp hl; exact own_go (fun t k' => XS.istoreNS X.here hx rfl hd rfl hold ho k') q
theorem o_istoreS (X : Stand p l e R s m args below meth c T locs cells slots) (hx : p.tables.exec = Jvm.exec) {k : Nat} {o : Slot} (hd : decode c.code pc = .ok (.istore k, 2)) (hold : Ls[k]? = some o) (ho : One o) (hl : Ls.setIfInBounds k (.val (.int x)) = l') (hp : pc + 2 = pc') (q : own_Go p e below Q T (mkF m pc' l' rest)) : own_Go p e below Q T (mkF m pc Ls (.int x :: rest)) := by
  subst hp hl; exact own_go (fun t k' => XS.istoreS X.here hx rfl hd rfl hold ho k') q
theorem o_astoreS (X : Stand p l e R s m args below meth c T locs cells slots) (hx : p.tables.exec = Jvm.exec) {k : Nat} {o : Slot} {v : Value} (hd : decode c.code pc = .ok (.astore k, 2)) (hv : v.isRef = true) (hcat : v.category = 1) (hold : Ls[k]? = some o) (ho : One o) (hl : Ls.setIfInBounds k (.val v) = l') (hp : pc + 2 = pc') (q : own_Go p e below Q T (mkF m pc' l' rest)) : own_Go p e below Q T (mkF m pc Ls (v :: rest)) := by
  subst hp hl; exact own_go (fun t k' => XS.astoreS X.here hx rfl hd rfl hv hcat hold ho k') q
end OwnKit
/-! own facts on numbers (with kit/NumsL) -/
theorem own_tmod (x y : Int32) : (own_rem x y).toInt = x.toInt.tmod y.toInt := by
  have a := (x % y).toInt_lt; have b := (x % y).le_toInt
  rw [Int32.toInt_mod] at a b
  show (x - (x / y) * y).toInt = _
  rw [Int32.toInt_sub, Int32.toInt_mul, Int32.toInt_div, Int.bmod_mul_bmod, Int.sub_bmod_bmod, Int.mul_comm, ← Int.tmod_def]
  exact Jvm.Kit.bmod32 b a
theorem own_emod {x y : Int32} (hx : 0 ≤ x.toInt) : (own_rem x y).toInt = x.toInt % y.toInt := by rw [own_tmod, Int.tmod_eq_emod_of_nonneg hx]
theorem own_lemod {u w : Int64} (hx : 0 ≤ u.toInt) : (own_lrem u w).toInt = u.toInt % w.toInt := Jvm.Kit.i64_rem_nonneg hx
theorem own_max (x : Int32) : (x &&& 2147483647).toInt = x.toInt % 2 ^ 31 := Jvm.Kit.i32_mask x 2147483647 (by decide) (by decide)
/-- x >>> k, k a number from 1 to 31, as a division of the number without sign -/
theorem own_ushr_toNat (x y : Int32) {k : Nat} (hk : (y &&& 31).toUInt32.toNat = k) (h1 : k < 32) : (own_ushr x y).toBitVec.toNat = x.toBitVec.toNat / 2 ^ k := by
  show ((x.toUInt32 >>> (y &&& 31).toUInt32).toInt32).toBitVec.toNat = _
  rw [UInt32.toBitVec_toInt32, UInt32.toBitVec_shiftRight]
  have e : ((y &&& 31).toUInt32.toBitVec % 32).toNat = k := by
    have e0 : (y &&& 31).toUInt32.toBitVec.toNat = k := hk
    rw [BitVec.toNat_umod, e0]
    exact Nat.mod_eq_of_lt h1
  show (x.toBitVec >>> ((y &&& 31).toUInt32.toBitVec % 32).toNat).toNat = _
  rw [e, BitVec.toNat_ushiftRight, Nat.shiftRight_eq_div_pow]
theorem own_ushr_toInt (x y : Int32) {k : Nat} (hk : (y &&& 31).toUInt32.toNat = k) (h0 : 0 < k) (h1 : k < 32) : (own_ushr x y).toInt = (x.toBitVec.toNat / 2 ^ k : Nat) := by
  have h := own_ushr_toNat x y hk h1
  have hb := x.toBitVec.isLt
  have h2 : x.toBitVec.toNat / 2 ^ k ≤ x.toBitVec.toNat / 2 ^ 1 := Nat.div_le_div_left (Nat.pow_le_pow_right (by decide) h0) (by decide)
  have e : (own_ushr x y).toInt = (own_ushr x y).toBitVec.toInt := rfl
  rw [e, BitVec.toInt_eq_toNat_cond, h, if_pos (by omega)]
theorem own_in_of {n : Nat} {j : Int32} (h0 : 0 ≤ j.toInt) (h1 : j.toInt < n) : own_in n j := by
  refine ⟨fun q => ?_, ?_⟩
  · rw [Int32.lt_iff_toInt_lt] at q
    have : (0 : Int32).toInt = 0 := rfl
    omega
  · rw [Int32.toNatClampNeg]; omega
theorem own_lt {x y : Int32} : x < y ↔ x.toInt < y.toInt := Int32.lt_iff_toInt_lt
theorem own_eq {x y : Int32} : x = y ↔ x.toInt = y.toInt := Int32.toInt_inj.symm
theorem own_ltL {x y : Int64} : x < y ↔ x.toInt < y.toInt := Int64.lt_iff_toInt_lt
theorem own_eqL {x y : Int64} : x = y ↔ x.toInt = y.toInt := Int64.toInt_inj.symm
theorem own_nat_toInt {k : Nat} (h : k < 2 ^ 31) : (Int32.ofNat k).toInt = k := Int32.toInt_ofNat_of_lt (by omega)
theorem own_nat_lt {i n : Nat} (hi : i < 2 ^ 31) (hn : n < 2 ^ 31) : Int32.ofNat i < Int32.ofNat n ↔ i < n := by
  rw [own_lt, own_nat_toInt hi, own_nat_toInt hn]; omega
theorem own_nat_one (i : Nat) : Int32.ofNat i + (1 : Int32) = Int32.ofNat (i + 1) := (Int32.ofNat_add i 1).symm
theorem own_nat_clamp {k : Nat} (h : k < 2 ^ 31) : (Int32.ofNat k).toNatClampNeg = k := by
  rw [Int32.toNatClampNeg, own_nat_toInt h]; rfl
theorem own_nat_get (v : List Int32) {k : Nat} (h : k < 2 ^ 31) : own_get v (Int32.ofNat k) = v.getD k 0 := by rw [own_get, own_nat_clamp h]
theorem own_nat_in {n k : Nat} (h : k < n) (hk : k < 2 ^ 31) : own_in n (Int32.ofNat k) := own_in_of (by rw [own_nat_toInt hk]; omega) (by rw [own_nat_toInt hk]; omega)
theorem own_nat_of {x : Int32} (h : 0 ≤ x.toInt) : ∃ k : Nat, x = Int32.ofNat k ∧ (k : Int) = x.toInt ∧ k < 2 ^ 31 := by
  have u := x.toInt_lt
  refine ⟨x.toInt.toNat, ?_, by omega, by omega⟩
  rw [own_eq, own_nat_toInt (by omega)]; omega
theorem own_nat_sub {a b : Nat} (ha : a < 2 ^ 31) (h : b ≤ a) : Int32.ofNat a - Int32.ofNat b = Int32.ofNat (a - b) := by
  have e1 := own_nat_toInt ha
  have e2 := own_nat_toInt (k := b) (by omega)
  have e3 := own_nat_toInt (k := a - b) (by omega)
  rw [own_eq, Jvm.Kit.i32_sub (by omega) (by omega)]
  omega
theorem own_i2b2 (x : Int32) : own_i2b (own_i2b x) = own_i2b x := by
  show (x.toInt8.toInt32).toInt8.toInt32 = x.toInt8.toInt32
  rw [Int8.toInt8_toInt32]
/-- a hash: 31 * h + the next, count times from place i on -/
def own_h (v : List Int32) : Int32 → Nat → Nat → Int32
  | h, _, 0 => h
  | h, i, c + 1 => own_h v (31 * h + v.getD i 0) (i + 1) c
def own_p : Nat → Int32
  | 0 => 1
  | n + 1 => 31 * own_p n
def own_sum (v : List Int32) : Nat → Nat → Int32
  | _, 0 => 0
  | i, c + 1 => v.getD i 0 * own_p c + own_sum v (i + 1) c
theorem own_h_eq (v : List Int32) : ∀ (c : Nat) (h : Int32) (i : Nat), own_h v h i c = h * own_p c + own_sum v i c := by
  intro c
  induction c with
  | zero => intro h i; simp only [own_h, own_p, own_sum, Int32.mul_one, Int32.add_zero]
  | succ c ih =>
    intro h i
    rw [own_h, ih, own_p, own_sum, Int32.add_mul, Int32.mul_comm 31 h, Int32.mul_assoc, Int32.add_assoc]
theorem own_toNat (x : Int32) : (x.toBitVec.toNat : Int) = x.toInt % 2 ^ 32 := by
  have e : x.toInt = x.toBitVec.toInt := rfl
  have h := x.toBitVec.isLt
  rw [e, BitVec.toInt_eq_toNat_cond]
  split <;> omega
theorem pd_0 : parseMethodDescriptor "(JJ)J" = some ⟨[.long, .long], some .long⟩ := by decide +kernel
theorem d1_0 : decode prog_89_method_4_code 0 = .ok (.lload_n 0, 1) := by decide +kernel
theorem d1_1 : decode prog_89_method_4_code 1 = .ok (.lload_n 2, 1) := by decide +kernel
theorem d1_2 : decode prog_89_method_4_code 2 = .ok (.ladd, 1) := by decide +kernel
theorem d1_3 : decode prog_89_method_4_code 3 = .ok (.lstore 4, 2) := by decide +kernel
theorem d1_5 : decode prog_89_method_4_code 5 = .ok (.lload 4, 2) := by decide +kernel
theorem d1_7 : decode prog_89_method_4_code 7 = .ok (.lload_n 0, 1) := by decide +kernel
theorem d1_8 : decode prog_89_method_4_code 8 = .ok (.lcmp, 1) := by decide +kernel
theorem d1_9 : decode prog_89_method_4_code 9 = .ok (.ifCond .ge 7, 3) := by decide +kernel
theorem d1_12 : decode prog_89_method_4_code 12 = .ok (.invokestatic 73, 3) := by decide +kernel
theorem d1_15 : decode prog_89_method_4_code 15 = .ok (.athrow, 1) := by decide +kernel
theorem d1_16 : decode prog_89_method_4_code 16 = .ok (.lload 4, 2) := by decide +kernel
theorem d1_18 : decode prog_89_method_4_code 18 = .ok (.lreturn, 1) := by decide +kernel
section Body1
variable {p : Program} {l : Launch} {e : Env} {s : State} {m : MethodId} {args : Array Value} {below : List Frame} {meth : Method} {c : Code} {Z : State} {ag : Array Value} {K : Option Value → Heap → List Loc → Prop}
abbrev R1 : Room := { frames := 0, cells := 0, slots := 0, locals := 0 }
abbrev cc1 : Nat := 0
abbrev ss1 : Nat := 0
def f1_0 (q0 : Int64) (q1 : Int64) : Int64 := (if (q0 + q1) < q0 then 0 else (q0 + q1))
def s1_0 (q0 : Int64) (q1 : Int64) : Prop := (((q0 + q1) < q0 → False) ∧ (¬ ((q0 + q1) < q0) → True))
set_option maxRecDepth 65536 in
set_option maxHeartbeats 40000000 in
theorem b1_0 (C : own_Cx p s m meth c Z ag prog_89_method_4_code 6 "com/example/doubs/doubs/simulation/VirtualTime" (some .long) "plus") {T : State} {h : Heap} (q0 : Int64) (q1 : Int64) (X : Stand p l e R1 s m args below meth c T [] 0 0) (eT : T.heap = h) (hs : s1_0 q0 q1) (hK : K (some (.long (f1_0 q0 q1))) h []) : own_Go p e below (own_Q s K cc1 ss1) T (mkF m 0 #[.val (.long q0), .second, .val (.long q1), .second, .unset, .unset] []) := by
  obtain ⟨hx, hZ, hw, hby, hml, hown, hret, hlk, hnm⟩ := id C
  unfold f1_0 at hK
  unfold s1_0 at hs
  refine o_lloadN (pc' := 1) X hx (hb hby d1_0) rfl rfl ?_
  refine o_lloadN (pc' := 2) X hx (hb hby d1_1) rfl rfl ?_
  refine o_ladd (pc' := 3)  X hx (hb hby d1_2) rfl rfl ?_
  refine o_lstore (pc' := 5) (l' := #[.val (.long q0), .second, .val (.long q1), .second, .val (.long (q0 + q1)), .second]) X hx (hb hby d1_3) rfl rfl ?_
  refine o_lload (pc' := 7) X hx (hb hby d1_5) rfl rfl ?_
  refine o_lloadN (pc' := 8) X hx (hb hby d1_7) rfl rfl ?_
  refine o_lcmp (pc' := 9) X hx (hb hby d1_8) rfl ?_
  refine o_ifN (P := (q0 + q1) < q0) (pc1 := 16) (pc2 := 12) X hx XT.ll_ge_f XT.ll_ge_t (hb hby d1_9) (by decide) (by decide) rfl (fun c1 => ?_) (fun c1 => ?_)
  · rw [if_neg c1] at hK
    refine o_lload (pc' := 18) X hx (hb hby d1_16) rfl rfl ?_
    exact o_retL X hx hret hlk (hb hby d1_18) (by decide) (by decide) eT (hK)
  · rw [if_pos c1] at hK
    exact False.elim (hs.1 c1)

end Body1
theorem pn_VirtualTime : plainName "com/example/doubs/doubs/simulation/VirtualTime" = true := by first | (simp [plainName, overriddenIn]; done) | decide +kernel
theorem ef_1 (m : MethodId) (q0 : Int64) (q1 : Int64) : entryFrame m #[(.long q0), (.long q1)] 6 = mkF m 0 #[.val (.long q0), .second, .val (.long q1), .second, .unset, .unset] [] := by first | (simp [entryFrame, mkF, argsToLocals, Value.category]; done) | rfl
set_option maxRecDepth 65536 in
set_option maxHeartbeats 40000000 in
theorem rm1 (l : Launch) (Z : State) (ag : Array Value) (hw : ∀ d ∈ tables_1, d.before ag Z = true) (ws : List Jvm.Cond) (q0 : Int64) (q1 : Int64) (h0 : Heap) (hs : s1_0 q0 q1) :
    MetFree l (⟨"com/example/doubs/doubs/simulation/VirtualTime", "plus", "(JJ)J"⟩ : MethodName) (head1 (Jvm.Cond.code (⟨"com/example/doubs/doubs/simulation/VirtualTime", "plus", "(JJ)J"⟩ : MethodName) prog_89_method_4_code 6 (some .long) :: ws) R1) (fun a U => a = #[(.long q0), (.long q1)] ∧ Z.Warmed39 U.vm ∧ U.heap = h0) (fun _ _ _ _ _ => True) (fun _ U o U' => ∃ v L, o = .returned v ∧ own_KP (some (.long (f1_0 q0 q1))) h0 v U'.heap L ∧ FrameEnd U o U' L R1.cells R1.slots) := by
  refine MetFree.of_bodySF (plainFor_of_name pn_VirtualTime) hisR ?_
  intro p e s m args below meth c s₁ Bd hml0 hP hK
  obtain ⟨rfl, hZ, hh⟩ := hP
  have C : own_Cx p s m meth c Z ag prog_89_method_4_code 6 "com/example/doubs/doubs/simulation/VirtualTime" (some .long) "plus" := ⟨Bd.exec, hZ, hw, Bd.bytes, hml0, findClass_of_methodNamed Bd.named, Bd.returns, Bd.notSynchronized, (name_of_methodNamed Bd.named Bd.method).1⟩
  have X0 : Stand p l e R1 s m #[(.long q0), (.long q1)] below meth c s₁ [] 0 0 := Stand.of_body Bd
  have e0 : s₁.heap = h0 := by rw [← hh, Bd.state]; rfl
  rw [ef_1]
  exact b1_0 (K := own_KP (some (.long (f1_0 q0 q1))) h0) C q0 q1 X0 e0 hs ⟨rfl, rfl, rfl⟩

section Body0
variable {p : Program} {l : Launch} {e : Env} {s : State} {m : MethodId} {args : Array Value} {below : List Frame} {meth : Method} {c : Code} {Z : State} {ag : Array Value} {K : Option Value → Heap → List Loc → Prop}
abbrev R0 : Room := room_1
abbrev cc0 : Nat := 0
abbrev ss0 : Nat := 0
def f0_81 : Int32 := (0 : Int32)
set_option maxRecDepth 65536 in
set_option maxHeartbeats 40000000 in
theorem b0_81 (C : own_Cx p s m meth c Z ag code maxLocals "com/example/doubs/doubs/simulation/VirtualTimePlusPinLaw" ret "law") {T : State} {h : Heap} {z0 : Int64} {z2 : Int64} {z4 : Int64} {z6 : Int64} {z8 : Int64} {z10 : Int64} (X : Stand p l e R0 s m args below meth c T [] 0 0) (eT : T.heap = h) (hK : ∀ h', K (some (.int (f0_81))) h' []) : own_Go p e below (own_Q s K cc0 ss0) T (mkF m 81 #[.val (.long z0), .second, .val (.long z2), .second, .val (.long z4), .second, .val (.long z6), .second, .val (.long z8), .second, .val (.long z10), .second] [(.int (0 : Int32))]) := by
  obtain ⟨hx, hZ, hw, hby, hml, hown, hret, hlk, hnm⟩ := id C
  unfold f0_81 at hK
  exact o_retN X hx (t := .boolean) hret (by simp) hlk (hb hby at_81) (by decide) (by decide) eT (hK _)

def f0_80 : Int32 := f0_81
set_option maxRecDepth 65536 in
set_option maxHeartbeats 40000000 in
theorem b0_80 (C : own_Cx p s m meth c Z ag code maxLocals "com/example/doubs/doubs/simulation/VirtualTimePlusPinLaw" ret "law") {T : State} {h : Heap} {z0 : Int64} {z2 : Int64} {z4 : Int64} {z6 : Int64} {z8 : Int64} {z10 : Int64} (X : Stand p l e R0 s m args below meth c T [] 0 0) (eT : T.heap = h) (hK : ∀ h', K (some (.int (f0_80))) h' []) : own_Go p e below (own_Q s K cc0 ss0) T (mkF m 80 #[.val (.long z0), .second, .val (.long z2), .second, .val (.long z4), .second, .val (.long z6), .second, .val (.long z8), .second, .val (.long z10), .second] []) := by
  obtain ⟨hx, hZ, hw, hby, hml, hown, hret, hlk, hnm⟩ := id C
  unfold f0_80 at hK
  refine o_iconst (pc' := 81) (x := (0 : Int32)) X hx (hb hby at_80) (by decide) rfl ?_
  exact b0_81 C X eT hK

def f0_81_4 : Int32 := (1 : Int32)
set_option maxRecDepth 65536 in
set_option maxHeartbeats 40000000 in
theorem b0_81_4 (C : own_Cx p s m meth c Z ag code maxLocals "com/example/doubs/doubs/simulation/VirtualTimePlusPinLaw" ret "law") {T : State} {h : Heap} {z0 : Int64} {z2 : Int64} {z4 : Int64} {z6 : Int64} {z8 : Int64} {z10 : Int64} (X : Stand p l e R0 s m args below meth c T [] 0 0) (eT : T.heap = h) (hK : ∀ h', K (some (.int (f0_81_4))) h' []) : own_Go p e below (own_Q s K cc0 ss0) T (mkF m 81 #[.val (.long z0), .second, .val (.long z2), .second, .val (.long z4), .second, .val (.long z6), .second, .val (.long z8), .second, .val (.long z10), .second] [(.int (1 : Int32))]) := by
  obtain ⟨hx, hZ, hw, hby, hml, hown, hret, hlk, hnm⟩ := id C
  unfold f0_81_4 at hK
  exact o_retN X hx (t := .boolean) hret (by simp) hlk (hb hby at_81) (by decide) (by decide) eT (hK _)

def f0_40 (x4 : Int64) (x8 : Int64) : Int32 := (if ((f1_0 x4 x8) - x8) = x4 then (if (f1_0 x4 x8) < x4 then f0_80 else (if (f1_0 x4 x8) < x8 then f0_80 else f0_81_4)) else f0_80)
def s0_40 (x4 : Int64) (x8 : Int64) : Prop := ((s1_0 x4 x8) ∧ True)
set_option maxRecDepth 65536 in
set_option maxHeartbeats 40000000 in
theorem b0_40 (C : own_Cx p s m meth c Z ag code maxLocals "com/example/doubs/doubs/simulation/VirtualTimePlusPinLaw" ret "law") {T : State} {h : Heap} {z0 : Int64} {z2 : Int64} {z6 : Int64} (x4 : Int64) (x8 : Int64) (X : Stand p l e R0 s m args below meth c T [] 0 0) (eT : T.heap = h) (hs : s0_40 x4 x8) (hK : ∀ h', K (some (.int (f0_40 x4 x8))) h' []) : own_Go p e below (own_Q s K cc0 ss0) T (mkF m 40 #[.val (.long z0), .second, .val (.long z2), .second, .val (.long x4), .second, .val (.long z6), .second, .val (.long x8), .second, .unset, .unset] []) := by
  obtain ⟨hx, hZ, hw, hby, hml, hown, hret, hlk, hnm⟩ := id C
  unfold f0_40 at hK
  unfold s0_40 at hs
  refine o_lload (pc' := 42) X hx (hb hby at_40) rfl rfl ?_
  refine o_lload (pc' := 44) X hx (hb hby at_42) rfl rfl ?_
  refine o_callP (W := 0) (pc' := 47) (argsL := [(.long x4), (.long x8)]) (rest := []) (st' := [(.long (f1_0 x4 x8))]) X hx hZ eT hown (hw _ (List.mem_of_getElem? (i := 1) rfl)) (hw _ (List.mem_of_getElem? (i := 2) rfl)) (hw _ (List.mem_of_getElem? (i := 3) rfl)) (hw _ (List.mem_of_getElem? (i := 4) rfl)) (by decide) (rm1 l Z ag hw [] x4 x8 h hs.1) (by decide) (by decide) (by rw [hml]; rfl) pd_0 rfl rfl rfl rfl (hb hby at_44) rfl rfl rfl (by decide) (by decide) rfl fun T3 X3 e3 => ?_
  refine o_lstore (pc' := 49) (l' := #[.val (.long z0), .second, .val (.long z2), .second, .val (.long x4), .second, .val (.long z6), .second, .val (.long x8), .second, .val (.long (f1_0 x4 x8)), .second]) X3 hx (hb hby at_47) rfl rfl ?_
  refine o_lload (pc' := 51) X3 hx (hb hby at_49) rfl rfl ?_
  refine o_lload (pc' := 53) X3 hx (hb hby at_51) rfl rfl ?_
  refine o_lsub (pc' := 54)  X3 hx (hb hby at_53) rfl rfl ?_
  refine o_lload (pc' := 56) X3 hx (hb hby at_54) rfl rfl ?_
  refine o_lcmp (pc' := 57) X3 hx (hb hby at_56) rfl ?_
  refine o_ifN (P := ((f1_0 x4 x8) - x8) = x4) (pc1 := 80) (pc2 := 60) X3 hx XT.ll_ne_f XT.ll_ne_t (hb hby at_57) (by decide) (by decide) rfl (fun c4 => ?_) (fun c4 => ?_)
  · rw [if_neg c4] at hK
    exact b0_80 C X3 e3 hK
  · rw [if_pos c4] at hK
    refine o_lload (pc' := 62) X3 hx (hb hby at_60) rfl rfl ?_
    refine o_lload (pc' := 64) X3 hx (hb hby at_62) rfl rfl ?_
    refine o_lcmp (pc' := 65) X3 hx (hb hby at_64) rfl ?_
    refine o_ifP (P := (f1_0 x4 x8) < x4) (pc1 := 80) (pc2 := 68) X3 hx XT.ll_lt_t XT.ll_lt_f (hb hby at_65) (by decide) (by decide) rfl (fun c5 => ?_) (fun c5 => ?_)
    · rw [if_pos c5] at hK
      exact b0_80 C X3 e3 hK
    · rw [if_neg c5] at hK
      refine o_lload (pc' := 70) X3 hx (hb hby at_68) rfl rfl ?_
      refine o_lload (pc' := 72) X3 hx (hb hby at_70) rfl rfl ?_
      refine o_lcmp (pc' := 73) X3 hx (hb hby at_72) rfl ?_
      refine o_ifP (P := (f1_0 x4 x8) < x8) (pc1 := 80) (pc2 := 76) X3 hx XT.ll_lt_t XT.ll_lt_f (hb hby at_73) (by decide) (by decide) rfl (fun c6 => ?_) (fun c6 => ?_)
      · rw [if_pos c6] at hK
        exact b0_80 C X3 e3 hK
      · rw [if_neg c6] at hK
        refine o_iconst (pc' := 77) (x := (1 : Int32)) X3 hx (hb hby at_76) (by decide) rfl ?_
        refine o_goto (pc' := 81) X3 hx (hb hby at_77) (by decide) (by decide) ?_
        exact b0_81_4 C X3 e3 hK

def f0_0 (q0 : Int64) (q1 : Int64) : Int32 := (if ((9223372036854775807 : Int64) - (q0 &&& (9223372036854775807 : Int64))) = (9223372036854775807 : Int64) then (f0_40 (q0 &&& (9223372036854775807 : Int64)) (q1 &&& (9223372036854775807 : Int64))) else (f0_40 (q0 &&& (9223372036854775807 : Int64)) (own_lrem (q1 &&& (9223372036854775807 : Int64)) (((9223372036854775807 : Int64) - (q0 &&& (9223372036854775807 : Int64))) + (1 : Int64)))))
def s0_0 (q0 : Int64) (q1 : Int64) : Prop := ((((9223372036854775807 : Int64) - (q0 &&& (9223372036854775807 : Int64))) = (9223372036854775807 : Int64) → s0_40 (q0 &&& (9223372036854775807 : Int64)) (q1 &&& (9223372036854775807 : Int64))) ∧ (¬ (((9223372036854775807 : Int64) - (q0 &&& (9223372036854775807 : Int64))) = (9223372036854775807 : Int64)) → (¬ ((((9223372036854775807 : Int64) - (q0 &&& (9223372036854775807 : Int64))) + (1 : Int64)) = 0) ∧ s0_40 (q0 &&& (9223372036854775807 : Int64)) (own_lrem (q1 &&& (9223372036854775807 : Int64)) (((9223372036854775807 : Int64) - (q0 &&& (9223372036854775807 : Int64))) + (1 : Int64))))))
set_option maxRecDepth 65536 in
set_option maxHeartbeats 40000000 in
theorem b0_0 (C : own_Cx p s m meth c Z ag code maxLocals "com/example/doubs/doubs/simulation/VirtualTimePlusPinLaw" ret "law") {T : State} {h : Heap} (q0 : Int64) (q1 : Int64) (X : Stand p l e R0 s m args below meth c T [] 0 0) (eT : T.heap = h) (hs : s0_0 q0 q1) (hK : ∀ h', K (some (.int (f0_0 q0 q1))) h' []) : own_Go p e below (own_Q s K cc0 ss0) T (mkF m 0 #[.val (.long q0), .second, .val (.long q1), .second, .unset, .unset, .unset, .unset, .unset, .unset, .unset, .unset] []) := by
  obtain ⟨hx, hZ, hw, hby, hml, hown, hret, hlk, hnm⟩ := id C
  unfold f0_0 at hK
  unfold s0_0 at hs
  refine o_lloadN (pc' := 1) X hx (hb hby at_0) rfl rfl ?_
  refine o_ldcL (pc' := 4) X hx hZ hown (hw _ (List.mem_of_getElem? (i := 0) rfl)) (hb hby at_1) rfl ?_
  refine o_land (pc' := 5)  X hx (hb hby at_4) rfl rfl ?_
  refine o_lstore (pc' := 7) (l' := #[.val (.long q0), .second, .val (.long q1), .second, .val (.long (q0 &&& (9223372036854775807 : Int64))), .second, .unset, .unset, .unset, .unset, .unset, .unset]) X hx (hb hby at_5) rfl rfl ?_
  refine o_ldcL (pc' := 10) X hx hZ hown (hw _ (List.mem_of_getElem? (i := 0) rfl)) (hb hby at_7) rfl ?_
  refine o_lload (pc' := 12) X hx (hb hby at_10) rfl rfl ?_
  refine o_lsub (pc' := 13)  X hx (hb hby at_12) rfl rfl ?_
  refine o_lstore (pc' := 15) (l' := #[.val (.long q0), .second, .val (.long q1), .second, .val (.long (q0 &&& (9223372036854775807 : Int64))), .second, .val (.long ((9223372036854775807 : Int64) - (q0 &&& (9223372036854775807 : Int64)))), .second, .unset, .unset, .unset, .unset]) X hx (hb hby at_13) rfl rfl ?_
  refine o_lloadN (pc' := 16) X hx (hb hby at_15) rfl rfl ?_
  refine o_ldcL (pc' := 19) X hx hZ hown (hw _ (List.mem_of_getElem? (i := 0) rfl)) (hb hby at_16) rfl ?_
  refine o_land (pc' := 20)  X hx (hb hby at_19) rfl rfl ?_
  refine o_lstore (pc' := 22) (l' := #[.val (.long q0), .second, .val (.long q1), .second, .val (.long (q0 &&& (9223372036854775807 : Int64))), .second, .val (.long ((9223372036854775807 : Int64) - (q0 &&& (9223372036854775807 : Int64)))), .second, .val (.long (q1 &&& (9223372036854775807 : Int64))), .second, .unset, .unset]) X hx (hb hby at_20) rfl rfl ?_
  refine o_lload (pc' := 24) X hx (hb hby at_22) rfl rfl ?_
  refine o_ldcL (pc' := 27) X hx hZ hown (hw _ (List.mem_of_getElem? (i := 0) rfl)) (hb hby at_24) rfl ?_
  refine o_lcmp (pc' := 28) X hx (hb hby at_27) rfl ?_
  refine o_ifP (P := ((9223372036854775807 : Int64) - (q0 &&& (9223372036854775807 : Int64))) = (9223372036854775807 : Int64)) (pc1 := 40) (pc2 := 31) X hx XT.ll_eq_t XT.ll_eq_f (hb hby at_28) (by decide) (by decide) rfl (fun c2 => ?_) (fun c2 => ?_)
  · rw [if_pos c2] at hK
    exact b0_40 C (q0 &&& (9223372036854775807 : Int64)) (q1 &&& (9223372036854775807 : Int64)) X eT (hs.1 c2) hK
  · rw [if_neg c2] at hK
    refine o_lload (pc' := 33) X hx (hb hby at_31) rfl rfl ?_
    refine o_lload (pc' := 35) X hx (hb hby at_33) rfl rfl ?_
    refine o_lconst (pc' := 36) (u := (1 : Int64)) X hx (hb hby at_35) (by decide) rfl ?_
    refine o_ladd (pc' := 37)  X hx (hb hby at_36) rfl rfl ?_
    refine o_lrem (pc' := 38)  X hx (hb hby at_37) rfl (hs.2 c2).1 rfl ?_
    refine o_lstore (pc' := 40) (l' := #[.val (.long q0), .second, .val (.long q1), .second, .val (.long (q0 &&& (9223372036854775807 : Int64))), .second, .val (.long ((9223372036854775807 : Int64) - (q0 &&& (9223372036854775807 : Int64)))), .second, .val (.long (own_lrem (q1 &&& (9223372036854775807 : Int64)) (((9223372036854775807 : Int64) - (q0 &&& (9223372036854775807 : Int64))) + (1 : Int64)))), .second, .unset, .unset]) X hx (hb hby at_38) rfl rfl ?_
    exact b0_40 C (q0 &&& (9223372036854775807 : Int64)) (own_lrem (q1 &&& (9223372036854775807 : Int64)) (((9223372036854775807 : Int64) - (q0 &&& (9223372036854775807 : Int64))) + (1 : Int64))) X eT (hs.2 c2).2 hK

end Body0
theorem pn_VirtualTimePlusPinLaw : plainName "com/example/doubs/doubs/simulation/VirtualTimePlusPinLaw" = true := by first | (simp [plainName, overriddenIn]; done) | decide +kernel
theorem ef_0 (m : MethodId) (q0 : Int64) (q1 : Int64) : entryFrame m #[(.long q0), (.long q1)] maxLocals = mkF m 0 #[.val (.long q0), .second, .val (.long q1), .second, .unset, .unset, .unset, .unset, .unset, .unset, .unset, .unset] [] := by first | (simp [entryFrame, mkF, argsToLocals, Value.category, maxLocals]; done) | rfl
set_option maxRecDepth 65536 in
set_option maxHeartbeats 40000000 in
theorem rm0 (l : Launch) (Z : State) (ag : Array Value) (hw : ∀ d ∈ tables_1, d.before ag Z = true) (ws : List Jvm.Cond) (q0 : Int64) (q1 : Int64) (h0 : Heap) (hs : s0_0 q0 q1) :
    MetFree l x (head1 (Jvm.Cond.code x code maxLocals ret :: ws) R0) (fun a U => a = #[(.long q0), (.long q1)] ∧ Z.Warmed39 U.vm ∧ U.heap = h0) (fun _ _ _ _ _ => True) (fun _ U o U' => ∃ v L, o = .returned v ∧ own_KL (some (.int (f0_0 q0 q1))) v U'.heap L ∧ FrameEnd U o U' L cc0 ss0) := by
  refine MetFree.of_bodySF (plainFor_of_name pn_VirtualTimePlusPinLaw) hisR ?_
  intro p e s m args below meth c s₁ Bd hml0 hP hK
  obtain ⟨rfl, hZ, hh⟩ := hP
  have C : own_Cx p s m meth c Z ag code maxLocals "com/example/doubs/doubs/simulation/VirtualTimePlusPinLaw" ret "law" := ⟨Bd.exec, hZ, hw, Bd.bytes, hml0, findClass_of_methodNamed Bd.named, Bd.returns, Bd.notSynchronized, (name_of_methodNamed Bd.named Bd.method).1⟩
  have X0 : Stand p l e R0 s m #[(.long q0), (.long q1)] below meth c s₁ [] 0 0 := Stand.of_body Bd
  have e0 : s₁.heap = h0 := by rw [← hh, Bd.state]; rfl
  rw [ef_0]
  exact b0_0 (K := own_KL (some (.int (f0_0 q0 q1)))) C q0 q1 X0 e0 hs (fun _ => ⟨rfl, rfl⟩)

theorem own_key (t d : Int64) (h0 : 0 ≤ t.toInt) (h1 : 0 ≤ d.toInt) (h2 : t.toInt + d.toInt < 2 ^ 63) : s0_40 t d ∧ f0_40 t d = 1 := by
  have e : (t + d).toInt = t.toInt + d.toInt := Jvm.Kit.i64_add (by omega) h2
  have n1 : ¬ (t + d) < t := by rw [own_ltL]; omega
  have n2 : ¬ (t + d) < d := by rw [own_ltL]; omega
  have e2 : (t + d) - d = t := by
    rw [own_eqL, Jvm.Kit.i64_sub (by omega) (by omega)]; omega
  have f : f1_0 t d = t + d := by unfold f1_0; rw [if_neg n1]
  constructor
  · exact ⟨⟨fun q => n1 q, fun _ => trivial⟩, trivial⟩
  · unfold f0_40
    rw [f, if_pos e2, if_neg n1, if_neg n2]; rfl
theorem own_bound (a : Int) : 0 ≤ a % 9223372036854775808 ∧ a % 9223372036854775808 < 9223372036854775808 := ⟨Int.emod_nonneg a (by decide), Int.emod_lt_of_pos a (by decide)⟩
theorem own_mid (t d : Int64) (t0 : 0 ≤ t.toInt) (t1 : t.toInt < 9223372036854775808) (d0 : 0 ≤ d.toInt) (d1 : d.toInt < 9223372036854775808)
    (m : (9223372036854775807 : Int64).toInt = 9223372036854775807) (o : (1 : Int64).toInt = 1) (z : (0 : Int64).toInt = 0)
    (r : ((9223372036854775807 : Int64) - t).toInt = 9223372036854775807 - t.toInt) (c : ¬ (9223372036854775807 : Int64) - t = 9223372036854775807) :
    ¬ ((9223372036854775807 : Int64) - t + 1 = 0) ∧ 0 ≤ (own_lrem d ((9223372036854775807 : Int64) - t + 1)).toInt ∧ t.toInt + (own_lrem d ((9223372036854775807 : Int64) - t + 1)).toInt < 9223372036854775808 := by
  have c' : ¬ t.toInt = 0 := fun q => c (own_eqL.mpr (by rw [r, m, q]; rfl))
  have r1 : ((9223372036854775807 : Int64) - t + 1).toInt = 9223372036854775808 - t.toInt := by
    rw [Jvm.Kit.i64_add (by rw [r, o]; omega) (by rw [r, o]; omega), r, o]; omega
  refine ⟨fun q => ?_, ?_⟩
  · have q' := own_eqL.mp q
    rw [r1, z] at q'
    omega
  · have l := own_lemod (u := d) (w := (9223372036854775807 : Int64) - t + 1) d0
    rw [l, r1]
    have b1 := Int.emod_nonneg d.toInt (b := 9223372036854775808 - t.toInt) (by omega)
    have b2 := Int.emod_lt_of_pos d.toInt (b := 9223372036854775808 - t.toInt) (by omega)
    generalize d.toInt % (9223372036854775808 - t.toInt) = x at *
    exact ⟨b1, by omega⟩
theorem own_both (q0 q1 : Int64) : s0_0 q0 q1 ∧ f0_0 q0 q1 = 1 := by
  have e0 : (q0 &&& 9223372036854775807).toInt = q0.toInt % 2 ^ 63 := Jvm.Kit.i64_mask q0 9223372036854775807 (k := 63) (by decide) (by decide)
  have e1 : (q1 &&& 9223372036854775807).toInt = q1.toInt % 2 ^ 63 := Jvm.Kit.i64_mask q1 9223372036854775807 (k := 63) (by decide) (by decide)
  have m : (9223372036854775807 : Int64).toInt = 9223372036854775807 := by decide
  have o : (1 : Int64).toInt = 1 := rfl
  have z : (0 : Int64).toInt = 0 := rfl
  unfold s0_0 f0_0
  have g0 := own_bound q0.toInt
  have g1 := own_bound q1.toInt
  rw [show (9223372036854775808 : Int) = 2 ^ 63 from by decide, ← e0] at g0
  rw [show (9223372036854775808 : Int) = 2 ^ 63 from by decide, ← e1] at g1
  clear e0 e1
  generalize q0 &&& 9223372036854775807 = t at *
  generalize q1 &&& 9223372036854775807 = d at *
  have r : ((9223372036854775807 : Int64) - t).toInt = 9223372036854775807 - t.toInt := by rw [Jvm.Kit.i64_sub (by rw [m]; omega) (by rw [m]; omega), m]
  by_cases c : (9223372036854775807 : Int64) - t = 9223372036854775807
  · have c' := own_eqL.mp c
    rw [r, m] at c'
    have k := own_key t d g0.1 g1.1 (by omega)
    rw [if_pos c]
    exact ⟨⟨fun _ => k.1, fun q => absurd c q⟩, k.2⟩
  · obtain ⟨w0, w1, w2⟩ := own_mid t d g0.1 (by omega) g1.1 (by omega) m o z r c
    have k := own_key t (own_lrem d ((9223372036854775807 : Int64) - t + 1)) g0.1 w1 (by omega)
    rw [if_neg c]
    exact ⟨⟨fun q => absurd q c, fun _ => ⟨w0, k.1⟩⟩, k.2⟩
theorem own_law (q0 q1 : Int64) : f0_0 q0 q1 = 1 := (own_both q0 q1).2
theorem own_safe (q0 q1 : Int64) : s0_0 q0 q1 := (own_both q0 q1).1

set_option maxRecDepth 65536 in
set_option maxHeartbeats 40000000 in
theorem comes_1 {Post : Tables → Env → Array Value → State → Outcome → State → Prop} (hpost : ∀ tb e args s v u, (limb_1_1.after args s (.returned v) u = true ∧ limb_1_2.after args s (.returned v) u = true) → FrameEnd s (.returned v) u (Jvm.fieldLocs frame_1_writes args s ++ Jvm.arrayLocs frame_1_arrays args s ++ Jvm.staticLocs frame_1_statics s) 0 0 → Post tb e args s (.returned v) u) :
    ArmFor flags0 classFile x code maxLocals ret World_1 tables_1 room_1 Calls_1 rest_1 Pre_1 Post := by
  intro l hfl _ _ p e ha hc hk s m args below hf hA hF happ hP
  obtain ⟨hcalls, hrest, hpre⟩ := hP
  obtain ⟨-, -, -, hnamed, -, -, -, hat⟩ := (Spec.applies_iff hf).mp happ
  obtain ⟨hg, hn⟩ := and_e (Cond.before_iff.mp (show (Jvm.Cond.and given_1 narrow_1).before args s = true from hpre))
  obtain ⟨g1a, g1b⟩ := and_e hg
  obtain ⟨g2a, g2b⟩ := and_e g1b
  obtain ⟨w0, w1, rfl⟩ : ∃ w0 w1 : Value, args = #[w0, w1] := by
    have hs : args.size = 2 := by simpa [Cond.value, given_1] using g1a
    obtain ⟨L⟩ := args
    match L, hs with
    | [w0, w1], _ => exact ⟨w0, w1, rfl⟩
  have hw := fun d (hd : d ∈ tables_1) => atoms_spec (ws := Jvm.Cond.code x code maxLocals ret :: tables_1) hat d (List.mem_cons_of_mem _ hd)
  obtain ⟨i0, ei0⟩ := isL_v g2a
  obtain rfl : w0 = (.long i0) := Option.some.inj ei0
  obtain ⟨i1, ei1⟩ := isL_v g2b
  obtain rfl : w1 = (.long i1) := Option.some.inj ei1
  obtain ⟨n, o, h1, h2, h3, v, L, rfl, ⟨rfl, rfl⟩, hq⟩ := rm0 l s _ hw tables_1 i0 i1 s.heap (own_safe i0 i1) p e ha hc hk s m _ below hf ((Spec.applies_iff_loose hf).mp happ).1 ⟨rfl, State.Warmed39.refl s, rfl⟩ trivial
  have hv1 := own_law i0 i1
  refine ⟨n, _, h1, h2, h3, hpost _ _ _ _ _ _ ⟨Cond.after_iff.mpr rfl, Cond.after_iff.mpr (eq_i res_at (Term.int_eval (1)) (by rw [hv1]) rfl)⟩ ⟨hq.1, hq.2.1, (hq.2.2.sift fun y hy => nomatch hy).mono (by decide) (by decide)⟩⟩
theorem main_1_1 : Claimed_1_1 := comes_1 fun _ _ _ _ _ _ h hF => ⟨h.1, hF⟩
theorem main_1_2 : Claimed_1_2 := comes_1 fun _ _ _ _ _ _ h hF => ⟨h.2, hF⟩
end Jvm.Pilot.@@N@@
namespace Jvm.Pilot.@@N@@
open Jvm Jvm.ClassFile Sem Op Lib Jvm.Free Jvm.Stand Jvm.Pilot.@@N@@.Jvm.D
/-! MADE BY PROGRAM (witnessworld.py) out of the Statement's table words and the real class files: 9 classes; the members and pool entries that the words name. The judged class is class 1, her method 1. -/
namespace start1
open Jvm.ClassFile
def u (s : String) : CpInfo := .utf8 (stringToUtf16 s)
/-- a pool by its gaps: so many unusable entries, then the entry; so many at the end -/
def gap : Nat → List CpInfo → List CpInfo
  | 0, r => r
  | n + 1, r => .unusable :: gap n r
def poolList (es : List (Nat × CpInfo)) (last : Nat) : List CpInfo := es.foldr (fun e r => gap e.1 (e.2 :: r)) (gap last [])
def pool (es : List (Nat × CpInfo)) (last : Nat) : Array CpInfo := ⟨poolList es last⟩
def fileOf (pool : Array CpInfo) (this : Nat) (attrs : Array Attribute := #[]) (ms : Array MethodInfo := #[]) (fl : Nat := 33) (sup : Nat := 0) (ifs : Array Nat := #[]) (fds : Array FieldInfo := #[]) : ClassFile where
  minorVersion := 0
  majorVersion := 65
  constantPool := pool
  accessFlags := fl
  thisClass := this
  superClass := sup
  interfaces := ifs
  fields := fds
  methods := ms
  attributes := attrs
def plain (name : String) (sup : Option ClassId) : Class where
  name := name
  kind := .ordinary
  loader := none
  accessFlags := 33
  super := sup
  interfaces := #[]
  cf := none
  fields := #[]
  methods := #[]
  instanceTypes := #[]
  staticTypes := #[]
  resolved := #[]
  callSites := []
  init := .initialized
  statics := none
  mirror := none

def pool0 : Array CpInfo := pool [(5, u "<init>"), (0, u "()V"), (1, .class_ 10), (1, u "java/lang/Object")] 113

def k0m0 : Method := { name := "<init>", desc := "()V", sig := { parameters := [], returnType := none }, accessFlags := 1, code := none }
/-- java/lang/Object -/
def k0 : Class := { plain "java/lang/Object" none with
  accessFlags := 33
  interfaces := #[]
  cf := some (fileOf pool0 8 #[] #[{ accessFlags := 1, nameIndex := 5, descriptorIndex := 6, attributes := #[] }] 33 0 #[] #[])
  fields := #[]
  methods := #[k0m0]
  instanceTypes := #[]
  staticTypes := #[]
  resolved := Array.replicate 124 none
  statics := none }

def pool1 : Array CpInfo := pool [(2, .class_ 4), (1, u "java/lang/Object"), (0, u "<init>"), (0, u "()V"), (2, .long 9223372036854775807), (1, .methodref 12 13), (0, .class_ 14), (0, .nameAndType 15 16), (0, u "com/example/doubs/doubs/simulation/VirtualTime"), (0, u "plus"), (0, u "(JJ)J"), (0, .class_ 18), (0, u "com/example/doubs/doubs/simulation/VirtualTimePlusPinLaw"), (2, u "law"), (0, u "(JJ)Z")] 3

def k1m0 : Method := { name := "<init>", desc := "()V", sig := { parameters := [], returnType := none }, accessFlags := 2, code := none }
def k1c1 : Code := { maxStack := 6, maxLocals := 12, code := code, exceptionTable := #[], attributes := #[] }
def k1m1 : Method := { name := "law", desc := "(JJ)Z", sig := { parameters := [.long, .long], returnType := some .boolean }, accessFlags := 9, code := some k1c1 }
/-- com/example/doubs/doubs/simulation/VirtualTimePlusPinLaw -/
def k1 : Class := { plain "com/example/doubs/doubs/simulation/VirtualTimePlusPinLaw" (some 0) with
  accessFlags := 49
  interfaces := #[]
  cf := some (fileOf pool1 17 #[] #[{ accessFlags := 2, nameIndex := 5, descriptorIndex := 6, attributes := #[] }, { accessFlags := 9, nameIndex := 21, descriptorIndex := 22, attributes := #[] }] 49 2 #[] #[])
  fields := #[]
  methods := #[k1m0, k1m1]
  instanceTypes := #[]
  staticTypes := #[]
  resolved := Array.replicate 26 none
  statics := none }

def pool2 : Array CpInfo := pool [(2, .class_ 4), (1, u "java/lang/Object"), (0, u "<init>"), (0, u "()V"), (26, .class_ 34), (0, u "com/example/doubs/doubs/simulation/VirtualTime"), (3, u "END"), (0, u "Ljava/math/BigDecimal;"), (49, u "DIGITS"), (0, u "I"), (9, u "plus"), (0, u "(JJ)J")] 26

def k2m0 : Method := { name := "<init>", desc := "()V", sig := { parameters := [], returnType := none }, accessFlags := 2, code := none }
def k2c1 : Code := { maxStack := 4, maxLocals := 6, code := prog_89_method_4_code, exceptionTable := #[], attributes := #[] }
def k2m1 : Method := { name := "plus", desc := "(JJ)J", sig := { parameters := [.long, .long], returnType := some .long }, accessFlags := 8, code := some k2c1 }
/-- com/example/doubs/doubs/simulation/VirtualTime -/
def k2 : Class := { plain "com/example/doubs/doubs/simulation/VirtualTime" (some 0) with
  accessFlags := 49
  interfaces := #[]
  cf := some (fileOf pool2 33 #[] #[{ accessFlags := 2, nameIndex := 5, descriptorIndex := 6, attributes := #[] }, { accessFlags := 8, nameIndex := 100, descriptorIndex := 101, attributes := #[] }] 49 2 #[] #[{ accessFlags := 26, nameIndex := 89, descriptorIndex := 90, attributes := #[] }, { accessFlags := 26, nameIndex := 38, descriptorIndex := 39, attributes := #[] }])
  fields := #[{ name := "DIGITS", type := .int, accessFlags := 26, slot := 0, constantValue := 0 }, { name := "END", type := (.object "java/math/BigDecimal"), accessFlags := 26, slot := 1, constantValue := 0 }]
  methods := #[k2m0, k2m1]
  instanceTypes := #[]
  staticTypes := #[.int, (.object "java/math/BigDecimal")]
  resolved := Array.replicate 128 none
  statics := none }

def pool3 : Array CpInfo := pool [(1, u "java/lang/Cloneable"), (0, .class_ 1), (0, u "java/lang/Object"), (0, .class_ 3)] 3

/-- java/lang/Cloneable -/
def k3 : Class := { plain "java/lang/Cloneable" (some 0) with
  accessFlags := 1537
  interfaces := #[]
  cf := some (fileOf pool3 2 #[] #[] 1537 4 #[] #[])
  fields := #[]
  methods := #[]
  instanceTypes := #[]
  staticTypes := #[]
  resolved := Array.replicate 8 none
  statics := none }

def pool4 : Array CpInfo := pool [(1, u "java/io/Serializable"), (0, .class_ 1), (0, u "java/lang/Object"), (0, .class_ 3)] 3

/-- java/io/Serializable -/
def k4 : Class := { plain "java/io/Serializable" (some 0) with
  accessFlags := 1537
  interfaces := #[]
  cf := some (fileOf pool4 2 #[] #[] 1537 4 #[] #[])
  fields := #[]
  methods := #[]
  instanceTypes := #[]
  staticTypes := #[]
  resolved := Array.replicate 8 none
  statics := none }

/-- the primitive byte -/
def k5 : Class := { plain "byte" none with kind := .primitive 'B', accessFlags := 0x411 }
/-- [B -/
def k6 : Class := { plain "[B" (some 0) with kind := .array 5 .byte, interfaces := #[3, 4], accessFlags := 1041 }

/-- the primitive int -/
def k7 : Class := { plain "int" none with kind := .primitive 'I', accessFlags := 0x411 }
/-- [I -/
def k8 : Class := { plain "[I" (some 0) with kind := .array 7 .int, interfaces := #[3, 4], accessFlags := 1041 }

def heap : Heap := #[]
def classes : Array Class := #[k0, k1, k2, k3, k4, k5, k6, k7, k8]
def interned : List (Array UInt16 × Addr) := []
def slotsUsed : Nat := 0
def theMethod : MethodId := ⟨1, 1⟩
def args0 : Array Value := #[.long 5, .long 5]
def aboutOver (below : List Frame) : State where
  vm := { classes := classes, interned := interned.toArray }
  heap := heap
  slotsUsed := slotsUsed
  threads := #[{ frames := .invoking theMethod args0 :: below }]
def below0 : List Frame := [.native { method := ⟨0, 0⟩, args := #[] }]
def about1 : State := aboutOver below0
def p0 : Program := .bare "" "" ""
def e0 : Env := launch0.env 0 0 0
theorem w_frames : about1.frames = Frame.invoking theMethod args0 :: below0 := rfl
set_option maxRecDepth 65536 in
theorem w_args : argsFit about1.vm theMethod args0 = true := by decide +kernel
set_option maxRecDepth 65536 in
theorem w_heap : heapFits about1 = true := by decide +kernel
set_option maxRecDepth 65536 in
theorem w_runnable : about1.curStatus? = some .runnable := by decide +kernel
set_option maxRecDepth 65536 in
theorem w_alone : about1.alone = true := by decide +kernel
set_option maxRecDepth 65536 in
theorem w_named : about1.methodNamed? x = some theMethod := by decide +kernel
set_option maxRecDepth 65536 in
theorem w_hears : about1.hears theMethod below0 = true := by decide +kernel
set_option maxRecDepth 65536 in
theorem w_ripe : about1.ripe theMethod args0 below0 = true := by decide +kernel
theorem w_running : about1.status = .running := rfl
set_option maxRecDepth 65536 in
theorem w_room : about1.hasRoom e0.platform room_1 = true :=
  launch0.hasRoom_least _ room_1 (by decide +kernel) (by decide +kernel) (by decide +kernel) (by decide +kernel) (by decide +kernel) (by decide +kernel)
theorem allAtoms_all (ts : List Jvm.Cond) (a : Array Jvm.Value) (st : Jvm.State) : (allAtoms ts).before a st = ts.all (fun c => c.before a st) := by
  induction ts with
  | nil => rfl
  | cons c t ih =>
    show (Jvm.Cond.and c (allAtoms t)).before a st = _
    rw [Jvm.Cond.before_and, ih, List.all_cons]
def words1 : List Jvm.Cond := Jvm.Cond.code x code maxLocals ret :: tables_1
/-- a 'code' word, met by the world's own term for the bytes: nothing is compared byte by byte -/
theorem code_word {y : MethodName} {bytes : ByteArray} {mx : Nat} {rt : Option FieldType} {a : Array Value} {s : State} {m : MethodId} {meth : Method} {c : Code} (h1 : s.methodNamed? y = some m) (h2 : s.vm.method? m = some meth) (h3 : meth.code = some c) (h4 : c.code = bytes)
    (h5 : (c.maxLocals == mx && c.exceptionTable.isEmpty && decide (c.maxStack ≤ mostOperands) && decide (meth.sig.returnType = rt) && !meth.locks && decide (parseMethodDescriptor y.desc = some meth.sig)) = true) : (Jvm.Cond.code y bytes mx rt).before a s = true := by
  simp only [Bool.and_eq_true, beq_iff_eq, Bool.not_eq_true', decide_eq_true_eq] at h5
  obtain ⟨⟨⟨⟨⟨g1, g2⟩, g3⟩, g4⟩, g5⟩, g6⟩ := h5
  simp [Cond.before, Cond.holds, Cond.value, h1, h2, h3, h4, g1, g2, g3, g4, g5, g6]
def isCode : Jvm.Cond → Bool
  | .code _ _ _ _ => true
  | _ => false
theorem all_split {L : List Jvm.Cond} {P : Jvm.Cond → Bool} (h1 : L.all (fun c => isCode c || P c) = true) (h2 : ∀ c ∈ L.filter isCode, P c = true) : L.all P = true := by
  refine List.all_eq_true.mpr fun c hc => ?_
  have h := List.all_eq_true.mp h1 c hc
  rcases Bool.eq_false_or_eq_true (isCode c) with hi | hi
  · exact h2 c (List.mem_filter.mpr ⟨hc, hi⟩)
  · simpa [hi] using h
set_option maxRecDepth 65536 in
theorem w_c0 : (Jvm.Cond.code x code maxLocals ret).before args0 about1 = true := code_word (m := ⟨1, 1⟩) (meth := k1m1) (c := k1c1) (by decide +kernel) rfl rfl rfl (by decide +kernel)
set_option maxRecDepth 65536 in
theorem w_c1 : (Jvm.Cond.code ({ cls := "com/example/doubs/doubs/simulation/VirtualTime", name := "plus", desc := "(JJ)J" } : Jvm.MethodName) prog_89_method_4_code (6 : Nat) (Option.some Jvm.ClassFile.FieldType.long)).before args0 about1 = true := code_word (m := ⟨2, 1⟩) (meth := k2m1) (c := k2c1) (by decide +kernel) rfl rfl rfl (by decide +kernel)
def codes1 : List Jvm.Cond := [Jvm.Cond.code x code maxLocals ret, Jvm.Cond.code ({ cls := "com/example/doubs/doubs/simulation/VirtualTime", name := "plus", desc := "(JJ)J" } : Jvm.MethodName) prog_89_method_4_code (6 : Nat) (Option.some Jvm.ClassFile.FieldType.long)]
set_option maxRecDepth 65536 in
theorem codes_eq : words1.filter isCode = codes1 := rfl
theorem w_codes : ∀ c ∈ words1.filter isCode, c.before args0 about1 = true := by
  rw [codes_eq]
  intro c hc
  simp only [codes1, List.mem_cons, List.not_mem_nil, or_false] at hc
  rcases hc with rfl | rfl
  · exact w_c0
  · exact w_c1
set_option maxRecDepth 65536 in
theorem w_t1 : words1.all (fun c => isCode c || c.before args0 about1) = true := by decide +kernel
theorem w_tables : (allAtoms (Jvm.Cond.code x code maxLocals ret :: tables_1)).before args0 about1 = true := by
  rw [allAtoms_all]
  show words1.all (fun c => c.before args0 about1) = true
  refine all_split ?_ w_codes
  rw [w_t1]
set_option maxRecDepth 65536 in
theorem w_case : (Jvm.Cond.and given_1 narrow_1).before args0 about1 = true := by decide +kernel
theorem w_applies : (headSpec (Jvm.Cond.code x code maxLocals ret :: tables_1) room_1).applies x e0.platform about1 = true :=
  (Spec.applies_iff w_frames).mpr ⟨w_running, w_runnable, w_alone, w_named, w_hears, w_ripe, w_room, w_tables⟩
theorem atStart : AtStart classFile x code maxLocals ret World_1 tables_1 room_1 Calls_1 rest_1 Pre_1 launch0 p0 e0 about1 theMethod args0 below0 :=
  ⟨lists_1, trivial, launch0.admits_env _ _ _, launch0.least_env, fairChoices_fair.cas, fairChoices_fair.clock, w_frames, w_args, w_heap, w_applies, trivial, trivial, w_case⟩
end start1
theorem witness_1 : WitnessClaimed_1 := ⟨start1.p0, start1.e0, start1.about1, start1.theMethod, start1.args0, start1.below0, start1.atStart⟩
end Jvm.Pilot.@@N@@
