import JvmDerived
import JvmDerived.Pilot.@@N@@Statement
import JvmDerived.Pilot.@@N@@Code
set_option linter.unusedVariables false
set_option linter.unusedSimpArgs false
@@BLOCK:NumsL.lean.txt@@
namespace Jvm.RoadKit
open Sem ClassFile Op Lib Jvm.Stand Jvm.Free Jvm.LawKit
section New
variable {p : Program} {l : Launch} {e : Env} {R : Room} {s : State} {m : MethodId} {args : Array Value} {below : List Frame} {meth : Method} {c : Code} {T : State} {locs : List Loc} {cells slots : Nat}
theorem retI (X : Stand p l e R s m args below meth c T locs cells slots) (hx : p.tables.exec = Jvm.exec) {pc : Nat} {Ls : Array Slot} {z : Int32} {rest : List Value} (hret : meth.sig.returnType = some .int) (hd : decode c.code pc = .ok (.ireturn, 1)) {fs : List Frame}
    (hl : ∀ (f : JFrame) (acts : List Action), f.method = m → f.locked = none → f.entered = [] → (doReturn e (T.setTop f) acts (some (.int z))).1 = T.setFrames fs) : Steps p.tables e below (T.setTop (mkF m pc Ls (.int z :: rest))) (T.setFrames fs) := by
  have hm' : T.vm.method? m = some meth := X.method'
  have hn : narrow .int (.int z) = .int z := rfl
  show Steps p.tables e below (T.setTop { method := m, pc := pc, locals := Ls, stack := _ :: rest, locked := none }) _
  jvm_step X.here [X.here.top, hx, hd, hm', hret, hn]
  first | (intro acts; rw [hl _ acts rfl rfl rfl]) | rw [hl _ _ rfl rfl rfl]
  exact Steps.refl _
end New
end Jvm.RoadKit
namespace Jvm.Pilot.@@N@@
open Jvm Jvm.ClassFile Sem Op Lib Jvm.Free Jvm.Stand Jvm.LawKit Jvm.RoadKit Bundle Jvm.Pilot.@@N@@.Jvm.D
/-! OWN KIT: a run that comes to an end, one law an instruction, arrays as lists (written once, pasted by wip/gen/lawgen.py) -/
section OwnKit
variable {p : Program} {l : Launch} {e : Env} {R : Room} {s : State} {m : MethodId} {args : Array Value} {below : List Frame} {meth : Method} {c : Code} {T T' : State} {locs : List Loc} {cells slots : Nat} {Z : State} {a0 : Array Value} {h h' : Heap}
variable {Q : Outcome → State → Prop} {K : Option Value → Heap → List Loc → Prop} {cc ss : Nat}
variable {pc pc' pc1 pc2 : Nat} {Ls l' : Array Slot} {rest : List Value} {x y : Int32} {u w : Int64}
/-- from T, with g on top, the run comes to an end of which Q holds -/
def own_Go (p : Program) (e : Env) (below : List Frame) (Q : Outcome → State → Prop) (T : State) (g : JFrame) : Prop :=
  ∃ s₂ o, Steps p.tables e below (T.setTop g) s₂ ∧ s₂.status = .running ∧ Ended s₂ below o ∧ Q o s₂
/-- what a body's end says: it returned, K holds of the value, the heap and the old places written -/
def own_Q (s : State) (K : Option Value → Heap → List Loc → Prop) (cc ss : Nat) : Outcome → State → Prop := fun o t => ∃ v L, o = .returned v ∧ K v t.heap L ∧ FrameEnd s o t L cc ss
/-- what stands fast in one body -/
def own_Cx (p : Program) (s : State) (m : MethodId) (meth : Method) (c : Code) (Z : State) (a0 : Array Value) (bytes : ByteArray) (ml : Nat) (own : String) (rt : Option FieldType) (nm : String) : Prop :=
  p.tables.exec = Jvm.exec ∧ Z.Warmed39 s.vm ∧ (∀ d ∈ tables_1, d.before a0 Z = true) ∧ c.code = bytes ∧ c.maxLocals = ml ∧ s.vm.findClass own = some m.cls ∧ meth.sig.returnType = rt ∧ meth.locks = false ∧ meth.name = nm
theorem own_go {g g' : JFrame} (st : ∀ t, Steps p.tables e below (T'.setTop g') t → Steps p.tables e below (T.setTop g) t) (k : own_Go p e below Q T' g') : own_Go p e below Q T g := by
  obtain ⟨s₂, o, h1, h2⟩ := k
  exact ⟨s₂, o, st _ h1, h2⟩
theorem o_iloadN (X : Stand p l e R s m args below meth c T locs cells slots) (hx : p.tables.exec = Jvm.exec) {k : Fin 4} {v : Int32} (hd : decode c.code pc = .ok (.iload_n k, 1)) (hl : Ls[k.val]? = some (.val (.int v))) (hp : pc + 1 = pc') (q : own_Go p e below Q T (mkF m pc' Ls (.int v :: rest))) : own_Go p e below Q T (mkF m pc Ls rest) := by
  subst hp; exact own_go (fun t k' => XS.iloadN X.here hx rfl hd hl k') q
theorem o_iload (X : Stand p l e R s m args below meth c T locs cells slots) (hx : p.tables.exec = Jvm.exec) {k : Nat} {v : Int32} (hd : decode c.code pc = .ok (.iload k, 2)) (hl : Ls[k]? = some (.val (.int v))) (hp : pc + 2 = pc') (q : own_Go p e below Q T (mkF m pc' Ls (.int v :: rest))) : own_Go p e below Q T (mkF m pc Ls rest) := by
  subst hp; exact own_go (fun t k' => XS.iload X.here hx rfl hd hl k') q
theorem o_lloadN (X : Stand p l e R s m args below meth c T locs cells slots) (hx : p.tables.exec = Jvm.exec) {k : Fin 4} {v : Int64} (hd : decode c.code pc = .ok (.lload_n k, 1)) (hl : Ls[k.val]? = some (.val (.long v))) (hp : pc + 1 = pc') (q : own_Go p e below Q T (mkF m pc' Ls (.long v :: rest))) : own_Go p e below Q T (mkF m pc Ls rest) := by
  subst hp; exact own_go (fun t k' => XS.lloadN X.here hx rfl hd hl k') q
theorem o_lload (X : Stand p l e R s m args below meth c T locs cells slots) (hx : p.tables.exec = Jvm.exec) {k : Nat} {v : Int64} (hd : decode c.code pc = .ok (.lload k, 2)) (hl : Ls[k]? = some (.val (.long v))) (hp : pc + 2 = pc') (q : own_Go p e below Q T (mkF m pc' Ls (.long v :: rest))) : own_Go p e below Q T (mkF m pc Ls rest) := by
  subst hp; exact own_go (fun t k' => XS.lload X.here hx rfl hd hl k') q
theorem o_aloadN (X : Stand p l e R s m args below meth c T locs cells slots) (hx : p.tables.exec = Jvm.exec) {k : Fin 4} {v : Value} (hd : decode c.code pc = .ok (.aload_n k, 1)) (hl : Ls[k.val]? = some (.val v)) (hv : v.isRef = true) (hp : pc + 1 = pc') (q : own_Go p e below Q T (mkF m pc' Ls (v :: rest))) : own_Go p e below Q T (mkF m pc Ls rest) := by
  subst hp; exact own_go (fun t k' => XS.aloadN X.here hx rfl hd hl hv k') q
theorem o_aload (X : Stand p l e R s m args below meth c T locs cells slots) (hx : p.tables.exec = Jvm.exec) {k : Nat} {v : Value} (hd : decode c.code pc = .ok (.aload k, 2)) (hl : Ls[k]? = some (.val v)) (hv : v.isRef = true) (hp : pc + 2 = pc') (q : own_Go p e below Q T (mkF m pc' Ls (v :: rest))) : own_Go p e below Q T (mkF m pc Ls rest) := by
  subst hp; exact own_go (fun t k' => XS.aload X.here hx rfl hd hl hv k') q
theorem o_istoreN (X : Stand p l e R s m args below meth c T locs cells slots) (hx : p.tables.exec = Jvm.exec) {k : Fin 4} (hd : decode c.code pc = .ok (.istore_n k, 1)) (hl : storeLocals Ls k.val (.int x) = some l') (hp : pc + 1 = pc') (q : own_Go p e below Q T (mkF m pc' l' rest)) : own_Go p e below Q T (mkF m pc Ls (.int x :: rest)) := by
  subst hp; exact own_go (fun t k' => XS.istoreN X.here hx rfl hd rfl hl k') q
theorem o_istore (X : Stand p l e R s m args below meth c T locs cells slots) (hx : p.tables.exec = Jvm.exec) {k : Nat} (hd : decode c.code pc = .ok (.istore k, 2)) (hl : storeLocals Ls k (.int x) = some l') (hp : pc + 2 = pc') (q : own_Go p e below Q T (mkF m pc' l' rest)) : own_Go p e below Q T (mkF m pc Ls (.int x :: rest)) := by
  subst hp; exact own_go (fun t k' => XS.istore X.here hx rfl hd rfl hl k') q
theorem o_lstoreN (X : Stand p l e R s m args below meth c T locs cells slots) (hx : p.tables.exec = Jvm.exec) {k : Fin 4} (hd : decode c.code pc = .ok (.lstore_n k, 1)) (hl : storeLocals Ls k.val (.long u) = some l') (hp : pc + 1 = pc') (q : own_Go p e below Q T (mkF m pc' l' rest)) : own_Go p e below Q T (mkF m pc Ls (.long u :: rest)) := by
  subst hp; exact own_go (fun t k' => XS.lstoreN X.here hx rfl hd rfl hl k') q
theorem o_lstore (X : Stand p l e R s m args below meth c T locs cells slots) (hx : p.tables.exec = Jvm.exec) {k : Nat} (hd : decode c.code pc = .ok (.lstore k, 2)) (hl : storeLocals Ls k (.long u) = some l') (hp : pc + 2 = pc') (q : own_Go p e below Q T (mkF m pc' l' rest)) : own_Go p e below Q T (mkF m pc Ls (.long u :: rest)) := by
  subst hp; exact own_go (fun t k' => XS.lstore X.here hx rfl hd rfl hl k') q
theorem o_astoreN (X : Stand p l e R s m args below meth c T locs cells slots) (hx : p.tables.exec = Jvm.exec) {k : Fin 4} {v : Value} (hd : decode c.code pc = .ok (.astore_n k, 1)) (hv : v.isRef = true) (hl : storeLocals Ls k.val v = some l') (hp : pc + 1 = pc') (q : own_Go p e below Q T (mkF m pc' l' rest)) : own_Go p e below Q T (mkF m pc Ls (v :: rest)) := by
  subst hp; exact own_go (fun t k' => XS.astoreN X.here hx rfl hd rfl hv hl k') q
theorem o_astore (X : Stand p l e R s m args below meth c T locs cells slots) (hx : p.tables.exec = Jvm.exec) {k : Nat} {v : Value} (hd : decode c.code pc = .ok (.astore k, 2)) (hv : v.isRef = true) (hl : storeLocals Ls k v = some l') (hp : pc + 2 = pc') (q : own_Go p e below Q T (mkF m pc' l' rest)) : own_Go p e below Q T (mkF m pc Ls (v :: rest)) := by
  subst hp; exact own_go (fun t k' => XS.astore X.here hx rfl hd rfl hv hl k') q
theorem o_iconst (X : Stand p l e R s m args below meth c T locs cells slots) (hx : p.tables.exec = Jvm.exec) {i : Int} (hd : decode c.code pc = .ok (.iconst i, 1)) (hv : Int32.ofInt i = x) (hp : pc + 1 = pc') (q : own_Go p e below Q T (mkF m pc' Ls (.int x :: rest))) : own_Go p e below Q T (mkF m pc Ls rest) := by
  subst hp hv; exact own_go (fun t k' => XS.iconst X.here hx rfl hd k') q
theorem o_bipush (X : Stand p l e R s m args below meth c T locs cells slots) (hx : p.tables.exec = Jvm.exec) {i : Int} (hd : decode c.code pc = .ok (.bipush i, 2)) (hv : (Int8.ofInt i).toInt32 = x) (hp : pc + 2 = pc') (q : own_Go p e below Q T (mkF m pc' Ls (.int x :: rest))) : own_Go p e below Q T (mkF m pc Ls rest) := by
  subst hp hv; exact own_go (fun t k' => XS.bipush X.here hx rfl hd k') q
theorem o_sipush (X : Stand p l e R s m args below meth c T locs cells slots) (hx : p.tables.exec = Jvm.exec) {i : Int} (hd : decode c.code pc = .ok (.sipush i, 3)) (hv : (Int16.ofInt i).toInt32 = x) (hp : pc + 3 = pc') (q : own_Go p e below Q T (mkF m pc' Ls (.int x :: rest))) : own_Go p e below Q T (mkF m pc Ls rest) := by
  subst hp hv; exact own_go (fun t k' => XS.sipush X.here hx rfl hd k') q
theorem o_lconst (X : Stand p l e R s m args below meth c T locs cells slots) (hx : p.tables.exec = Jvm.exec) {k : Fin 2} (hd : decode c.code pc = .ok (.lconst k, 1)) (hv : Int64.ofNat k = u) (hp : pc + 1 = pc') (q : own_Go p e below Q T (mkF m pc' Ls (.long u :: rest))) : own_Go p e below Q T (mkF m pc Ls rest) := by
  subst hp hv; exact own_go (fun t k' => XS.lconst X.here hx rfl hd k') q
theorem o_ldcI (X : Stand p l e R s m args below meth c T locs cells slots) (hx : p.tables.exec = Jvm.exec) (hZ : Z.Warmed39 s.vm) {own : String} {index : Nat} (hown : s.vm.findClass own = some m.cls) (w1 : (Cond.constant own index x).before a0 Z = true) (hd : decode c.code pc = .ok (.ldc index, 2)) (hp : pc + 2 = pc') (q : own_Go p e below Q T (mkF m pc' Ls (.int x :: rest))) : own_Go p e below Q T (mkF m pc Ls rest) := by
  subst hp; exact own_go (fun t k' => X.ldcInt hx hown (mvT hZ w1) (g := mkF m pc Ls rest) rfl hd t k') q
theorem o_ldcL (X : Stand p l e R s m args below meth c T locs cells slots) (hx : p.tables.exec = Jvm.exec) (hZ : Z.Warmed39 s.vm) {own : String} {index : Nat} (hown : s.vm.findClass own = some m.cls) (w1 : (Cond.constantLong own index u).before a0 Z = true) (hd : decode c.code pc = .ok (.ldc2_w index, 3)) (hp : pc + 3 = pc') (q : own_Go p e below Q T (mkF m pc' Ls (.long u :: rest))) : own_Go p e below Q T (mkF m pc Ls rest) := by
  subst hp; exact own_go (fun t k' => X.ldc2Long hx hown (mvT hZ w1) (g := mkF m pc Ls rest) rfl hd t k') q
theorem o_iadd (X : Stand p l e R s m args below meth c T locs cells slots) (hx : p.tables.exec = Jvm.exec) (hd : decode c.code pc = .ok (.iadd, 1)) (hp : pc + 1 = pc') {z : Int32} (hz : x + y = z) (q : own_Go p e below Q T (mkF m pc' Ls (.int z :: rest))) : own_Go p e below Q T (mkF m pc Ls (.int y :: .int x :: rest)) := by
  subst hp hz; exact own_go (fun t k' => XS.iadd X.here hx rfl hd rfl k') q
theorem o_isub (X : Stand p l e R s m args below meth c T locs cells slots) (hx : p.tables.exec = Jvm.exec) (hd : decode c.code pc = .ok (.isub, 1)) (hp : pc + 1 = pc') {z : Int32} (hz : x - y = z) (q : own_Go p e below Q T (mkF m pc' Ls (.int z :: rest))) : own_Go p e below Q T (mkF m pc Ls (.int y :: .int x :: rest)) := by
  subst hp hz; exact own_go (fun t k' => XS.isub X.here hx rfl hd rfl k') q
theorem o_imul (X : Stand p l e R s m args below meth c T locs cells slots) (hx : p.tables.exec = Jvm.exec) (hd : decode c.code pc = .ok (.imul, 1)) (hp : pc + 1 = pc') {z : Int32} (hz : x * y = z) (q : own_Go p e below Q T (mkF m pc' Ls (.int z :: rest))) : own_Go p e below Q T (mkF m pc Ls (.int y :: .int x :: rest)) := by
  subst hp hz; exact own_go (fun t k' => XS.imul X.here hx rfl hd rfl k') q
theorem o_iand (X : Stand p l e R s m args below meth c T locs cells slots) (hx : p.tables.exec = Jvm.exec) (hd : decode c.code pc = .ok (.iand, 1)) (hp : pc + 1 = pc') {z : Int32} (hz : x &&& y = z) (q : own_Go p e below Q T (mkF m pc' Ls (.int z :: rest))) : own_Go p e below Q T (mkF m pc Ls (.int y :: .int x :: rest)) := by
  subst hp hz; exact own_go (fun t k' => XS.iand X.here hx rfl hd rfl k') q
theorem o_ior (X : Stand p l e R s m args below meth c T locs cells slots) (hx : p.tables.exec = Jvm.exec) (hd : decode c.code pc = .ok (.ior, 1)) (hp : pc + 1 = pc') {z : Int32} (hz : x ||| y = z) (q : own_Go p e below Q T (mkF m pc' Ls (.int z :: rest))) : own_Go p e below Q T (mkF m pc Ls (.int y :: .int x :: rest)) := by
  subst hp hz; exact own_go (fun t k' => XS.ior X.here hx rfl hd rfl k') q
theorem o_ixor (X : Stand p l e R s m args below meth c T locs cells slots) (hx : p.tables.exec = Jvm.exec) (hd : decode c.code pc = .ok (.ixor, 1)) (hp : pc + 1 = pc') {z : Int32} (hz : x ^^^ y = z) (q : own_Go p e below Q T (mkF m pc' Ls (.int z :: rest))) : own_Go p e below Q T (mkF m pc Ls (.int y :: .int x :: rest)) := by
  subst hp hz; exact own_go (fun t k' => XS.ixor X.here hx rfl hd rfl k') q
/-- Java's shifts, remainders: under names of our own -/
def own_shl (x y : Int32) : Int32 := x <<< (y &&& 31)
def own_shr (x y : Int32) : Int32 := x >>> (y &&& 31)
def own_ushr (x y : Int32) : Int32 := (x.toUInt32 >>> (y &&& 31).toUInt32).toInt32
def own_rem (x y : Int32) : Int32 := x - (x / y) * y
def own_lshl (u : Int64) (y : Int32) : Int64 := u <<< (y &&& 0x3f).toInt64
def own_lushr (u : Int64) (y : Int32) : Int64 := (u.toUInt64 >>> (y &&& 0x3f).toInt64.toUInt64).toInt64
def own_lrem (u w : Int64) : Int64 := u - (u / w) * w
theorem o_ishl (X : Stand p l e R s m args below meth c T locs cells slots) (hx : p.tables.exec = Jvm.exec) (hd : decode c.code pc = .ok (.ishl, 1)) (hp : pc + 1 = pc') {z : Int32} (hz : own_shl x y = z) (q : own_Go p e below Q T (mkF m pc' Ls (.int z :: rest))) : own_Go p e below Q T (mkF m pc Ls (.int y :: .int x :: rest)) := by
  subst hp hz; exact own_go (fun t k' => XS.ishl X.here hx rfl hd rfl k') q
theorem o_ishr (X : Stand p l e R s m args below meth c T locs cells slots) (hx : p.tables.exec = Jvm.exec) (hd : decode c.code pc = .ok (.ishr, 1)) (hp : pc + 1 = pc') {z : Int32} (hz : own_shr x y = z) (q : own_Go p e below Q T (mkF m pc' Ls (.int z :: rest))) : own_Go p e below Q T (mkF m pc Ls (.int y :: .int x :: rest)) := by
  subst hp hz; exact own_go (fun t k' => XS.ishr X.here hx rfl hd rfl k') q
theorem o_iushr (X : Stand p l e R s m args below meth c T locs cells slots) (hx : p.tables.exec = Jvm.exec) (hd : decode c.code pc = .ok (.iushr, 1)) (hp : pc + 1 = pc') {z : Int32} (hz : own_ushr x y = z) (q : own_Go p e below Q T (mkF m pc' Ls (.int z :: rest))) : own_Go p e below Q T (mkF m pc Ls (.int y :: .int x :: rest)) := by
  subst hp hz; exact own_go (fun t k' => XS.iushr X.here hx rfl hd rfl k') q
theorem o_irem (X : Stand p l e R s m args below meth c T locs cells slots) (hx : p.tables.exec = Jvm.exec) (hd : decode c.code pc = .ok (.irem, 1)) (hp : pc + 1 = pc') (hy : y ≠ 0) {z : Int32} (hz : own_rem x y = z) (q : own_Go p e below Q T (mkF m pc' Ls (.int z :: rest))) : own_Go p e below Q T (mkF m pc Ls (.int y :: .int x :: rest)) := by
  subst hp hz; exact own_go (fun t k' => XS.irem X.here hx rfl hd rfl hy k') q
theorem o_idiv (X : Stand p l e R s m args below meth c T locs cells slots) (hx : p.tables.exec = Jvm.exec) (hd : decode c.code pc = .ok (.idiv, 1)) (hp : pc + 1 = pc') (hy : y ≠ 0) {z : Int32} (hz : x / y = z) (q : own_Go p e below Q T (mkF m pc' Ls (.int z :: rest))) : own_Go p e below Q T (mkF m pc Ls (.int y :: .int x :: rest)) := by
  subst hp hz; exact own_go (fun t k' => XS.idiv X.here hx rfl hd rfl hy k') q
theorem o_ineg (X : Stand p l e R s m args below meth c T locs cells slots) (hx : p.tables.exec = Jvm.exec) (hd : decode c.code pc = .ok (.ineg, 1)) (hp : pc + 1 = pc') {z : Int32} (hz : -x = z) (q : own_Go p e below Q T (mkF m pc' Ls (.int z :: rest))) : own_Go p e below Q T (mkF m pc Ls (.int x :: rest)) := by
  subst hp hz; exact own_go (fun t k' => XS.ineg X.here hx rfl hd rfl k') q
theorem o_ladd (X : Stand p l e R s m args below meth c T locs cells slots) (hx : p.tables.exec = Jvm.exec) (hd : decode c.code pc = .ok (.ladd, 1)) (hp : pc + 1 = pc') {z : Int64} (hz : u + w = z) (q : own_Go p e below Q T (mkF m pc' Ls (.long z :: rest))) : own_Go p e below Q T (mkF m pc Ls (.long w :: .long u :: rest)) := by
  subst hp hz; exact own_go (fun t k' => XS.ladd X.here hx rfl hd rfl k') q
theorem o_lsub (X : Stand p l e R s m args below meth c T locs cells slots) (hx : p.tables.exec = Jvm.exec) (hd : decode c.code pc = .ok (.lsub, 1)) (hp : pc + 1 = pc') {z : Int64} (hz : u - w = z) (q : own_Go p e below Q T (mkF m pc' Ls (.long z :: rest))) : own_Go p e below Q T (mkF m pc Ls (.long w :: .long u :: rest)) := by
  subst hp hz; exact own_go (fun t k' => XS.lsub X.here hx rfl hd rfl k') q
theorem o_lmul (X : Stand p l e R s m args below meth c T locs cells slots) (hx : p.tables.exec = Jvm.exec) (hd : decode c.code pc = .ok (.lmul, 1)) (hp : pc + 1 = pc') {z : Int64} (hz : u * w = z) (q : own_Go p e below Q T (mkF m pc' Ls (.long z :: rest))) : own_Go p e below Q T (mkF m pc Ls (.long w :: .long u :: rest)) := by
  subst hp hz; exact own_go (fun t k' => XS.lmul X.here hx rfl hd rfl k') q
theorem o_land (X : Stand p l e R s m args below meth c T locs cells slots) (hx : p.tables.exec = Jvm.exec) (hd : decode c.code pc = .ok (.land, 1)) (hp : pc + 1 = pc') {z : Int64} (hz : u &&& w = z) (q : own_Go p e below Q T (mkF m pc' Ls (.long z :: rest))) : own_Go p e below Q T (mkF m pc Ls (.long w :: .long u :: rest)) := by
  subst hp hz; exact own_go (fun t k' => XS.land X.here hx rfl hd rfl k') q
theorem o_lor (X : Stand p l e R s m args below meth c T locs cells slots) (hx : p.tables.exec = Jvm.exec) (hd : decode c.code pc = .ok (.lor, 1)) (hp : pc + 1 = pc') {z : Int64} (hz : u ||| w = z) (q : own_Go p e below Q T (mkF m pc' Ls (.long z :: rest))) : own_Go p e below Q T (mkF m pc Ls (.long w :: .long u :: rest)) := by
  subst hp hz; exact own_go (fun t k' => XS.lor X.here hx rfl hd rfl k') q
theorem o_lxor (X : Stand p l e R s m args below meth c T locs cells slots) (hx : p.tables.exec = Jvm.exec) (hd : decode c.code pc = .ok (.lxor, 1)) (hp : pc + 1 = pc') {z : Int64} (hz : u ^^^ w = z) (q : own_Go p e below Q T (mkF m pc' Ls (.long z :: rest))) : own_Go p e below Q T (mkF m pc Ls (.long w :: .long u :: rest)) := by
  subst hp hz; exact own_go (fun t k' => XS.lxor X.here hx rfl hd rfl k') q
theorem o_lshl (X : Stand p l e R s m args below meth c T locs cells slots) (hx : p.tables.exec = Jvm.exec) (hd : decode c.code pc = .ok (.lshl, 1)) (hp : pc + 1 = pc') {z : Int64} (hz : own_lshl u y = z) (q : own_Go p e below Q T (mkF m pc' Ls (.long z :: rest))) : own_Go p e below Q T (mkF m pc Ls (.int y :: .long u :: rest)) := by
  subst hp hz; exact own_go (fun t k' => XS.lshl X.here hx rfl hd rfl k') q
theorem o_lushr (X : Stand p l e R s m args below meth c T locs cells slots) (hx : p.tables.exec = Jvm.exec) (hd : decode c.code pc = .ok (.lushr, 1)) (hp : pc + 1 = pc') {z : Int64} (hz : own_lushr u y = z) (q : own_Go p e below Q T (mkF m pc' Ls (.long z :: rest))) : own_Go p e below Q T (mkF m pc Ls (.int y :: .long u :: rest)) := by
  subst hp hz; exact own_go (fun t k' => XS.lushr X.here hx rfl hd rfl k') q
theorem o_ldiv (X : Stand p l e R s m args below meth c T locs cells slots) (hx : p.tables.exec = Jvm.exec) (hd : decode c.code pc = .ok (.ldiv, 1)) (hp : pc + 1 = pc') (hy : w ≠ 0) {z : Int64} (hz : u / w = z) (q : own_Go p e below Q T (mkF m pc' Ls (.long z :: rest))) : own_Go p e below Q T (mkF m pc Ls (.long w :: .long u :: rest)) := by
  subst hp hz; exact own_go (fun t k' => XS.ldiv X.here hx rfl hd rfl hy k') q
theorem o_lrem (X : Stand p l e R s m args below meth c T locs cells slots) (hx : p.tables.exec = Jvm.exec) (hd : decode c.code pc = .ok (.lrem, 1)) (hp : pc + 1 = pc') (hy : w ≠ 0) {z : Int64} (hz : own_lrem u w = z) (q : own_Go p e below Q T (mkF m pc' Ls (.long z :: rest))) : own_Go p e below Q T (mkF m pc Ls (.long w :: .long u :: rest)) := by
  subst hp hz; exact own_go (fun t k' => XS.lrem X.here hx rfl hd rfl hy k') q
theorem o_i2l (X : Stand p l e R s m args below meth c T locs cells slots) (hx : p.tables.exec = Jvm.exec) (hd : decode c.code pc = .ok (.i2l, 1)) (hp : pc + 1 = pc') {z : Int64} (hz : x.toInt64 = z) (q : own_Go p e below Q T (mkF m pc' Ls (.long z :: rest))) : own_Go p e below Q T (mkF m pc Ls (.int x :: rest)) := by
  subst hp hz; exact own_go (fun t k' => XS.i2l X.here hx rfl hd rfl k') q
theorem o_l2i (X : Stand p l e R s m args below meth c T locs cells slots) (hx : p.tables.exec = Jvm.exec) (hd : decode c.code pc = .ok (.l2i, 1)) (hp : pc + 1 = pc') {z : Int32} (hz : u.toInt32 = z) (q : own_Go p e below Q T (mkF m pc' Ls (.int z :: rest))) : own_Go p e below Q T (mkF m pc Ls (.long u :: rest)) := by
  subst hp hz; exact own_go (fun t k' => XS.l2i X.here hx rfl hd rfl k') q
def own_i2b (x : Int32) : Int32 := x.toInt8.toInt32
def own_i2c (x : Int32) : Int32 := x.toUInt32.toUInt16.toUInt32.toInt32
theorem o_i2b (X : Stand p l e R s m args below meth c T locs cells slots) (hx : p.tables.exec = Jvm.exec) (hd : decode c.code pc = .ok (.i2b, 1)) (hp : pc + 1 = pc') {z : Int32} (hz : own_i2b x = z) (q : own_Go p e below Q T (mkF m pc' Ls (.int z :: rest))) : own_Go p e below Q T (mkF m pc Ls (.int x :: rest)) := by
  subst hp hz; exact own_go (fun t k' => XS.i2b X.here hx rfl hd rfl k') q
theorem o_i2c (X : Stand p l e R s m args below meth c T locs cells slots) (hx : p.tables.exec = Jvm.exec) (hd : decode c.code pc = .ok (.i2c, 1)) (hp : pc + 1 = pc') {z : Int32} (hz : own_i2c x = z) (q : own_Go p e below Q T (mkF m pc' Ls (.int z :: rest))) : own_Go p e below Q T (mkF m pc Ls (.int x :: rest)) := by
  subst hp hz; exact own_go (fun t k' => XS.i2c X.here hx rfl hd rfl k') q
theorem o_iinc (X : Stand p l e R s m args below meth c T locs cells slots) (hx : p.tables.exec = Jvm.exec) {k : Nat} {i : Int} (hd : decode c.code pc = .ok (.iinc k i, 3)) (hl : Ls[k]? = some (.val (.int x))) (hz : x + Int32.ofInt i = y) (hl' : storeLocals Ls k (.int y) = some l') (hp : pc + 3 = pc') (q : own_Go p e below Q T (mkF m pc' l' rest)) : own_Go p e below Q T (mkF m pc Ls rest) := by
  subst hp hz; exact own_go (fun t k' => XS.iinc X.here hx rfl hd hl hl' k') q
theorem o_dup (X : Stand p l e R s m args below meth c T locs cells slots) (hx : p.tables.exec = Jvm.exec) {v : Value} (hd : decode c.code pc = .ok (.dup, 1)) (hv : v.category = 1) (hp : pc + 1 = pc') (q : own_Go p e below Q T (mkF m pc' Ls (v :: v :: rest))) : own_Go p e below Q T (mkF m pc Ls (v :: rest)) := by
  subst hp; exact own_go (fun t k' => XS.dup X.here hx rfl hd rfl hv k') q
theorem o_pop (X : Stand p l e R s m args below meth c T locs cells slots) (hx : p.tables.exec = Jvm.exec) {v : Value} (hd : decode c.code pc = .ok (.pop, 1)) (hv : v.category = 1) (hp : pc + 1 = pc') (q : own_Go p e below Q T (mkF m pc' Ls rest)) : own_Go p e below Q T (mkF m pc Ls (v :: rest)) := by
  subst hp; exact own_go (fun t k' => XS.pop X.here hx rfl hd rfl hv k') q
theorem o_goto (X : Stand p l e R s m args below meth c T locs cells slots) (hx : p.tables.exec = Jvm.exec) {o : Int} (hd : decode c.code pc = .ok (.goto o, 3)) (ho : 0 ≤ (pc : Int) + o) (hp : ((pc : Int) + o).toNat = pc') (q : own_Go p e below Q T (mkF m pc' Ls rest)) : own_Go p e below Q T (mkF m pc Ls rest) :=
  own_go (fun t k' => XS.goto X.here hx rfl rfl hd ho hp k') q
theorem o_ifP (X : Stand p l e R s m args below meth c T locs cells slots) (hx : p.tables.exec = Jvm.exec) {cd : ClassFile.Cond} {o : Int} {P : Prop} [Decidable P] (hP : P → ifCond.holds cd x = true) (hN : ¬ P → ifCond.holds cd x = false) (hd : decode c.code pc = .ok (.ifCond cd o, 3)) (ho : 0 ≤ (pc : Int) + o) (hp : ((pc : Int) + o).toNat = pc1) (hp2 : pc + 3 = pc2)
    (kt : P → own_Go p e below Q T (mkF m pc1 Ls rest)) (kf : ¬ P → own_Go p e below Q T (mkF m pc2 Ls rest)) : own_Go p e below Q T (mkF m pc Ls (.int x :: rest)) := by
  subst hp2
  by_cases q : P
  · exact own_go (fun t k' => XS.ifYes X.here hx rfl rfl hd rfl (hP q) ho hp k') (kt q)
  · exact own_go (fun t k' => XS.ifNo X.here hx rfl hd rfl (hN q) k') (kf q)
theorem o_ifN (X : Stand p l e R s m args below meth c T locs cells slots) (hx : p.tables.exec = Jvm.exec) {cd : ClassFile.Cond} {o : Int} {P : Prop} [Decidable P] (hP : P → ifCond.holds cd x = false) (hN : ¬ P → ifCond.holds cd x = true) (hd : decode c.code pc = .ok (.ifCond cd o, 3)) (ho : 0 ≤ (pc : Int) + o) (hp : ((pc : Int) + o).toNat = pc1) (hp2 : pc + 3 = pc2)
    (kt : ¬ P → own_Go p e below Q T (mkF m pc1 Ls rest)) (kf : P → own_Go p e below Q T (mkF m pc2 Ls rest)) : own_Go p e below Q T (mkF m pc Ls (.int x :: rest)) := by
  subst hp2
  by_cases q : P
  · exact own_go (fun t k' => XS.ifNo X.here hx rfl hd rfl (hP q) k') (kf q)
  · exact own_go (fun t k' => XS.ifYes X.here hx rfl rfl hd rfl (hN q) ho hp k') (kt q)
theorem o_icP (X : Stand p l e R s m args below meth c T locs cells slots) (hx : p.tables.exec = Jvm.exec) {cd : ClassFile.Cond} {o : Int} {P : Prop} [Decidable P] (hP : P → if_icmp.holds cd x y = true) (hN : ¬ P → if_icmp.holds cd x y = false) (hd : decode c.code pc = .ok (.if_icmp cd o, 3)) (ho : 0 ≤ (pc : Int) + o) (hp : ((pc : Int) + o).toNat = pc1) (hp2 : pc + 3 = pc2)
    (kt : P → own_Go p e below Q T (mkF m pc1 Ls rest)) (kf : ¬ P → own_Go p e below Q T (mkF m pc2 Ls rest)) : own_Go p e below Q T (mkF m pc Ls (.int y :: .int x :: rest)) := by
  subst hp2
  by_cases q : P
  · exact own_go (fun t k' => XS.icmpYes X.here hx rfl rfl hd rfl (hP q) ho hp k') (kt q)
  · exact own_go (fun t k' => XS.icmpNo X.here hx rfl hd rfl (hN q) k') (kf q)
theorem o_icN (X : Stand p l e R s m args below meth c T locs cells slots) (hx : p.tables.exec = Jvm.exec) {cd : ClassFile.Cond} {o : Int} {P : Prop} [Decidable P] (hP : P → if_icmp.holds cd x y = false) (hN : ¬ P → if_icmp.holds cd x y = true) (hd : decode c.code pc = .ok (.if_icmp cd o, 3)) (ho : 0 ≤ (pc : Int) + o) (hp : ((pc : Int) + o).toNat = pc1) (hp2 : pc + 3 = pc2)
    (kt : ¬ P → own_Go p e below Q T (mkF m pc1 Ls rest)) (kf : P → own_Go p e below Q T (mkF m pc2 Ls rest)) : own_Go p e below Q T (mkF m pc Ls (.int y :: .int x :: rest)) := by
  subst hp2
  by_cases q : P
  · exact own_go (fun t k' => XS.icmpNo X.here hx rfl hd rfl (hP q) k') (kf q)
  · exact own_go (fun t k' => XS.icmpYes X.here hx rfl rfl hd rfl (hN q) ho hp k') (kt q)
/-- a branch that goes one way for sure -/
theorem o_ifY (X : Stand p l e R s m args below meth c T locs cells slots) (hx : p.tables.exec = Jvm.exec) {cd : ClassFile.Cond} {o : Int} (hc : ifCond.holds cd x = true) (hd : decode c.code pc = .ok (.ifCond cd o, 3)) (ho : 0 ≤ (pc : Int) + o) (hp : ((pc : Int) + o).toNat = pc') (q : own_Go p e below Q T (mkF m pc' Ls rest)) : own_Go p e below Q T (mkF m pc Ls (.int x :: rest)) :=
  own_go (fun t k' => XS.ifYes X.here hx rfl rfl hd rfl hc ho hp k') q
theorem o_ifX (X : Stand p l e R s m args below meth c T locs cells slots) (hx : p.tables.exec = Jvm.exec) {cd : ClassFile.Cond} {o : Int} (hc : ifCond.holds cd x = false) (hd : decode c.code pc = .ok (.ifCond cd o, 3)) (hp : pc + 3 = pc') (q : own_Go p e below Q T (mkF m pc' Ls rest)) : own_Go p e below Q T (mkF m pc Ls (.int x :: rest)) := by
  subst hp; exact own_go (fun t k' => XS.ifNo X.here hx rfl hd rfl hc k') q
theorem o_icY (X : Stand p l e R s m args below meth c T locs cells slots) (hx : p.tables.exec = Jvm.exec) {cd : ClassFile.Cond} {o : Int} (hc : if_icmp.holds cd x y = true) (hd : decode c.code pc = .ok (.if_icmp cd o, 3)) (ho : 0 ≤ (pc : Int) + o) (hp : ((pc : Int) + o).toNat = pc') (q : own_Go p e below Q T (mkF m pc' Ls rest)) : own_Go p e below Q T (mkF m pc Ls (.int y :: .int x :: rest)) :=
  own_go (fun t k' => XS.icmpYes X.here hx rfl rfl hd rfl hc ho hp k') q
theorem o_icX (X : Stand p l e R s m args below meth c T locs cells slots) (hx : p.tables.exec = Jvm.exec) {cd : ClassFile.Cond} {o : Int} (hc : if_icmp.holds cd x y = false) (hd : decode c.code pc = .ok (.if_icmp cd o, 3)) (hp : pc + 3 = pc') (q : own_Go p e below Q T (mkF m pc' Ls rest)) : own_Go p e below Q T (mkF m pc Ls (.int y :: .int x :: rest)) := by
  subst hp; exact own_go (fun t k' => XS.icmpNo X.here hx rfl hd rfl hc k') q
theorem o_lcmp (X : Stand p l e R s m args below meth c T locs cells slots) (hx : p.tables.exec = Jvm.exec) (hd : decode c.code pc = .ok (.lcmp, 1)) (hp : pc + 1 = pc') (q : own_Go p e below Q T (mkF m pc' Ls (.int (XT.cmpL u w) :: rest))) : own_Go p e below Q T (mkF m pc Ls (.long w :: .long u :: rest)) := by
  subst hp; exact own_go (fun t k' => XS.lcmp X.here hx rfl hd rfl k') q
theorem o_ifnullX (X : Stand p l e R s m args below meth c T locs cells slots) (hx : p.tables.exec = Jvm.exec) {o : Int} {a : Addr} (hd : decode c.code pc = .ok (.ifnull o, 3)) (hp : pc + 3 = pc') (q : own_Go p e below Q T (mkF m pc' Ls rest)) : own_Go p e below Q T (mkF m pc Ls (.ref a :: rest)) := by
  subst hp; exact own_go (fun t k' => XS.ifnullNo X.here hx rfl hd rfl k') q
/-- the ends -/
theorem o_ret (X : Stand p l e R s m args below meth c T locs cells slots) {v : Option Value} {g : JFrame} (hv : meth.sig.returnType = none → v = none) (hlk : meth.locks = false) (hc : cells ≤ cc) (hs : slots ≤ ss) (eT : T.heap = h) (hK : K v h locs)
    (st : ∀ fs : List Frame, (∀ (f : JFrame) (acts : List Action), f.method = m → f.locked = none → f.entered = [] → (doReturn e (T.setTop f) acts v).1 = T.setFrames fs) → Steps p.tables e below (T.setTop g) (T.setFrames fs)) : own_Go p e below (own_Q s K cc ss) T g := by
  subst eT
  obtain ⟨fs, hr, hrun, hended, hW, hsame⟩ := X.leave (v := v) hv hlk
  exact ⟨_, _, st fs hr, hrun, hended, _, _, rfl, hK, ⟨_, rfl⟩, hW, hsame.mono hc hs⟩
theorem o_retV (X : Stand p l e R s m args below meth c T locs cells slots) (hx : p.tables.exec = Jvm.exec) (hret : meth.sig.returnType = none) (hlk : meth.locks = false) (hd : decode c.code pc = .ok (.return_, 1)) (hc : cells ≤ cc) (hs : slots ≤ ss) (eT : T.heap = h) (hK : K none h locs) : own_Go p e below (own_Q s K cc ss) T (mkF m pc Ls []) :=
  o_ret X (fun _ => rfl) hlk hc hs eT hK fun fs hr => X.returnOut hx hret hd hr
theorem o_retI (X : Stand p l e R s m args below meth c T locs cells slots) (hx : p.tables.exec = Jvm.exec) (hret : meth.sig.returnType = some .int) (hlk : meth.locks = false) (hd : decode c.code pc = .ok (.ireturn, 1)) (hc : cells ≤ cc) (hs : slots ≤ ss) (eT : T.heap = h) (hK : K (some (.int x)) h locs) : own_Go p e below (own_Q s K cc ss) T (mkF m pc Ls (.int x :: rest)) :=
  o_ret X (fun h => by rw [hret] at h; cases h) hlk hc hs eT hK fun fs hr => retI X hx hret hd hr
theorem o_retN (X : Stand p l e R s m args below meth c T locs cells slots) (hx : p.tables.exec = Jvm.exec) {t : FieldType} (hret : meth.sig.returnType = some t) (ht : t = .boolean ∨ t = .byte ∨ t = .char ∨ t = .short) (hlk : meth.locks = false) (hd : decode c.code pc = .ok (.ireturn, 1)) (hc : cells ≤ cc) (hs : slots ≤ ss) (eT : T.heap = h) (hK : K (some (.int (nar t x))) h locs) : own_Go p e below (own_Q s K cc ss) T (mkF m pc Ls (.int x :: rest)) :=
  o_ret X (fun h => by rw [hret] at h; cases h) hlk hc hs eT hK fun fs hr => retN X hx hret ht hd hr
theorem o_retL (X : Stand p l e R s m args below meth c T locs cells slots) (hx : p.tables.exec = Jvm.exec) (hret : meth.sig.returnType = some .long) (hlk : meth.locks = false) (hd : decode c.code pc = .ok (.lreturn, 1)) (hc : cells ≤ cc) (hs : slots ≤ ss) (eT : T.heap = h) (hK : K (some (.long u)) h locs) : own_Go p e below (own_Q s K cc ss) T (mkF m pc Ls (.long u :: rest)) :=
  o_ret X (fun h => by rw [hret] at h; cases h) hlk hc hs eT hK fun fs hr => by
    jvm_step X.here [X.here.top, hx, hd, X.method', hret, narrow]
    first | (intro acts; rw [hr _ acts rfl rfl rfl]) | rw [hr _ _ rfl rfl rfl]
    exact Steps.refl _
theorem o_retA (X : Stand p l e R s m args below meth c T locs cells slots) (hx : p.tables.exec = Jvm.exec) {t : FieldType} (hret : meth.sig.returnType = some (.array t)) (hlk : meth.locks = false) {a : Addr} (hd : decode c.code pc = .ok (.areturn, 1)) (hc : cells ≤ cc) (hs : slots ≤ ss) (eT : T.heap = h) (hK : K (some (.ref a)) h locs) : own_Go p e below (own_Q s K cc ss) T (mkF m pc Ls (.ref a :: rest)) :=
  o_ret X (fun h => by rw [hret] at h; cases h) hlk hc hs eT hK fun fs hr => by
    jvm_step X.here [X.here.top, hx, hd, X.method', hret, Value.isRef, FieldType.isReference]
    first | (intro acts; rw [hr _ acts rfl rfl rfl]) | rw [hr _ _ rfl rfl rfl]
    exact Steps.refl _
/-- arrays as lists -/
def own_AI (Z : State) (h : Heap) (a : Addr) (ty : FieldType) (vs : List Int32) : Prop := ∃ cl : Cell, Arr Z h a cl ty ∧ cl.slots = (vs.map Value.int).toArray
def own_AJ (Z : State) (h : Heap) (a : Addr) (vs : List Int64) : Prop := ∃ cl : Cell, Arr Z h a cl .long ∧ cl.slots = (vs.map Value.long).toArray
def own_in (n : Nat) (j : Int32) : Prop := ¬ j < 0 ∧ j.toNatClampNeg < n
def own_get (vs : List Int32) (j : Int32) : Int32 := vs.getD j.toNatClampNeg 0
def own_getL (vs : List Int64) (j : Int32) : Int64 := vs.getD j.toNatClampNeg 0
def own_set (vs : List Int32) (j x : Int32) : List Int32 := vs.set j.toNatClampNeg x
def own_setL (vs : List Int64) (j : Int32) (u : Int64) : List Int64 := vs.set j.toNatClampNeg u
theorem own_AI.lt {a : Addr} {ty : FieldType} {vs : List Int32} (A : own_AI Z h a ty vs) : a < h.size := by obtain ⟨cl, A, -⟩ := A; exact A.lt
theorem own_AI.ext {a : Addr} {ty : FieldType} {vs : List Int32} (A : own_AI Z h a ty vs) (E : Ext h h') : own_AI Z h' a ty vs := by obtain ⟨cl, A, q⟩ := A; exact ⟨cl, A.ext E, q⟩
theorem own_AI.other {a b : Addr} {ty : FieldType} {vs : List Int32} {sl : Nat} {v : Value} (A : own_AI Z h a ty vs) (W : Wr h h' b sl v) (ne : a ≠ b) : own_AI Z h' a ty vs := by obtain ⟨cl, A, q⟩ := A; exact ⟨cl, A.other W ne, q⟩
theorem own_AI.keep {a : Addr} {ty : FieldType} {vs : List Int32} {ws : List Addr} (A : own_AI Z h a ty vs) (K : Keep h h' ws) (ne : a ∉ ws) : own_AI Z h' a ty vs := by obtain ⟨cl, A, q⟩ := A; exact ⟨cl, ⟨K.2.1 a cl A.1 ne, A.2⟩, q⟩
theorem own_AI.put {a : Addr} {ty : FieldType} {vs : List Int32} {j : Int32} (A : own_AI Z h a ty vs) (W : Wr h h' a j.toNatClampNeg (.int x)) : own_AI Z h' a ty (own_set vs j x) := by
  obtain ⟨cl, A, q⟩ := A
  refine ⟨_, A.same W, ?_⟩
  show cl.slots.setIfInBounds _ _ = _
  rw [q, own_set, List.map_set, List.setIfInBounds_toArray]
theorem own_AJ.lt {a : Addr} {vs : List Int64} (A : own_AJ Z h a vs) : a < h.size := by obtain ⟨cl, A, -⟩ := A; exact A.lt
theorem own_AJ.ext {a : Addr} {vs : List Int64} (A : own_AJ Z h a vs) (E : Ext h h') : own_AJ Z h' a vs := by obtain ⟨cl, A, q⟩ := A; exact ⟨cl, A.ext E, q⟩
theorem own_AJ.other {a b : Addr} {vs : List Int64} {sl : Nat} {v : Value} (A : own_AJ Z h a vs) (W : Wr h h' b sl v) (ne : a ≠ b) : own_AJ Z h' a vs := by obtain ⟨cl, A, q⟩ := A; exact ⟨cl, A.other W ne, q⟩
theorem own_AJ.keep {a : Addr} {vs : List Int64} {ws : List Addr} (A : own_AJ Z h a vs) (K : Keep h h' ws) (ne : a ∉ ws) : own_AJ Z h' a vs := by obtain ⟨cl, A, q⟩ := A; exact ⟨cl, ⟨K.2.1 a cl A.1 ne, A.2⟩, q⟩
theorem own_AJ.put {a : Addr} {vs : List Int64} {j : Int32} (A : own_AJ Z h a vs) (W : Wr h h' a j.toNatClampNeg (.long u)) : own_AJ Z h' a (own_setL vs j u) := by
  obtain ⟨cl, A, q⟩ := A
  refine ⟨_, A.same W, ?_⟩
  show cl.slots.setIfInBounds _ _ = _
  rw [q, own_setL, List.map_set, List.setIfInBounds_toArray]
theorem own_inA {n : Nat} {j : Int32} {cl : Cell} (hj : own_in n j) (hn : cl.slots.size = n) : ¬ (j < 0 ∨ cl.slots.size ≤ j.toNatClampNeg) := fun q => q.elim hj.1 fun q => by rw [hn] at q; exact Nat.not_lt.mpr q hj.2
theorem own_szI {cl : Cell} {vs : List Int32} (q : cl.slots = (vs.map Value.int).toArray) : cl.slots.size = vs.length := by rw [q]; simp
theorem own_szJ {cl : Cell} {vs : List Int64} (q : cl.slots = (vs.map Value.long).toArray) : cl.slots.size = vs.length := by rw [q]; simp
theorem own_atI {cl : Cell} {vs : List Int32} {j : Int32} (q : cl.slots = (vs.map Value.int).toArray) (hj : own_in vs.length j) : cl.slots[j.toNatClampNeg]? = some (.int (own_get vs j)) := by
  rw [q, List.getElem?_toArray, List.getElem?_map, List.getElem?_eq_getElem hj.2, own_get, List.getD_eq_getElem?_getD, List.getElem?_eq_getElem hj.2]; rfl
theorem own_atJ {cl : Cell} {vs : List Int64} {j : Int32} (q : cl.slots = (vs.map Value.long).toArray) (hj : own_in vs.length j) : cl.slots[j.toNatClampNeg]? = some (.long (own_getL vs j)) := by
  rw [q, List.getElem?_toArray, List.getElem?_map, List.getElem?_eq_getElem hj.2, own_getL, List.getD_eq_getElem?_getD, List.getElem?_eq_getElem hj.2]; rfl
theorem o_iaload (X : Stand p l e R s m args below meth c T locs cells slots) (hx : p.tables.exec = Jvm.exec) (hZ : Z.Warmed39 s.vm) (eT : T.heap = h) {a : Addr} {vs : List Int32} {j : Int32} (A : own_AI Z h a .int vs) (hj : own_in vs.length j) (hd : decode c.code pc = .ok (.iaload, 1)) (hp : pc + 1 = pc') (hv : own_get vs j = x) (q : own_Go p e below Q T (mkF m pc' Ls (.int x :: rest))) : own_Go p e below Q T (mkF m pc Ls (.int j :: .ref a :: rest)) := by
  subst hp hv
  obtain ⟨cl, A, qs⟩ := A
  exact own_go (fun t k' => X.iaload hx (by rw [eT]; exact A.1) (State.isArrayOf_alike hZ.alike A.2.1) A.2.2 (own_inA hj (own_szI qs)) (own_atI qs hj) (g := mkF m pc Ls (.int j :: .ref a :: rest)) rfl rfl hd t k') q
theorem o_baload (X : Stand p l e R s m args below meth c T locs cells slots) (hx : p.tables.exec = Jvm.exec) (hZ : Z.Warmed39 s.vm) (eT : T.heap = h) {a : Addr} {vs : List Int32} {j : Int32} (A : own_AI Z h a .byte vs) (hj : own_in vs.length j) (hd : decode c.code pc = .ok (.baload, 1)) (hp : pc + 1 = pc') (hv : own_get vs j = x) (q : own_Go p e below Q T (mkF m pc' Ls (.int x :: rest))) : own_Go p e below Q T (mkF m pc Ls (.int j :: .ref a :: rest)) := by
  subst hp hv
  obtain ⟨cl, A, qs⟩ := A
  exact own_go (fun t k' => X.baloadBytes hx (by rw [eT]; exact A.1) (State.isArrayOf_alike hZ.alike A.2.1) A.2.2 (own_inA hj (own_szI qs)) (own_atI qs hj) (g := mkF m pc Ls (.int j :: .ref a :: rest)) rfl rfl hd t k') q
theorem o_laload (X : Stand p l e R s m args below meth c T locs cells slots) (hx : p.tables.exec = Jvm.exec) (hZ : Z.Warmed39 s.vm) (eT : T.heap = h) {a : Addr} {vs : List Int64} {j : Int32} (A : own_AJ Z h a vs) (hj : own_in vs.length j) (hd : decode c.code pc = .ok (.laload, 1)) (hp : pc + 1 = pc') (hv : own_getL vs j = u) (q : own_Go p e below Q T (mkF m pc' Ls (.long u :: rest))) : own_Go p e below Q T (mkF m pc Ls (.int j :: .ref a :: rest)) := by
  subst hp hv
  obtain ⟨cl, A, qs⟩ := A
  exact own_go (fun t k' => X.laload hx (by rw [eT]; exact A.1) (State.isArrayOf_alike hZ.alike A.2.1) A.2.2 (own_inA hj (own_szJ qs)) (own_atJ qs hj) (g := mkF m pc Ls (.int j :: .ref a :: rest)) rfl rfl hd t k') q
/-- the length as arraylength pushes it -/
def own_len (n : Nat) : Int32 := n.toInt32
theorem o_alenI (X : Stand p l e R s m args below meth c T locs cells slots) (hx : p.tables.exec = Jvm.exec) (hZ : Z.Warmed39 s.vm) (eT : T.heap = h) {a : Addr} {ty : FieldType} {vs : List Int32} (A : own_AI Z h a ty vs) (hd : decode c.code pc = .ok (.arraylength, 1)) (hp : pc + 1 = pc') (hv : own_len vs.length = x) (q : own_Go p e below Q T (mkF m pc' Ls (.int x :: rest))) : own_Go p e below Q T (mkF m pc Ls (.ref a :: rest)) := by
  subst hp hv
  obtain ⟨cl, A, qs⟩ := A
  refine own_go (fun t k' => X.arraylength hx (by rw [eT]; exact A.1) (State.isArrayOf_alike hZ.alike A.2.1) (g := mkF m pc Ls (.ref a :: rest)) rfl rfl hd t k') ?_
  rw [own_szI qs]; exact q
theorem o_alenJ (X : Stand p l e R s m args below meth c T locs cells slots) (hx : p.tables.exec = Jvm.exec) (hZ : Z.Warmed39 s.vm) (eT : T.heap = h) {a : Addr} {vs : List Int64} (A : own_AJ Z h a vs) (hd : decode c.code pc = .ok (.arraylength, 1)) (hp : pc + 1 = pc') (hv : own_len vs.length = x) (q : own_Go p e below Q T (mkF m pc' Ls (.int x :: rest))) : own_Go p e below Q T (mkF m pc Ls (.ref a :: rest)) := by
  subst hp hv
  obtain ⟨cl, A, qs⟩ := A
  refine own_go (fun t k' => X.arraylength hx (by rw [eT]; exact A.1) (State.isArrayOf_alike hZ.alike A.2.1) (g := mkF m pc Ls (.ref a :: rest)) rfl rfl hd t k') ?_
  rw [own_szJ qs]; exact q
/-- stores: the place stays in locs -/
theorem o_iastore (X : Stand p l e R s m args below meth c T locs cells slots) (hx : p.tables.exec = Jvm.exec) (hZ : Z.Warmed39 s.vm) (eT : T.heap = h) {a : Addr} {vs vs' : List Int32} {j : Int32} (A : own_AI Z h a .int vs) (hj : own_in vs.length j) (hd : decode c.code pc = .ok (.iastore, 1)) (hp : pc + 1 = pc') (hv : own_set vs j x = vs')
    (k : ∀ T' h', Stand p l e R s m args below meth c T' (locs ++ [⟨a, j.toNatClampNeg⟩]) cells slots → T'.heap = h' → Wr h h' a j.toNatClampNeg (.int x) → own_AI Z h' a .int vs' → own_Go p e below Q T' (mkF m pc' Ls rest)) : own_Go p e below Q T (mkF m pc Ls (.int x :: .int j :: .ref a :: rest)) := by
  subst hp hv
  obtain ⟨cl, A', qs⟩ := id A
  obtain ⟨T', h', X', e', W, st⟩ := stI X hx hZ eT A' (own_inA hj (own_szI qs)) (g := mkF m pc Ls (.int x :: .int j :: .ref a :: rest)) rfl rfl hd
  exact own_go st (k T' h' X' e' W (A.put W))
theorem o_bastore (X : Stand p l e R s m args below meth c T locs cells slots) (hx : p.tables.exec = Jvm.exec) (hZ : Z.Warmed39 s.vm) (eT : T.heap = h) {a : Addr} {vs vs' : List Int32} {j : Int32} (A : own_AI Z h a .byte vs) (hj : own_in vs.length j) (hd : decode c.code pc = .ok (.bastore, 1)) (hp : pc + 1 = pc') (hv : own_set vs j (own_i2b x) = vs')
    (k : ∀ T' h', Stand p l e R s m args below meth c T' (locs ++ [⟨a, j.toNatClampNeg⟩]) cells slots → T'.heap = h' → Wr h h' a j.toNatClampNeg (.int (own_i2b x)) → own_AI Z h' a .byte vs' → own_Go p e below Q T' (mkF m pc' Ls rest)) : own_Go p e below Q T (mkF m pc Ls (.int x :: .int j :: .ref a :: rest)) := by
  subst hp hv
  obtain ⟨cl, A', qs⟩ := id A
  obtain ⟨T', h', X', e', W, st⟩ := stB X hx hZ eT A' (own_inA hj (own_szI qs)) (g := mkF m pc Ls (.int x :: .int j :: .ref a :: rest)) rfl rfl hd
  exact own_go st (k T' h' X' e' W (A.put W))
theorem o_lastore (X : Stand p l e R s m args below meth c T locs cells slots) (hx : p.tables.exec = Jvm.exec) (hZ : Z.Warmed39 s.vm) (eT : T.heap = h) {a : Addr} {vs vs' : List Int64} {j : Int32} (A : own_AJ Z h a vs) (hj : own_in vs.length j) (hd : decode c.code pc = .ok (.lastore, 1)) (hp : pc + 1 = pc') (hv : own_setL vs j u = vs')
    (k : ∀ T' h', Stand p l e R s m args below meth c T' (locs ++ [⟨a, j.toNatClampNeg⟩]) cells slots → T'.heap = h' → Wr h h' a j.toNatClampNeg (.long u) → own_AJ Z h' a vs' → own_Go p e below Q T' (mkF m pc' Ls rest)) : own_Go p e below Q T (mkF m pc Ls (.long u :: .int j :: .ref a :: rest)) := by
  subst hp hv
  obtain ⟨cl, A', qs⟩ := id A
  obtain ⟨T', h', X', e', W, st⟩ := stJ X hx hZ eT A' (own_inA hj (own_szJ qs)) (g := mkF m pc Ls (.long u :: .int j :: .ref a :: rest)) rfl rfl hd
  exact own_go st (k T' h' X' e' W (A.put W))
theorem own_sz (X : Stand p l e R s m args below meth c T locs cells slots) (eT : T.heap = h) : s.heap.size ≤ h.size := by
  have q := X.same.2.1
  rw [← eT]; exact q
/-- the place written lies in a cell made since the start: it needn't be told -/
theorem own_drop {a : Addr} {j : Nat} (X : Stand p l e R s m args below meth c T (locs ++ [⟨a, j⟩]) cells slots) (ha : s.heap.size ≤ a) : Stand p l e R s m args below meth c T locs cells slots := X.forget fun y hy => by cases List.mem_singleton.mp hy; exact ha
theorem own_dropL {L : List Loc} {k : Nat} (X : Stand p l e R s m args below meth c T (locs ++ L) cells slots) (ha : s.heap.size ≤ k) (hL : ∀ y ∈ L, k ≤ y.base) : Stand p l e R s m args below meth c T locs cells slots := X.forget fun y hy => Nat.le_trans ha (hL y hy)
/-- newarray -/
theorem o_newI (X : Stand p l e R s m args below meth c T locs cells slots) (hx : p.tables.exec = Jvm.exec) (hZ : Z.Warmed39 s.vm) (eT : T.heap = h) {aty : ArrayType} {ty : FieldType} (w1 : (Cond.arrayClass ty).before a0 Z = true) (hty : newarray.typeOf aty = ty) (hdv : defaultValue ty = .int 0) (hd : decode c.code pc = .ok (.newarray aty, 2)) (hp : pc + 2 = pc') (hn : ¬ x < 0) {cap : Nat} (hcap : x.toNatClampNeg ≤ cap) (hb : cap * 8 ≤ 536870912) (hc : cells + 1 ≤ R.cells) (hs : slots + cap ≤ R.slots) {vs : List Int32} (hv : List.replicate x.toNatClampNeg 0 = vs)
    (k : ∀ T' h' a, Stand p l e R s m args below meth c T' locs (cells + 1) (slots + cap) → T'.heap = h' → h.size = a → Ext h h' → own_AI Z h' a ty vs → own_Go p e below Q T' (mkF m pc' Ls (.ref a :: rest))) : own_Go p e below Q T (mkF m pc Ls (.int x :: rest)) := by
  subst hp hv hty
  obtain ⟨T', h', cA, X', e', E, A, st⟩ := newP X hx hZ w1 eT (g := mkF m pc Ls (.int x :: rest)) rfl hd rfl hn hcap hb hc hs
  exact own_go st (k T' h' _ X' e' rfl E ⟨_, A, by simp [newA, hdv]⟩)
theorem o_newJ (X : Stand p l e R s m args below meth c T locs cells slots) (hx : p.tables.exec = Jvm.exec) (hZ : Z.Warmed39 s.vm) (eT : T.heap = h) (w1 : (Cond.arrayClass .long).before a0 Z = true) (hd : decode c.code pc = .ok (.newarray .long, 2)) (hp : pc + 2 = pc') (hn : ¬ x < 0) {cap : Nat} (hcap : x.toNatClampNeg ≤ cap) (hb : cap * 8 ≤ 536870912) (hc : cells + 1 ≤ R.cells) (hs : slots + cap ≤ R.slots) {vs : List Int64} (hv : List.replicate x.toNatClampNeg 0 = vs)
    (k : ∀ T' h' a, Stand p l e R s m args below meth c T' locs (cells + 1) (slots + cap) → T'.heap = h' → h.size = a → Ext h h' → own_AJ Z h' a vs → own_Go p e below Q T' (mkF m pc' Ls (.ref a :: rest))) : own_Go p e below Q T (mkF m pc Ls (.int x :: rest)) := by
  subst hp hv
  obtain ⟨T', h', cA, X', e', E, A, st⟩ := newP X hx hZ (aty := .long) w1 eT (g := mkF m pc Ls (.int x :: rest)) rfl hd rfl hn hcap hb hc hs
  exact own_go st (k T' h' _ X' e' rfl E ⟨_, A, by simp [newA, show defaultValue (newarray.typeOf .long) = Value.long 0 from rfl]⟩)
/-- a static call by the callee's contract -/
theorem o_callS (X : Stand p l e R s m args below meth c T locs cells slots) (hx : p.tables.exec = Jvm.exec) (hZ : Z.Warmed39 s.vm) (eT : T.heap = h) {own : String} {index : Nat} {y : MethodName} {bytes : ByteArray} {maxL : Nat} {ret : Option FieldType} {rm : Room} {W : Nat} (hown : s.vm.findClass own = some m.cls)
    (w1 : (Cond.methodLink own index y).before a0 Z = true) (w2 : (Cond.static y).before a0 Z = true) (w3 : (Cond.initialized y.cls).before a0 Z = true) (w4 : (Cond.code y bytes maxL ret).before a0 Z = true) (hy : y.cls ≠ "java/lang/invoke/MethodHandle" ∧ y.cls ≠ "java/lang/invoke/VarHandle") {as' : Array Value} {K : Option Value → Heap → List Loc → Prop}
    (hM : MetFree l y (head1 [Cond.code y bytes maxL ret] rm) (fun a U => a = as' ∧ Z.Warmed39 U.vm ∧ U.heap = h) (fun _ _ _ _ _ => True) (fun _ U o U' => ∃ v L, o = .returned v ∧ K v U'.heap L ∧ FrameEnd U o U' L rm.cells rm.slots))
    (hf : rm.frames + 1 ≤ R.frames) (hl : W + (maxL + 11) + rm.locals ≤ R.locals) (hml : Ls.size = c.maxLocals) {argsL st : List Value} {sig : MethodDescriptor} (hpd : parseMethodDescriptor y.desc = some sig) (hlen : argsL.length = sig.parameters.length) (hst : st = argsL.reverse ++ rest) (has : argsL.toArray = as') (hW : (rest.map fun v => v.category).sum = W)
    (hd : decode c.code pc = .ok (.invokestatic index, 3)) (hp : pc + 3 = pc') (hc : cells + rm.cells ≤ R.cells) (hs : slots + rm.slots ≤ R.slots)
    (k : ∀ v T' L, Stand p l e R s m args below meth c T' (locs ++ L) (cells + rm.cells) (slots + rm.slots) → K v T'.heap L → own_Go p e below Q T' (mkF m pc' Ls (v.toList ++ rest))) : own_Go p e below Q T (mkF m pc Ls st) := by
  subst hp hst has
  obtain ⟨v, _, ⟨T1, L1, k1, n1⟩, -, X1, ⟨Lc, hQ, l1, y1, z1⟩, st1⟩ := Jvm.LawKit.callS X hx hown (mvT hZ w1) (mvT hZ w2) (mvT hZ w3) (mvT hZ w4) hy (backOf (W := W) hM hZ w4 w3 hf hl) (g := mkF m pc Ls (argsL.reverse ++ rest)) rfl hml (argsL := argsL) (rest := rest) (fun sg hsg => by cases hpd.symm.trans hsg; exact hlen) rfl (by show 2 * 0 + _ ≤ _; rw [hW]; omega) hd (fun _ _ => ⟨rfl, eT, hc, hs⟩)
  dsimp only [Pt.U, Pt.locs, Pt.cells, Pt.slots] at X1 l1 y1 z1 st1 hQ
  subst l1 y1 z1
  exact own_go st1 (k v T1 Lc X1 hQ)
/-- a body that writes nothing: what it returns, the heap as it was -/
def own_KP (V : Option Value) (h0 : Heap) : Option Value → Heap → List Loc → Prop := fun v h L => v = V ∧ h = h0 ∧ L = []
/-- a law: what it returns; nothing old is written -/
def own_KL (V : Option Value) : Option Value → Heap → List Loc → Prop := fun v _ L => v = V ∧ L = []
theorem o_callP (X : Stand p l e R s m args below meth c T locs cells slots) (hx : p.tables.exec = Jvm.exec) (hZ : Z.Warmed39 s.vm) (eT : T.heap = h) {own : String} {index : Nat} {y : MethodName} {bytes : ByteArray} {maxL : Nat} {ret : Option FieldType} {rm : Room} {W : Nat} (hown : s.vm.findClass own = some m.cls)
    (w1 : (Cond.methodLink own index y).before a0 Z = true) (w2 : (Cond.static y).before a0 Z = true) (w3 : (Cond.initialized y.cls).before a0 Z = true) (w4 : (Cond.code y bytes maxL ret).before a0 Z = true) (hy : y.cls ≠ "java/lang/invoke/MethodHandle" ∧ y.cls ≠ "java/lang/invoke/VarHandle") {as' : Array Value} {V : Option Value}
    (hM : MetFree l y (head1 [Cond.code y bytes maxL ret] rm) (fun a U => a = as' ∧ Z.Warmed39 U.vm ∧ U.heap = h) (fun _ _ _ _ _ => True) (fun _ U o U' => ∃ v L, o = .returned v ∧ own_KP V h v U'.heap L ∧ FrameEnd U o U' L rm.cells rm.slots))
    (hf : rm.frames + 1 ≤ R.frames) (hl : W + (maxL + 11) + rm.locals ≤ R.locals) (hml : Ls.size = c.maxLocals) {argsL st : List Value} {sig : MethodDescriptor} (hpd : parseMethodDescriptor y.desc = some sig) (hlen : argsL.length = sig.parameters.length) (hst : st = argsL.reverse ++ rest) (has : argsL.toArray = as') (hW : (rest.map fun v => v.category).sum = W)
    (hd : decode c.code pc = .ok (.invokestatic index, 3)) (hp : pc + 3 = pc') (hc0 : rm.cells = 0) (hs0 : rm.slots = 0) (hc : cells + rm.cells ≤ R.cells) (hs : slots + rm.slots ≤ R.slots)
    {st' : List Value} (hst' : V.toList ++ rest = st')
    (k : ∀ T', Stand p l e R s m args below meth c T' locs cells slots → T'.heap = h → own_Go p e below Q T' (mkF m pc' Ls st')) : own_Go p e below Q T (mkF m pc Ls st) := by
  subst hst'
  refine o_callS X hx hZ eT hown w1 w2 w3 w4 hy hM hf hl hml hpd hlen hst has hW hd hp hc hs fun v T' L X' hK => ?_
  obtain ⟨rfl, e', rfl⟩ := hK
  rw [hc0, hs0, List.append_nil] at X'
  exact k T' X' e'
theorem own_snoc {a : Addr} {L : List Loc} {j : Nat} (N : ∀ y ∈ L, y.base = a) : ∀ y ∈ L ++ [⟨a, j⟩], y.base = a := fun y hy => (List.mem_append.mp hy).elim (N y) fun q => by cases List.mem_singleton.mp q; rfl
theorem own_nil (X : Stand p l e R s m args below meth c T (locs ++ []) cells slots) : Stand p l e R s m args below meth c T locs cells slots := by rw [List.append_nil] at X; exact X
/-- a body that writes into the array a alone -/
def own_KW (Z : State) (a : Addr) (ty : FieldType) (vs : List Int32) (h0 : Heap) : Option Value → Heap → List Loc → Prop := fun v h L => v = none ∧ (∀ y ∈ L, y.base = a) ∧ Keep h0 h [a] ∧ own_AI Z h a ty vs
def own_KWJ (Z : State) (a : Addr) (vs : List Int64) (h0 : Heap) : Option Value → Heap → List Loc → Prop := fun v h L => v = none ∧ (∀ y ∈ L, y.base = a) ∧ Keep h0 h [a] ∧ own_AJ Z h a vs
/-- a body that makes an array and hands it back -/
def own_KM (Z : State) (ty : FieldType) (vs : List Int32) (h0 : Heap) : Option Value → Heap → List Loc → Prop := fun v h L => ∃ b, v = some (.ref b) ∧ L = [] ∧ Keep h0 h [] ∧ h0.size ≤ b ∧ own_AI Z h b ty vs
/-- a store over a local that held nothing or one word -/
theorem o_istoreNS (X : Stand p l e R s m args below meth c T locs cells slots) (hx : p.tables.exec = Jvm.exec) {k : Fin 4} {o : Slot} (hd : decode c.code pc = .ok (.istore_n k, 1)) (hold : Ls[k.val]? = some o) (ho : One o) (hl : Ls.setIfInBounds k.val (.val (.int x)) = l') (hp : pc + 1 = pc') (q : own_Go p e below Q T (mkF m pc' l' rest)) : own_Go p e below Q T (mkF m pc Ls (.int x :: rest)) := by
  subst hp hl; exact own_go (fun t k' => XS.istoreNS X.here hx rfl hd rfl hold ho k') q
theorem o_istoreS (X : Stand p l e R s m args below meth c T locs cells slots) (hx : p.tables.exec = Jvm.exec) {k : Nat} {o : Slot} (hd : decode c.code pc = .ok (.istore k, 2)) (hold : Ls[k]? = some o) (ho : One o) (hl : Ls.setIfInBounds k (.val (.int x)) = l') (hp : pc + 2 = pc') (q : own_Go p e below Q T (mkF m pc' l' rest)) : own_Go p e below Q T (mkF m pc Ls (.int x :: rest)) := by
  subst hp hl; exact own_go (fun t k' => XS.istoreS X.here hx rfl hd rfl hold ho k') q
theorem o_astoreS (X : Stand p l e R s m args below meth c T locs cells slots) (hx : p.tables.exec = Jvm.exec) {k : Nat} {o : Slot} {v : Value} (hd : decode c.code pc = .ok (.astore k, 2)) (hv : v.isRef = true) (hcat : v.category = 1) (hold : Ls[k]? = some o) (ho : One o) (hl : Ls.setIfInBounds k (.val v) = l') (hp : pc + 2 = pc') (q : own_Go p e below Q T (mkF m pc' l' rest)) : own_Go p e below Q T (mkF m pc Ls (v :: rest)) := by
  subst hp hl; exact own_go (fun t k' => XS.astoreS X.here hx rfl hd rfl hv hcat hold ho k') q
end OwnKit
/-! own facts on numbers (with kit/NumsL) -/
theorem own_tmod (x y : Int32) : (own_rem x y).toInt = x.toInt.tmod y.toInt := by
  have a := (x % y).toInt_lt; have b := (x % y).le_toInt
  rw [Int32.toInt_mod] at a b
  show (x - (x / y) * y).toInt = _
  rw [Int32.toInt_sub, Int32.toInt_mul, Int32.toInt_div, Int.bmod_mul_bmod, Int.sub_bmod_bmod, Int.mul_comm, ← Int.tmod_def]
  exact Jvm.Kit.bmod32 b a
theorem own_emod {x y : Int32} (hx : 0 ≤ x.toInt) : (own_rem x y).toInt = x.toInt % y.toInt := by rw [own_tmod, Int.tmod_eq_emod_of_nonneg hx]
theorem own_lemod {u w : Int64} (hx : 0 ≤ u.toInt) : (own_lrem u w).toInt = u.toInt % w.toInt := Jvm.Kit.i64_rem_nonneg hx
theorem own_max (x : Int32) : (x &&& 2147483647).toInt = x.toInt % 2 ^ 31 := Jvm.Kit.i32_mask x 2147483647 (by decide) (by decide)
/-- x >>> k, k a number from 1 to 31, as a division of the number without sign -/
theorem own_ushr_toNat (x y : Int32) {k : Nat} (hk : (y &&& 31).toUInt32.toNat = k) (h1 : k < 32) : (own_ushr x y).toBitVec.toNat = x.toBitVec.toNat / 2 ^ k := by
  show ((x.toUInt32 >>> (y &&& 31).toUInt32).toInt32).toBitVec.toNat = _
  rw [UInt32.toBitVec_toInt32, UInt32.toBitVec_shiftRight]
  have e : ((y &&& 31).toUInt32.toBitVec % 32).toNat = k := by
    have e0 : (y &&& 31).toUInt32.toBitVec.toNat = k := hk
    rw [BitVec.toNat_umod, e0]
    exact Nat.mod_eq_of_lt h1
  show (x.toBitVec >>> ((y &&& 31).toUInt32.toBitVec % 32).toNat).toNat = _
  rw [e, BitVec.toNat_ushiftRight, Nat.shiftRight_eq_div_pow]
theorem own_ushr_toInt (x y : Int32) {k : Nat} (hk : (y &&& 31).toUInt32.toNat = k) (h0 : 0 < k) (h1 : k < 32) : (own_ushr x y).toInt = (x.toBitVec.toNat / 2 ^ k : Nat) := by
  have h := own_ushr_toNat x y hk h1
  have hb := x.toBitVec.isLt
  have h2 : x.toBitVec.toNat / 2 ^ k ≤ x.toBitVec.toNat / 2 ^ 1 := Nat.div_le_div_left (Nat.pow_le_pow_right (by decide) h0) (by decide)
  have e : (own_ushr x y).toInt = (own_ushr x y).toBitVec.toInt := rfl
  rw [e, BitVec.toInt_eq_toNat_cond, h, if_pos (by omega)]
theorem own_in_of {n : Nat} {j : Int32} (h0 : 0 ≤ j.toInt) (h1 : j.toInt < n) : own_in n j := by
  refine ⟨fun q => ?_, ?_⟩
  · rw [Int32.lt_iff_toInt_lt] at q
    have : (0 : Int32).toInt = 0 := rfl
    omega
  · rw [Int32.toNatClampNeg]; omega
theorem own_lt {x y : Int32} : x < y ↔ x.toInt < y.toInt := Int32.lt_iff_toInt_lt
theorem own_eq {x y : Int32} : x = y ↔ x.toInt = y.toInt := Int32.toInt_inj.symm
theorem own_ltL {x y : Int64} : x < y ↔ x.toInt < y.toInt := Int64.lt_iff_toInt_lt
theorem own_eqL {x y : Int64} : x = y ↔ x.toInt = y.toInt := Int64.toInt_inj.symm
theorem own_nat_toInt {k : Nat} (h : k < 2 ^ 31) : (Int32.ofNat k).toInt = k := Int32.toInt_ofNat_of_lt (by omega)
theorem own_nat_lt {i n : Nat} (hi : i < 2 ^ 31) (hn : n < 2 ^ 31) : Int32.ofNat i < Int32.ofNat n ↔ i < n := by
  rw [own_lt, own_nat_toInt hi, own_nat_toInt hn]; omega
theorem own_nat_one (i : Nat) : Int32.ofNat i + (1 : Int32) = Int32.ofNat (i + 1) := (Int32.ofNat_add i 1).symm
theorem own_nat_clamp {k : Nat} (h : k < 2 ^ 31) : (Int32.ofNat k).toNatClampNeg = k := by
  rw [Int32.toNatClampNeg, own_nat_toInt h]; rfl
theorem own_nat_get (v : List Int32) {k : Nat} (h : k < 2 ^ 31) : own_get v (Int32.ofNat k) = v.getD k 0 := by rw [own_get, own_nat_clamp h]
theorem own_nat_in {n k : Nat} (h : k < n) (hk : k < 2 ^ 31) : own_in n (Int32.ofNat k) := own_in_of (by rw [own_nat_toInt hk]; omega) (by rw [own_nat_toInt hk]; omega)
theorem own_nat_of {x : Int32} (h : 0 ≤ x.toInt) : ∃ k : Nat, x = Int32.ofNat k ∧ (k : Int) = x.toInt ∧ k < 2 ^ 31 := by
  have u := x.toInt_lt
  refine ⟨x.toInt.toNat, ?_, by omega, by omega⟩
  rw [own_eq, own_nat_toInt (by omega)]; omega
theorem own_nat_sub {a b : Nat} (ha : a < 2 ^ 31) (h : b ≤ a) : Int32.ofNat a - Int32.ofNat b = Int32.ofNat (a - b) := by
  have e1 := own_nat_toInt ha
  have e2 := own_nat_toInt (k := b) (by omega)
  have e3 := own_nat_toInt (k := a - b) (by omega)
  rw [own_eq, Jvm.Kit.i32_sub (by omega) (by omega)]
  omega
theorem own_i2b2 (x : Int32) : own_i2b (own_i2b x) = own_i2b x := by
  show (x.toInt8.toInt32).toInt8.toInt32 = x.toInt8.toInt32
  rw [Int8.toInt8_toInt32]
/-- a hash: 31 * h + the next, count times from place i on -/
def own_h (v : List Int32) : Int32 → Nat → Nat → Int32
  | h, _, 0 => h
  | h, i, c + 1 => own_h v (31 * h + v.getD i 0) (i + 1) c
def own_p : Nat → Int32
  | 0 => 1
  | n + 1 => 31 * own_p n
def own_sum (v : List Int32) : Nat → Nat → Int32
  | _, 0 => 0
  | i, c + 1 => v.getD i 0 * own_p c + own_sum v (i + 1) c
theorem own_h_eq (v : List Int32) : ∀ (c : Nat) (h : Int32) (i : Nat), own_h v h i c = h * own_p c + own_sum v i c := by
  intro c
  induction c with
  | zero => intro h i; simp only [own_h, own_p, own_sum, Int32.mul_one, Int32.add_zero]
  | succ c ih =>
    intro h i
    rw [own_h, ih, own_p, own_sum, Int32.add_mul, Int32.mul_comm 31 h, Int32.mul_assoc, Int32.add_assoc]
theorem own_toNat (x : Int32) : (x.toBitVec.toNat : Int) = x.toInt % 2 ^ 32 := by
  have e : x.toInt = x.toBitVec.toInt := rfl
  have h := x.toBitVec.isLt
  rw [e, BitVec.toInt_eq_toNat_cond]
  split <;> omega
theorem pd_0 : parseMethodDescriptor "(I)I" = some ⟨[.int], some .int⟩ := by decide +kernel
theorem pd_1 : parseMethodDescriptor "(JI)B" = some ⟨[.long, .int], some .byte⟩ := by decide +kernel
theorem pd_2 : parseMethodDescriptor "([BII)I" = some ⟨[(.array .byte), .int, .int], some .int⟩ := by decide +kernel
theorem pd_3 : parseMethodDescriptor "([BIII)I" = some ⟨[(.array .byte), .int, .int, .int], some .int⟩ := by decide +kernel
theorem d1_0 : decode method_3_code 0 = .ok (.lload_n 0, 1) := by decide +kernel
theorem d1_1 : decode method_3_code 1 = .ok (.bipush 56, 2) := by decide +kernel
theorem d1_3 : decode method_3_code 3 = .ok (.bipush 8, 2) := by decide +kernel
theorem d1_5 : decode method_3_code 5 = .ok (.iload_n 2, 1) := by decide +kernel
theorem d1_6 : decode method_3_code 6 = .ok (.imul, 1) := by decide +kernel
theorem d1_7 : decode method_3_code 7 = .ok (.isub, 1) := by decide +kernel
theorem d1_8 : decode method_3_code 8 = .ok (.lushr, 1) := by decide +kernel
theorem d1_9 : decode method_3_code 9 = .ok (.l2i, 1) := by decide +kernel
theorem d1_10 : decode method_3_code 10 = .ok (.i2b, 1) := by decide +kernel
theorem d1_11 : decode method_3_code 11 = .ok (.ireturn, 1) := by decide +kernel
section Body1
variable {p : Program} {l : Launch} {e : Env} {s : State} {m : MethodId} {args : Array Value} {below : List Frame} {meth : Method} {c : Code} {Z : State} {ag : Array Value} {K : Option Value → Heap → List Loc → Prop}
abbrev R1 : Room := { frames := 0, cells := 0, slots := 0, locals := 0 }
abbrev cc1 : Nat := 0
abbrev ss1 : Nat := 0
def f1_0 (q0 : Int64) (p1 : Int32) : Int32 := (own_i2b (own_i2b ((own_lushr q0 ((56 : Int32) - ((8 : Int32) * p1))).toInt32)))
set_option maxRecDepth 65536 in
set_option maxHeartbeats 40000000 in
theorem b1_0 (C : own_Cx p s m meth c Z ag method_3_code 3 "com/example/plumbline/plumbline/core/TextKeysSlotPinLaw" (some .byte) "at") {T : State} {h : Heap} (q0 : Int64) (p1 : Int32) (X : Stand p l e R1 s m args below meth c T [] 0 0) (eT : T.heap = h) (hK : K (some (.int (f1_0 q0 p1))) h []) : own_Go p e below (own_Q s K cc1 ss1) T (mkF m 0 #[.val (.long q0), .second, .val (.int p1)] []) := by
  obtain ⟨hx, hZ, hw, hby, hml, hown, hret, hlk, hnm⟩ := id C
  unfold f1_0 at hK
  refine o_lloadN (pc' := 1) X hx (hb hby d1_0) rfl rfl ?_
  refine o_bipush (pc' := 3) (x := (56 : Int32)) X hx (hb hby d1_1) (by decide) rfl ?_
  refine o_bipush (pc' := 5) (x := (8 : Int32)) X hx (hb hby d1_3) (by decide) rfl ?_
  refine o_iloadN (pc' := 6) X hx (hb hby d1_5) rfl rfl ?_
  refine o_imul (pc' := 7)  X hx (hb hby d1_6) rfl rfl ?_
  refine o_isub (pc' := 8)  X hx (hb hby d1_7) rfl rfl ?_
  refine o_lushr (pc' := 9)  X hx (hb hby d1_8) rfl rfl ?_
  refine o_l2i (pc' := 10)  X hx (hb hby d1_9) rfl rfl ?_
  refine o_i2b (pc' := 11)  X hx (hb hby d1_10) rfl rfl ?_
  exact o_retN X hx (t := .byte) hret (by simp) hlk (hb hby d1_11) (by decide) (by decide) eT (hK)

end Body1
theorem pn_TextKeysSlotPinLaw : plainName "com/example/plumbline/plumbline/core/TextKeysSlotPinLaw" = true := by first | (simp [plainName, overriddenIn]; done) | decide +kernel
theorem ef_1 (m : MethodId) (q0 : Int64) (p1 : Int32) : entryFrame m #[(.long q0), (.int p1)] 3 = mkF m 0 #[.val (.long q0), .second, .val (.int p1)] [] := by first | (simp [entryFrame, mkF, argsToLocals, Value.category]; done) | rfl
set_option maxRecDepth 65536 in
set_option maxHeartbeats 40000000 in
theorem rm1 (l : Launch) (Z : State) (ag : Array Value) (hw : ∀ d ∈ tables_1, d.before ag Z = true) (ws : List Jvm.Cond) (q0 : Int64) (p1 : Int32) (h0 : Heap) :
    MetFree l (⟨"com/example/plumbline/plumbline/core/TextKeysSlotPinLaw", "at", "(JI)B"⟩ : MethodName) (head1 (Jvm.Cond.code (⟨"com/example/plumbline/plumbline/core/TextKeysSlotPinLaw", "at", "(JI)B"⟩ : MethodName) method_3_code 3 (some .byte) :: ws) R1) (fun a U => a = #[(.long q0), (.int p1)] ∧ Z.Warmed39 U.vm ∧ U.heap = h0) (fun _ _ _ _ _ => True) (fun _ U o U' => ∃ v L, o = .returned v ∧ own_KP (some (.int (f1_0 q0 p1))) h0 v U'.heap L ∧ FrameEnd U o U' L R1.cells R1.slots) := by
  refine MetFree.of_bodySF (plainFor_of_name pn_TextKeysSlotPinLaw) hisR ?_
  intro p e s m args below meth c s₁ Bd hml0 hP hK
  obtain ⟨rfl, hZ, hh⟩ := hP
  have C : own_Cx p s m meth c Z ag method_3_code 3 "com/example/plumbline/plumbline/core/TextKeysSlotPinLaw" (some .byte) "at" := ⟨Bd.exec, hZ, hw, Bd.bytes, hml0, findClass_of_methodNamed Bd.named, Bd.returns, Bd.notSynchronized, (name_of_methodNamed Bd.named Bd.method).1⟩
  have X0 : Stand p l e R1 s m #[(.long q0), (.int p1)] below meth c s₁ [] 0 0 := Stand.of_body Bd
  have e0 : s₁.heap = h0 := by rw [← hh, Bd.state]; rfl
  rw [ef_1]
  exact b1_0 (K := own_KP (some (.int (f1_0 q0 p1))) h0) C q0 p1 X0 e0 ⟨rfl, rfl, rfl⟩

theorem d4_0 : decode method_5_code 0 = .ok (.bipush 31, 2) := by decide +kernel
theorem d4_2 : decode method_5_code 2 = .ok (.istore_n 1, 1) := by decide +kernel
theorem d4_3 : decode method_5_code 3 = .ok (.iload_n 1, 1) := by decide +kernel
theorem d4_4 : decode method_5_code 4 = .ok (.iload_n 1, 1) := by decide +kernel
theorem d4_5 : decode method_5_code 5 = .ok (.imul, 1) := by decide +kernel
theorem d4_6 : decode method_5_code 6 = .ok (.istore_n 2, 1) := by decide +kernel
theorem d4_7 : decode method_5_code 7 = .ok (.iload_n 2, 1) := by decide +kernel
theorem d4_8 : decode method_5_code 8 = .ok (.iload_n 2, 1) := by decide +kernel
theorem d4_9 : decode method_5_code 9 = .ok (.imul, 1) := by decide +kernel
theorem d4_10 : decode method_5_code 10 = .ok (.istore_n 3, 1) := by decide +kernel
theorem d4_11 : decode method_5_code 11 = .ok (.iload_n 3, 1) := by decide +kernel
theorem d4_12 : decode method_5_code 12 = .ok (.iload_n 3, 1) := by decide +kernel
theorem d4_13 : decode method_5_code 13 = .ok (.imul, 1) := by decide +kernel
theorem d4_14 : decode method_5_code 14 = .ok (.istore 4, 2) := by decide +kernel
theorem d4_16 : decode method_5_code 16 = .ok (.iload 4, 2) := by decide +kernel
theorem d4_18 : decode method_5_code 18 = .ok (.iload 4, 2) := by decide +kernel
theorem d4_20 : decode method_5_code 20 = .ok (.imul, 1) := by decide +kernel
theorem d4_21 : decode method_5_code 21 = .ok (.istore 5, 2) := by decide +kernel
theorem d4_23 : decode method_5_code 23 = .ok (.iconst 1, 1) := by decide +kernel
theorem d4_24 : decode method_5_code 24 = .ok (.istore 6, 2) := by decide +kernel
theorem d4_26 : decode method_5_code 26 = .ok (.iload_n 0, 1) := by decide +kernel
theorem d4_27 : decode method_5_code 27 = .ok (.iconst 1, 1) := by decide +kernel
theorem d4_28 : decode method_5_code 28 = .ok (.iand, 1) := by decide +kernel
theorem d4_29 : decode method_5_code 29 = .ok (.ifCond .eq 9, 3) := by decide +kernel
theorem d4_32 : decode method_5_code 32 = .ok (.iload 6, 2) := by decide +kernel
theorem d4_34 : decode method_5_code 34 = .ok (.iload_n 1, 1) := by decide +kernel
theorem d4_35 : decode method_5_code 35 = .ok (.imul, 1) := by decide +kernel
theorem d4_36 : decode method_5_code 36 = .ok (.istore 6, 2) := by decide +kernel
theorem d4_38 : decode method_5_code 38 = .ok (.iload_n 0, 1) := by decide +kernel
theorem d4_39 : decode method_5_code 39 = .ok (.iconst 2, 1) := by decide +kernel
theorem d4_40 : decode method_5_code 40 = .ok (.iand, 1) := by decide +kernel
theorem d4_41 : decode method_5_code 41 = .ok (.ifCond .eq 9, 3) := by decide +kernel
theorem d4_44 : decode method_5_code 44 = .ok (.iload 6, 2) := by decide +kernel
theorem d4_46 : decode method_5_code 46 = .ok (.iload_n 2, 1) := by decide +kernel
theorem d4_47 : decode method_5_code 47 = .ok (.imul, 1) := by decide +kernel
theorem d4_48 : decode method_5_code 48 = .ok (.istore 6, 2) := by decide +kernel
theorem d4_50 : decode method_5_code 50 = .ok (.iload_n 0, 1) := by decide +kernel
theorem d4_51 : decode method_5_code 51 = .ok (.iconst 4, 1) := by decide +kernel
theorem d4_52 : decode method_5_code 52 = .ok (.iand, 1) := by decide +kernel
theorem d4_53 : decode method_5_code 53 = .ok (.ifCond .eq 9, 3) := by decide +kernel
theorem d4_56 : decode method_5_code 56 = .ok (.iload 6, 2) := by decide +kernel
theorem d4_58 : decode method_5_code 58 = .ok (.iload_n 3, 1) := by decide +kernel
theorem d4_59 : decode method_5_code 59 = .ok (.imul, 1) := by decide +kernel
theorem d4_60 : decode method_5_code 60 = .ok (.istore 6, 2) := by decide +kernel
theorem d4_62 : decode method_5_code 62 = .ok (.iload_n 0, 1) := by decide +kernel
theorem d4_63 : decode method_5_code 63 = .ok (.bipush 8, 2) := by decide +kernel
theorem d4_65 : decode method_5_code 65 = .ok (.iand, 1) := by decide +kernel
theorem d4_66 : decode method_5_code 66 = .ok (.ifCond .eq 10, 3) := by decide +kernel
theorem d4_69 : decode method_5_code 69 = .ok (.iload 6, 2) := by decide +kernel
theorem d4_71 : decode method_5_code 71 = .ok (.iload 4, 2) := by decide +kernel
theorem d4_73 : decode method_5_code 73 = .ok (.imul, 1) := by decide +kernel
theorem d4_74 : decode method_5_code 74 = .ok (.istore 6, 2) := by decide +kernel
theorem d4_76 : decode method_5_code 76 = .ok (.iload_n 0, 1) := by decide +kernel
theorem d4_77 : decode method_5_code 77 = .ok (.bipush 16, 2) := by decide +kernel
theorem d4_79 : decode method_5_code 79 = .ok (.iand, 1) := by decide +kernel
theorem d4_80 : decode method_5_code 80 = .ok (.ifCond .eq 10, 3) := by decide +kernel
theorem d4_83 : decode method_5_code 83 = .ok (.iload 6, 2) := by decide +kernel
theorem d4_85 : decode method_5_code 85 = .ok (.iload 5, 2) := by decide +kernel
theorem d4_87 : decode method_5_code 87 = .ok (.imul, 1) := by decide +kernel
theorem d4_88 : decode method_5_code 88 = .ok (.istore 6, 2) := by decide +kernel
theorem d4_90 : decode method_5_code 90 = .ok (.iload 6, 2) := by decide +kernel
theorem d4_92 : decode method_5_code 92 = .ok (.ireturn, 1) := by decide +kernel
section Body4
variable {p : Program} {l : Launch} {e : Env} {s : State} {m : MethodId} {args : Array Value} {below : List Frame} {meth : Method} {c : Code} {Z : State} {ag : Array Value} {K : Option Value → Heap → List Loc → Prop}
abbrev R4 : Room := { frames := 0, cells := 0, slots := 0, locals := 0 }
abbrev cc4 : Nat := 0
abbrev ss4 : Nat := 0
def f4_90 : Int32 := (1 : Int32)
set_option maxRecDepth 65536 in
set_option maxHeartbeats 40000000 in
theorem b4_90 (C : own_Cx p s m meth c Z ag method_5_code 7 "com/example/plumbline/plumbline/core/TextKeysSlotPinLaw" (some .int) "pow31") {T : State} {h : Heap} {z0 : Slot} {z1 : Slot} {z2 : Slot} {z3 : Slot} {z4 : Slot} {z5 : Slot} (X : Stand p l e R4 s m args below meth c T [] 0 0) (eT : T.heap = h) (hz0 : One z0) (hz1 : One z1) (hz2 : One z2) (hz3 : One z3) (hz4 : One z4) (hz5 : One z5) (hK : K (some (.int (f4_90))) h []) : own_Go p e below (own_Q s K cc4 ss4) T (mkF m 90 #[z0, z1, z2, z3, z4, z5, .val (.int (1 : Int32))] []) := by
  obtain ⟨hx, hZ, hw, hby, hml, hown, hret, hlk, hnm⟩ := id C
  unfold f4_90 at hK
  refine o_iload (pc' := 92) X hx (hb hby d4_90) rfl rfl ?_
  exact o_retI X hx hret hlk (hb hby d4_92) (by decide) (by decide) eT (hK)

def f4_90_6 : Int32 := (1353309697 : Int32)
set_option maxRecDepth 65536 in
set_option maxHeartbeats 40000000 in
theorem b4_90_6 (C : own_Cx p s m meth c Z ag method_5_code 7 "com/example/plumbline/plumbline/core/TextKeysSlotPinLaw" (some .int) "pow31") {T : State} {h : Heap} {z0 : Slot} {z1 : Slot} {z2 : Slot} {z3 : Slot} {z4 : Slot} {z5 : Slot} (X : Stand p l e R4 s m args below meth c T [] 0 0) (eT : T.heap = h) (hz0 : One z0) (hz1 : One z1) (hz2 : One z2) (hz3 : One z3) (hz4 : One z4) (hz5 : One z5) (hK : K (some (.int (f4_90_6))) h []) : own_Go p e below (own_Q s K cc4 ss4) T (mkF m 90 #[z0, z1, z2, z3, z4, z5, .val (.int (1353309697 : Int32))] []) := by
  obtain ⟨hx, hZ, hw, hby, hml, hown, hret, hlk, hnm⟩ := id C
  unfold f4_90_6 at hK
  refine o_iload (pc' := 92) X hx (hb hby d4_90) rfl rfl ?_
  exact o_retI X hx hret hlk (hb hby d4_92) (by decide) (by decide) eT (hK)

def f4_76 (x0 : Int32) : Int32 := (if (x0 &&& (16 : Int32)) = (0 : Int32) then f4_90 else f4_90_6)
set_option maxRecDepth 65536 in
set_option maxHeartbeats 40000000 in
theorem b4_76 (C : own_Cx p s m meth c Z ag method_5_code 7 "com/example/plumbline/plumbline/core/TextKeysSlotPinLaw" (some .int) "pow31") {T : State} {h : Heap} {z1 : Slot} {z2 : Slot} {z3 : Slot} {z4 : Slot} (x0 : Int32) (X : Stand p l e R4 s m args below meth c T [] 0 0) (eT : T.heap = h) (hz1 : One z1) (hz2 : One z2) (hz3 : One z3) (hz4 : One z4) (hK : K (some (.int (f4_76 x0))) h []) : own_Go p e below (own_Q s K cc4 ss4) T (mkF m 76 #[.val (.int x0), z1, z2, z3, z4, .val (.int (1353309697 : Int32)), .val (.int (1 : Int32))] []) := by
  obtain ⟨hx, hZ, hw, hby, hml, hown, hret, hlk, hnm⟩ := id C
  unfold f4_76 at hK
  refine o_iloadN (pc' := 77) X hx (hb hby d4_76) rfl rfl ?_
  refine o_bipush (pc' := 79) (x := (16 : Int32)) X hx (hb hby d4_77) (by decide) rfl ?_
  refine o_iand (pc' := 80)  X hx (hb hby d4_79) rfl rfl ?_
  refine o_ifP (P := (x0 &&& (16 : Int32)) = (0 : Int32)) (pc1 := 90) (pc2 := 83) X hx XT.i0_eq_t XT.i0_eq_f (hb hby d4_80) (by decide) (by decide) rfl (fun c5 => ?_) (fun c5 => ?_)
  · rw [if_pos c5] at hK
    exact b4_90 C X eT (One.val rfl) hz1 hz2 hz3 hz4 (One.val rfl) hK
  · rw [if_neg c5] at hK
    refine o_iload (pc' := 85) X hx (hb hby d4_83) rfl rfl ?_
    refine o_iload (pc' := 87) X hx (hb hby d4_85) rfl rfl ?_
    refine o_imul (pc' := 88) (z := (1353309697 : Int32)) X hx (hb hby d4_87) rfl (by decide) ?_
    refine o_istore (pc' := 90) (l' := #[.val (.int x0), z1, z2, z3, z4, .val (.int (1353309697 : Int32)), .val (.int (1353309697 : Int32))]) X hx (hb hby d4_88) rfl rfl ?_
    exact b4_90_6 C X eT (One.val rfl) hz1 hz2 hz3 hz4 (One.val rfl) hK

def f4_90_8 : Int32 := (-1807454463 : Int32)
set_option maxRecDepth 65536 in
set_option maxHeartbeats 40000000 in
theorem b4_90_8 (C : own_Cx p s m meth c Z ag method_5_code 7 "com/example/plumbline/plumbline/core/TextKeysSlotPinLaw" (some .int) "pow31") {T : State} {h : Heap} {z0 : Slot} {z1 : Slot} {z2 : Slot} {z3 : Slot} {z4 : Slot} {z5 : Slot} (X : Stand p l e R4 s m args below meth c T [] 0 0) (eT : T.heap = h) (hz0 : One z0) (hz1 : One z1) (hz2 : One z2) (hz3 : One z3) (hz4 : One z4) (hz5 : One z5) (hK : K (some (.int (f4_90_8))) h []) : own_Go p e below (own_Q s K cc4 ss4) T (mkF m 90 #[z0, z1, z2, z3, z4, z5, .val (.int (-1807454463 : Int32))] []) := by
  obtain ⟨hx, hZ, hw, hby, hml, hown, hret, hlk, hnm⟩ := id C
  unfold f4_90_8 at hK
  refine o_iload (pc' := 92) X hx (hb hby d4_90) rfl rfl ?_
  exact o_retI X hx hret hlk (hb hby d4_92) (by decide) (by decide) eT (hK)

def f4_90_9 : Int32 := (-2077209343 : Int32)
set_option maxRecDepth 65536 in
set_option maxHeartbeats 40000000 in
theorem b4_90_9 (C : own_Cx p s m meth c Z ag method_5_code 7 "com/example/plumbline/plumbline/core/TextKeysSlotPinLaw" (some .int) "pow31") {T : State} {h : Heap} {z0 : Slot} {z1 : Slot} {z2 : Slot} {z3 : Slot} {z4 : Slot} {z5 : Slot} (X : Stand p l e R4 s m args below meth c T [] 0 0) (eT : T.heap = h) (hz0 : One z0) (hz1 : One z1) (hz2 : One z2) (hz3 : One z3) (hz4 : One z4) (hz5 : One z5) (hK : K (some (.int (f4_90_9))) h []) : own_Go p e below (own_Q s K cc4 ss4) T (mkF m 90 #[z0, z1, z2, z3, z4, z5, .val (.int (-2077209343 : Int32))] []) := by
  obtain ⟨hx, hZ, hw, hby, hml, hown, hret, hlk, hnm⟩ := id C
  unfold f4_90_9 at hK
  refine o_iload (pc' := 92) X hx (hb hby d4_90) rfl rfl ?_
  exact o_retI X hx hret hlk (hb hby d4_92) (by decide) (by decide) eT (hK)

def f4_76_7 (x0 : Int32) : Int32 := (if (x0 &&& (16 : Int32)) = (0 : Int32) then f4_90_8 else f4_90_9)
set_option maxRecDepth 65536 in
set_option maxHeartbeats 40000000 in
theorem b4_76_7 (C : own_Cx p s m meth c Z ag method_5_code 7 "com/example/plumbline/plumbline/core/TextKeysSlotPinLaw" (some .int) "pow31") {T : State} {h : Heap} {z1 : Slot} {z2 : Slot} {z3 : Slot} {z4 : Slot} (x0 : Int32) (X : Stand p l e R4 s m args below meth c T [] 0 0) (eT : T.heap = h) (hz1 : One z1) (hz2 : One z2) (hz3 : One z3) (hz4 : One z4) (hK : K (some (.int (f4_76_7 x0))) h []) : own_Go p e below (own_Q s K cc4 ss4) T (mkF m 76 #[.val (.int x0), z1, z2, z3, z4, .val (.int (1353309697 : Int32)), .val (.int (-1807454463 : Int32))] []) := by
  obtain ⟨hx, hZ, hw, hby, hml, hown, hret, hlk, hnm⟩ := id C
  unfold f4_76_7 at hK
  refine o_iloadN (pc' := 77) X hx (hb hby d4_76) rfl rfl ?_
  refine o_bipush (pc' := 79) (x := (16 : Int32)) X hx (hb hby d4_77) (by decide) rfl ?_
  refine o_iand (pc' := 80)  X hx (hb hby d4_79) rfl rfl ?_
  refine o_ifP (P := (x0 &&& (16 : Int32)) = (0 : Int32)) (pc1 := 90) (pc2 := 83) X hx XT.i0_eq_t XT.i0_eq_f (hb hby d4_80) (by decide) (by decide) rfl (fun c6 => ?_) (fun c6 => ?_)
  · rw [if_pos c6] at hK
    exact b4_90_8 C X eT (One.val rfl) hz1 hz2 hz3 hz4 (One.val rfl) hK
  · rw [if_neg c6] at hK
    refine o_iload (pc' := 85) X hx (hb hby d4_83) rfl rfl ?_
    refine o_iload (pc' := 87) X hx (hb hby d4_85) rfl rfl ?_
    refine o_imul (pc' := 88) (z := (-2077209343 : Int32)) X hx (hb hby d4_87) rfl (by decide) ?_
    refine o_istore (pc' := 90) (l' := #[.val (.int x0), z1, z2, z3, z4, .val (.int (1353309697 : Int32)), .val (.int (-2077209343 : Int32))]) X hx (hb hby d4_88) rfl rfl ?_
    exact b4_90_9 C X eT (One.val rfl) hz1 hz2 hz3 hz4 (One.val rfl) hK

def f4_62 (x0 : Int32) : Int32 := (if (x0 &&& (8 : Int32)) = (0 : Int32) then (f4_76 x0) else (f4_76_7 x0))
set_option maxRecDepth 65536 in
set_option maxHeartbeats 40000000 in
theorem b4_62 (C : own_Cx p s m meth c Z ag method_5_code 7 "com/example/plumbline/plumbline/core/TextKeysSlotPinLaw" (some .int) "pow31") {T : State} {h : Heap} {z1 : Slot} {z2 : Slot} {z3 : Slot} (x0 : Int32) (X : Stand p l e R4 s m args below meth c T [] 0 0) (eT : T.heap = h) (hz1 : One z1) (hz2 : One z2) (hz3 : One z3) (hK : K (some (.int (f4_62 x0))) h []) : own_Go p e below (own_Q s K cc4 ss4) T (mkF m 62 #[.val (.int x0), z1, z2, z3, .val (.int (-1807454463 : Int32)), .val (.int (1353309697 : Int32)), .val (.int (1 : Int32))] []) := by
  obtain ⟨hx, hZ, hw, hby, hml, hown, hret, hlk, hnm⟩ := id C
  unfold f4_62 at hK
  refine o_iloadN (pc' := 63) X hx (hb hby d4_62) rfl rfl ?_
  refine o_bipush (pc' := 65) (x := (8 : Int32)) X hx (hb hby d4_63) (by decide) rfl ?_
  refine o_iand (pc' := 66)  X hx (hb hby d4_65) rfl rfl ?_
  refine o_ifP (P := (x0 &&& (8 : Int32)) = (0 : Int32)) (pc1 := 76) (pc2 := 69) X hx XT.i0_eq_t XT.i0_eq_f (hb hby d4_66) (by decide) (by decide) rfl (fun c4 => ?_) (fun c4 => ?_)
  · rw [if_pos c4] at hK
    exact b4_76 C x0 X eT hz1 hz2 hz3 (One.val rfl) hK
  · rw [if_neg c4] at hK
    refine o_iload (pc' := 71) X hx (hb hby d4_69) rfl rfl ?_
    refine o_iload (pc' := 73) X hx (hb hby d4_71) rfl rfl ?_
    refine o_imul (pc' := 74) (z := (-1807454463 : Int32)) X hx (hb hby d4_73) rfl (by decide) ?_
    refine o_istore (pc' := 76) (l' := #[.val (.int x0), z1, z2, z3, .val (.int (-1807454463 : Int32)), .val (.int (1353309697 : Int32)), .val (.int (-1807454463 : Int32))]) X hx (hb hby d4_74) rfl rfl ?_
    exact b4_76_7 C x0 X eT hz1 hz2 hz3 (One.val rfl) hK

def f4_90_12 : Int32 := (923521 : Int32)
set_option maxRecDepth 65536 in
set_option maxHeartbeats 40000000 in
theorem b4_90_12 (C : own_Cx p s m meth c Z ag method_5_code 7 "com/example/plumbline/plumbline/core/TextKeysSlotPinLaw" (some .int) "pow31") {T : State} {h : Heap} {z0 : Slot} {z1 : Slot} {z2 : Slot} {z3 : Slot} {z4 : Slot} {z5 : Slot} (X : Stand p l e R4 s m args below meth c T [] 0 0) (eT : T.heap = h) (hz0 : One z0) (hz1 : One z1) (hz2 : One z2) (hz3 : One z3) (hz4 : One z4) (hz5 : One z5) (hK : K (some (.int (f4_90_12))) h []) : own_Go p e below (own_Q s K cc4 ss4) T (mkF m 90 #[z0, z1, z2, z3, z4, z5, .val (.int (923521 : Int32))] []) := by
  obtain ⟨hx, hZ, hw, hby, hml, hown, hret, hlk, hnm⟩ := id C
  unfold f4_90_12 at hK
  refine o_iload (pc' := 92) X hx (hb hby d4_90) rfl rfl ?_
  exact o_retI X hx hret hlk (hb hby d4_92) (by decide) (by decide) eT (hK)

def f4_90_13 : Int32 := (211350913 : Int32)
set_option maxRecDepth 65536 in
set_option maxHeartbeats 40000000 in
theorem b4_90_13 (C : own_Cx p s m meth c Z ag method_5_code 7 "com/example/plumbline/plumbline/core/TextKeysSlotPinLaw" (some .int) "pow31") {T : State} {h : Heap} {z0 : Slot} {z1 : Slot} {z2 : Slot} {z3 : Slot} {z4 : Slot} {z5 : Slot} (X : Stand p l e R4 s m args below meth c T [] 0 0) (eT : T.heap = h) (hz0 : One z0) (hz1 : One z1) (hz2 : One z2) (hz3 : One z3) (hz4 : One z4) (hz5 : One z5) (hK : K (some (.int (f4_90_13))) h []) : own_Go p e below (own_Q s K cc4 ss4) T (mkF m 90 #[z0, z1, z2, z3, z4, z5, .val (.int (211350913 : Int32))] []) := by
  obtain ⟨hx, hZ, hw, hby, hml, hown, hret, hlk, hnm⟩ := id C
  unfold f4_90_13 at hK
  refine o_iload (pc' := 92) X hx (hb hby d4_90) rfl rfl ?_
  exact o_retI X hx hret hlk (hb hby d4_92) (by decide) (by decide) eT (hK)

def f4_76_11 (x0 : Int32) : Int32 := (if (x0 &&& (16 : Int32)) = (0 : Int32) then f4_90_12 else f4_90_13)
set_option maxRecDepth 65536 in
set_option maxHeartbeats 40000000 in
theorem b4_76_11 (C : own_Cx p s m meth c Z ag method_5_code 7 "com/example/plumbline/plumbline/core/TextKeysSlotPinLaw" (some .int) "pow31") {T : State} {h : Heap} {z1 : Slot} {z2 : Slot} {z3 : Slot} {z4 : Slot} (x0 : Int32) (X : Stand p l e R4 s m args below meth c T [] 0 0) (eT : T.heap = h) (hz1 : One z1) (hz2 : One z2) (hz3 : One z3) (hz4 : One z4) (hK : K (some (.int (f4_76_11 x0))) h []) : own_Go p e below (own_Q s K cc4 ss4) T (mkF m 76 #[.val (.int x0), z1, z2, z3, z4, .val (.int (1353309697 : Int32)), .val (.int (923521 : Int32))] []) := by
  obtain ⟨hx, hZ, hw, hby, hml, hown, hret, hlk, hnm⟩ := id C
  unfold f4_76_11 at hK
  refine o_iloadN (pc' := 77) X hx (hb hby d4_76) rfl rfl ?_
  refine o_bipush (pc' := 79) (x := (16 : Int32)) X hx (hb hby d4_77) (by decide) rfl ?_
  refine o_iand (pc' := 80)  X hx (hb hby d4_79) rfl rfl ?_
  refine o_ifP (P := (x0 &&& (16 : Int32)) = (0 : Int32)) (pc1 := 90) (pc2 := 83) X hx XT.i0_eq_t XT.i0_eq_f (hb hby d4_80) (by decide) (by decide) rfl (fun c8 => ?_) (fun c8 => ?_)
  · rw [if_pos c8] at hK
    exact b4_90_12 C X eT (One.val rfl) hz1 hz2 hz3 hz4 (One.val rfl) hK
  · rw [if_neg c8] at hK
    refine o_iload (pc' := 85) X hx (hb hby d4_83) rfl rfl ?_
    refine o_iload (pc' := 87) X hx (hb hby d4_85) rfl rfl ?_
    refine o_imul (pc' := 88) (z := (211350913 : Int32)) X hx (hb hby d4_87) rfl (by decide) ?_
    refine o_istore (pc' := 90) (l' := #[.val (.int x0), z1, z2, z3, z4, .val (.int (1353309697 : Int32)), .val (.int (211350913 : Int32))]) X hx (hb hby d4_88) rfl rfl ?_
    exact b4_90_13 C X eT (One.val rfl) hz1 hz2 hz3 hz4 (One.val rfl) hK

def f4_90_15 : Int32 := (-293403007 : Int32)
set_option maxRecDepth 65536 in
set_option maxHeartbeats 40000000 in
theorem b4_90_15 (C : own_Cx p s m meth c Z ag method_5_code 7 "com/example/plumbline/plumbline/core/TextKeysSlotPinLaw" (some .int) "pow31") {T : State} {h : Heap} {z0 : Slot} {z1 : Slot} {z2 : Slot} {z3 : Slot} {z4 : Slot} {z5 : Slot} (X : Stand p l e R4 s m args below meth c T [] 0 0) (eT : T.heap = h) (hz0 : One z0) (hz1 : One z1) (hz2 : One z2) (hz3 : One z3) (hz4 : One z4) (hz5 : One z5) (hK : K (some (.int (f4_90_15))) h []) : own_Go p e below (own_Q s K cc4 ss4) T (mkF m 90 #[z0, z1, z2, z3, z4, z5, .val (.int (-293403007 : Int32))] []) := by
  obtain ⟨hx, hZ, hw, hby, hml, hown, hret, hlk, hnm⟩ := id C
  unfold f4_90_15 at hK
  refine o_iload (pc' := 92) X hx (hb hby d4_90) rfl rfl ?_
  exact o_retI X hx hret hlk (hb hby d4_92) (by decide) (by decide) eT (hK)

def f4_90_16 : Int32 := (693101697 : Int32)
set_option maxRecDepth 65536 in
set_option maxHeartbeats 40000000 in
theorem b4_90_16 (C : own_Cx p s m meth c Z ag method_5_code 7 "com/example/plumbline/plumbline/core/TextKeysSlotPinLaw" (some .int) "pow31") {T : State} {h : Heap} {z0 : Slot} {z1 : Slot} {z2 : Slot} {z3 : Slot} {z4 : Slot} {z5 : Slot} (X : Stand p l e R4 s m args below meth c T [] 0 0) (eT : T.heap = h) (hz0 : One z0) (hz1 : One z1) (hz2 : One z2) (hz3 : One z3) (hz4 : One z4) (hz5 : One z5) (hK : K (some (.int (f4_90_16))) h []) : own_Go p e below (own_Q s K cc4 ss4) T (mkF m 90 #[z0, z1, z2, z3, z4, z5, .val (.int (693101697 : Int32))] []) := by
  obtain ⟨hx, hZ, hw, hby, hml, hown, hret, hlk, hnm⟩ := id C
  unfold f4_90_16 at hK
  refine o_iload (pc' := 92) X hx (hb hby d4_90) rfl rfl ?_
  exact o_retI X hx hret hlk (hb hby d4_92) (by decide) (by decide) eT (hK)

def f4_76_14 (x0 : Int32) : Int32 := (if (x0 &&& (16 : Int32)) = (0 : Int32) then f4_90_15 else f4_90_16)
set_option maxRecDepth 65536 in
set_option maxHeartbeats 40000000 in
theorem b4_76_14 (C : own_Cx p s m meth c Z ag method_5_code 7 "com/example/plumbline/plumbline/core/TextKeysSlotPinLaw" (some .int) "pow31") {T : State} {h : Heap} {z1 : Slot} {z2 : Slot} {z3 : Slot} {z4 : Slot} (x0 : Int32) (X : Stand p l e R4 s m args below meth c T [] 0 0) (eT : T.heap = h) (hz1 : One z1) (hz2 : One z2) (hz3 : One z3) (hz4 : One z4) (hK : K (some (.int (f4_76_14 x0))) h []) : own_Go p e below (own_Q s K cc4 ss4) T (mkF m 76 #[.val (.int x0), z1, z2, z3, z4, .val (.int (1353309697 : Int32)), .val (.int (-293403007 : Int32))] []) := by
  obtain ⟨hx, hZ, hw, hby, hml, hown, hret, hlk, hnm⟩ := id C
  unfold f4_76_14 at hK
  refine o_iloadN (pc' := 77) X hx (hb hby d4_76) rfl rfl ?_
  refine o_bipush (pc' := 79) (x := (16 : Int32)) X hx (hb hby d4_77) (by decide) rfl ?_
  refine o_iand (pc' := 80)  X hx (hb hby d4_79) rfl rfl ?_
  refine o_ifP (P := (x0 &&& (16 : Int32)) = (0 : Int32)) (pc1 := 90) (pc2 := 83) X hx XT.i0_eq_t XT.i0_eq_f (hb hby d4_80) (by decide) (by decide) rfl (fun c9 => ?_) (fun c9 => ?_)
  · rw [if_pos c9] at hK
    exact b4_90_15 C X eT (One.val rfl) hz1 hz2 hz3 hz4 (One.val rfl) hK
  · rw [if_neg c9] at hK
    refine o_iload (pc' := 85) X hx (hb hby d4_83) rfl rfl ?_
    refine o_iload (pc' := 87) X hx (hb hby d4_85) rfl rfl ?_
    refine o_imul (pc' := 88) (z := (693101697 : Int32)) X hx (hb hby d4_87) rfl (by decide) ?_
    refine o_istore (pc' := 90) (l' := #[.val (.int x0), z1, z2, z3, z4, .val (.int (1353309697 : Int32)), .val (.int (693101697 : Int32))]) X hx (hb hby d4_88) rfl rfl ?_
    exact b4_90_16 C X eT (One.val rfl) hz1 hz2 hz3 hz4 (One.val rfl) hK

def f4_62_10 (x0 : Int32) : Int32 := (if (x0 &&& (8 : Int32)) = (0 : Int32) then (f4_76_11 x0) else (f4_76_14 x0))
set_option maxRecDepth 65536 in
set_option maxHeartbeats 40000000 in
theorem b4_62_10 (C : own_Cx p s m meth c Z ag method_5_code 7 "com/example/plumbline/plumbline/core/TextKeysSlotPinLaw" (some .int) "pow31") {T : State} {h : Heap} {z1 : Slot} {z2 : Slot} {z3 : Slot} (x0 : Int32) (X : Stand p l e R4 s m args below meth c T [] 0 0) (eT : T.heap = h) (hz1 : One z1) (hz2 : One z2) (hz3 : One z3) (hK : K (some (.int (f4_62_10 x0))) h []) : own_Go p e below (own_Q s K cc4 ss4) T (mkF m 62 #[.val (.int x0), z1, z2, z3, .val (.int (-1807454463 : Int32)), .val (.int (1353309697 : Int32)), .val (.int (923521 : Int32))] []) := by
  obtain ⟨hx, hZ, hw, hby, hml, hown, hret, hlk, hnm⟩ := id C
  unfold f4_62_10 at hK
  refine o_iloadN (pc' := 63) X hx (hb hby d4_62) rfl rfl ?_
  refine o_bipush (pc' := 65) (x := (8 : Int32)) X hx (hb hby d4_63) (by decide) rfl ?_
  refine o_iand (pc' := 66)  X hx (hb hby d4_65) rfl rfl ?_
  refine o_ifP (P := (x0 &&& (8 : Int32)) = (0 : Int32)) (pc1 := 76) (pc2 := 69) X hx XT.i0_eq_t XT.i0_eq_f (hb hby d4_66) (by decide) (by decide) rfl (fun c7 => ?_) (fun c7 => ?_)
  · rw [if_pos c7] at hK
    exact b4_76_11 C x0 X eT hz1 hz2 hz3 (One.val rfl) hK
  · rw [if_neg c7] at hK
    refine o_iload (pc' := 71) X hx (hb hby d4_69) rfl rfl ?_
    refine o_iload (pc' := 73) X hx (hb hby d4_71) rfl rfl ?_
    refine o_imul (pc' := 74) (z := (-293403007 : Int32)) X hx (hb hby d4_73) rfl (by decide) ?_
    refine o_istore (pc' := 76) (l' := #[.val (.int x0), z1, z2, z3, .val (.int (-1807454463 : Int32)), .val (.int (1353309697 : Int32)), .val (.int (-293403007 : Int32))]) X hx (hb hby d4_74) rfl rfl ?_
    exact b4_76_14 C x0 X eT hz1 hz2 hz3 (One.val rfl) hK

def f4_50 (x0 : Int32) : Int32 := (if (x0 &&& (4 : Int32)) = (0 : Int32) then (f4_62 x0) else (f4_62_10 x0))
set_option maxRecDepth 65536 in
set_option maxHeartbeats 40000000 in
theorem b4_50 (C : own_Cx p s m meth c Z ag method_5_code 7 "com/example/plumbline/plumbline/core/TextKeysSlotPinLaw" (some .int) "pow31") {T : State} {h : Heap} {z1 : Slot} {z2 : Slot} (x0 : Int32) (X : Stand p l e R4 s m args below meth c T [] 0 0) (eT : T.heap = h) (hz1 : One z1) (hz2 : One z2) (hK : K (some (.int (f4_50 x0))) h []) : own_Go p e below (own_Q s K cc4 ss4) T (mkF m 50 #[.val (.int x0), z1, z2, .val (.int (923521 : Int32)), .val (.int (-1807454463 : Int32)), .val (.int (1353309697 : Int32)), .val (.int (1 : Int32))] []) := by
  obtain ⟨hx, hZ, hw, hby, hml, hown, hret, hlk, hnm⟩ := id C
  unfold f4_50 at hK
  refine o_iloadN (pc' := 51) X hx (hb hby d4_50) rfl rfl ?_
  refine o_iconst (pc' := 52) (x := (4 : Int32)) X hx (hb hby d4_51) (by decide) rfl ?_
  refine o_iand (pc' := 53)  X hx (hb hby d4_52) rfl rfl ?_
  refine o_ifP (P := (x0 &&& (4 : Int32)) = (0 : Int32)) (pc1 := 62) (pc2 := 56) X hx XT.i0_eq_t XT.i0_eq_f (hb hby d4_53) (by decide) (by decide) rfl (fun c3 => ?_) (fun c3 => ?_)
  · rw [if_pos c3] at hK
    exact b4_62 C x0 X eT hz1 hz2 (One.val rfl) hK
  · rw [if_neg c3] at hK
    refine o_iload (pc' := 58) X hx (hb hby d4_56) rfl rfl ?_
    refine o_iloadN (pc' := 59) X hx (hb hby d4_58) rfl rfl ?_
    refine o_imul (pc' := 60) (z := (923521 : Int32)) X hx (hb hby d4_59) rfl (by decide) ?_
    refine o_istore (pc' := 62) (l' := #[.val (.int x0), z1, z2, .val (.int (923521 : Int32)), .val (.int (-1807454463 : Int32)), .val (.int (1353309697 : Int32)), .val (.int (923521 : Int32))]) X hx (hb hby d4_60) rfl rfl ?_
    exact b4_62_10 C x0 X eT hz1 hz2 (One.val rfl) hK

def f4_90_20 : Int32 := (961 : Int32)
set_option maxRecDepth 65536 in
set_option maxHeartbeats 40000000 in
theorem b4_90_20 (C : own_Cx p s m meth c Z ag method_5_code 7 "com/example/plumbline/plumbline/core/TextKeysSlotPinLaw" (some .int) "pow31") {T : State} {h : Heap} {z0 : Slot} {z1 : Slot} {z2 : Slot} {z3 : Slot} {z4 : Slot} {z5 : Slot} (X : Stand p l e R4 s m args below meth c T [] 0 0) (eT : T.heap = h) (hz0 : One z0) (hz1 : One z1) (hz2 : One z2) (hz3 : One z3) (hz4 : One z4) (hz5 : One z5) (hK : K (some (.int (f4_90_20))) h []) : own_Go p e below (own_Q s K cc4 ss4) T (mkF m 90 #[z0, z1, z2, z3, z4, z5, .val (.int (961 : Int32))] []) := by
  obtain ⟨hx, hZ, hw, hby, hml, hown, hret, hlk, hnm⟩ := id C
  unfold f4_90_20 at hK
  refine o_iload (pc' := 92) X hx (hb hby d4_90) rfl rfl ?_
  exact o_retI X hx hret hlk (hb hby d4_92) (by decide) (by decide) eT (hK)

def f4_90_21 : Int32 := (-844471871 : Int32)
set_option maxRecDepth 65536 in
set_option maxHeartbeats 40000000 in
theorem b4_90_21 (C : own_Cx p s m meth c Z ag method_5_code 7 "com/example/plumbline/plumbline/core/TextKeysSlotPinLaw" (some .int) "pow31") {T : State} {h : Heap} {z0 : Slot} {z1 : Slot} {z2 : Slot} {z3 : Slot} {z4 : Slot} {z5 : Slot} (X : Stand p l e R4 s m args below meth c T [] 0 0) (eT : T.heap = h) (hz0 : One z0) (hz1 : One z1) (hz2 : One z2) (hz3 : One z3) (hz4 : One z4) (hz5 : One z5) (hK : K (some (.int (f4_90_21))) h []) : own_Go p e below (own_Q s K cc4 ss4) T (mkF m 90 #[z0, z1, z2, z3, z4, z5, .val (.int (-844471871 : Int32))] []) := by
  obtain ⟨hx, hZ, hw, hby, hml, hown, hret, hlk, hnm⟩ := id C
  unfold f4_90_21 at hK
  refine o_iload (pc' := 92) X hx (hb hby d4_90) rfl rfl ?_
  exact o_retI X hx hret hlk (hb hby d4_92) (by decide) (by decide) eT (hK)

def f4_76_19 (x0 : Int32) : Int32 := (if (x0 &&& (16 : Int32)) = (0 : Int32) then f4_90_20 else f4_90_21)
set_option maxRecDepth 65536 in
set_option maxHeartbeats 40000000 in
theorem b4_76_19 (C : own_Cx p s m meth c Z ag method_5_code 7 "com/example/plumbline/plumbline/core/TextKeysSlotPinLaw" (some .int) "pow31") {T : State} {h : Heap} {z1 : Slot} {z2 : Slot} {z3 : Slot} {z4 : Slot} (x0 : Int32) (X : Stand p l e R4 s m args below meth c T [] 0 0) (eT : T.heap = h) (hz1 : One z1) (hz2 : One z2) (hz3 : One z3) (hz4 : One z4) (hK : K (some (.int (f4_76_19 x0))) h []) : own_Go p e below (own_Q s K cc4 ss4) T (mkF m 76 #[.val (.int x0), z1, z2, z3, z4, .val (.int (1353309697 : Int32)), .val (.int (961 : Int32))] []) := by
  obtain ⟨hx, hZ, hw, hby, hml, hown, hret, hlk, hnm⟩ := id C
  unfold f4_76_19 at hK
  refine o_iloadN (pc' := 77) X hx (hb hby d4_76) rfl rfl ?_
  refine o_bipush (pc' := 79) (x := (16 : Int32)) X hx (hb hby d4_77) (by decide) rfl ?_
  refine o_iand (pc' := 80)  X hx (hb hby d4_79) rfl rfl ?_
  refine o_ifP (P := (x0 &&& (16 : Int32)) = (0 : Int32)) (pc1 := 90) (pc2 := 83) X hx XT.i0_eq_t XT.i0_eq_f (hb hby d4_80) (by decide) (by decide) rfl (fun c12 => ?_) (fun c12 => ?_)
  · rw [if_pos c12] at hK
    exact b4_90_20 C X eT (One.val rfl) hz1 hz2 hz3 hz4 (One.val rfl) hK
  · rw [if_neg c12] at hK
    refine o_iload (pc' := 85) X hx (hb hby d4_83) rfl rfl ?_
    refine o_iload (pc' := 87) X hx (hb hby d4_85) rfl rfl ?_
    refine o_imul (pc' := 88) (z := (-844471871 : Int32)) X hx (hb hby d4_87) rfl (by decide) ?_
    refine o_istore (pc' := 90) (l' := #[.val (.int x0), z1, z2, z3, z4, .val (.int (1353309697 : Int32)), .val (.int (-844471871 : Int32))]) X hx (hb hby d4_88) rfl rfl ?_
    exact b4_90_21 C X eT (One.val rfl) hz1 hz2 hz3 hz4 (One.val rfl) hK

def f4_90_23 : Int32 := (-1796951359 : Int32)
set_option maxRecDepth 65536 in
set_option maxHeartbeats 40000000 in
theorem b4_90_23 (C : own_Cx p s m meth c Z ag method_5_code 7 "com/example/plumbline/plumbline/core/TextKeysSlotPinLaw" (some .int) "pow31") {T : State} {h : Heap} {z0 : Slot} {z1 : Slot} {z2 : Slot} {z3 : Slot} {z4 : Slot} {z5 : Slot} (X : Stand p l e R4 s m args below meth c T [] 0 0) (eT : T.heap = h) (hz0 : One z0) (hz1 : One z1) (hz2 : One z2) (hz3 : One z3) (hz4 : One z4) (hz5 : One z5) (hK : K (some (.int (f4_90_23))) h []) : own_Go p e below (own_Q s K cc4 ss4) T (mkF m 90 #[z0, z1, z2, z3, z4, z5, .val (.int (-1796951359 : Int32))] []) := by
  obtain ⟨hx, hZ, hw, hby, hml, hown, hret, hlk, hnm⟩ := id C
  unfold f4_90_23 at hK
  refine o_iload (pc' := 92) X hx (hb hby d4_90) rfl rfl ?_
  exact o_retI X hx hret hlk (hb hby d4_92) (by decide) (by decide) eT (hK)

def f4_90_24 : Int32 := (961614017 : Int32)
set_option maxRecDepth 65536 in
set_option maxHeartbeats 40000000 in
theorem b4_90_24 (C : own_Cx p s m meth c Z ag method_5_code 7 "com/example/plumbline/plumbline/core/TextKeysSlotPinLaw" (some .int) "pow31") {T : State} {h : Heap} {z0 : Slot} {z1 : Slot} {z2 : Slot} {z3 : Slot} {z4 : Slot} {z5 : Slot} (X : Stand p l e R4 s m args below meth c T [] 0 0) (eT : T.heap = h) (hz0 : One z0) (hz1 : One z1) (hz2 : One z2) (hz3 : One z3) (hz4 : One z4) (hz5 : One z5) (hK : K (some (.int (f4_90_24))) h []) : own_Go p e below (own_Q s K cc4 ss4) T (mkF m 90 #[z0, z1, z2, z3, z4, z5, .val (.int (961614017 : Int32))] []) := by
  obtain ⟨hx, hZ, hw, hby, hml, hown, hret, hlk, hnm⟩ := id C
  unfold f4_90_24 at hK
  refine o_iload (pc' := 92) X hx (hb hby d4_90) rfl rfl ?_
  exact o_retI X hx hret hlk (hb hby d4_92) (by decide) (by decide) eT (hK)

def f4_76_22 (x0 : Int32) : Int32 := (if (x0 &&& (16 : Int32)) = (0 : Int32) then f4_90_23 else f4_90_24)
set_option maxRecDepth 65536 in
set_option maxHeartbeats 40000000 in
theorem b4_76_22 (C : own_Cx p s m meth c Z ag method_5_code 7 "com/example/plumbline/plumbline/core/TextKeysSlotPinLaw" (some .int) "pow31") {T : State} {h : Heap} {z1 : Slot} {z2 : Slot} {z3 : Slot} {z4 : Slot} (x0 : Int32) (X : Stand p l e R4 s m args below meth c T [] 0 0) (eT : T.heap = h) (hz1 : One z1) (hz2 : One z2) (hz3 : One z3) (hz4 : One z4) (hK : K (some (.int (f4_76_22 x0))) h []) : own_Go p e below (own_Q s K cc4 ss4) T (mkF m 76 #[.val (.int x0), z1, z2, z3, z4, .val (.int (1353309697 : Int32)), .val (.int (-1796951359 : Int32))] []) := by
  obtain ⟨hx, hZ, hw, hby, hml, hown, hret, hlk, hnm⟩ := id C
  unfold f4_76_22 at hK
  refine o_iloadN (pc' := 77) X hx (hb hby d4_76) rfl rfl ?_
  refine o_bipush (pc' := 79) (x := (16 : Int32)) X hx (hb hby d4_77) (by decide) rfl ?_
  refine o_iand (pc' := 80)  X hx (hb hby d4_79) rfl rfl ?_
  refine o_ifP (P := (x0 &&& (16 : Int32)) = (0 : Int32)) (pc1 := 90) (pc2 := 83) X hx XT.i0_eq_t XT.i0_eq_f (hb hby d4_80) (by decide) (by decide) rfl (fun c13 => ?_) (fun c13 => ?_)
  · rw [if_pos c13] at hK
    exact b4_90_23 C X eT (One.val rfl) hz1 hz2 hz3 hz4 (One.val rfl) hK
  · rw [if_neg c13] at hK
    refine o_iload (pc' := 85) X hx (hb hby d4_83) rfl rfl ?_
    refine o_iload (pc' := 87) X hx (hb hby d4_85) rfl rfl ?_
    refine o_imul (pc' := 88) (z := (961614017 : Int32)) X hx (hb hby d4_87) rfl (by decide) ?_
    refine o_istore (pc' := 90) (l' := #[.val (.int x0), z1, z2, z3, z4, .val (.int (1353309697 : Int32)), .val (.int (961614017 : Int32))]) X hx (hb hby d4_88) rfl rfl ?_
    exact b4_90_24 C X eT (One.val rfl) hz1 hz2 hz3 hz4 (One.val rfl) hK

def f4_62_18 (x0 : Int32) : Int32 := (if (x0 &&& (8 : Int32)) = (0 : Int32) then (f4_76_19 x0) else (f4_76_22 x0))
set_option maxRecDepth 65536 in
set_option maxHeartbeats 40000000 in
theorem b4_62_18 (C : own_Cx p s m meth c Z ag method_5_code 7 "com/example/plumbline/plumbline/core/TextKeysSlotPinLaw" (some .int) "pow31") {T : State} {h : Heap} {z1 : Slot} {z2 : Slot} {z3 : Slot} (x0 : Int32) (X : Stand p l e R4 s m args below meth c T [] 0 0) (eT : T.heap = h) (hz1 : One z1) (hz2 : One z2) (hz3 : One z3) (hK : K (some (.int (f4_62_18 x0))) h []) : own_Go p e below (own_Q s K cc4 ss4) T (mkF m 62 #[.val (.int x0), z1, z2, z3, .val (.int (-1807454463 : Int32)), .val (.int (1353309697 : Int32)), .val (.int (961 : Int32))] []) := by
  obtain ⟨hx, hZ, hw, hby, hml, hown, hret, hlk, hnm⟩ := id C
  unfold f4_62_18 at hK
  refine o_iloadN (pc' := 63) X hx (hb hby d4_62) rfl rfl ?_
  refine o_bipush (pc' := 65) (x := (8 : Int32)) X hx (hb hby d4_63) (by decide) rfl ?_
  refine o_iand (pc' := 66)  X hx (hb hby d4_65) rfl rfl ?_
  refine o_ifP (P := (x0 &&& (8 : Int32)) = (0 : Int32)) (pc1 := 76) (pc2 := 69) X hx XT.i0_eq_t XT.i0_eq_f (hb hby d4_66) (by decide) (by decide) rfl (fun c11 => ?_) (fun c11 => ?_)
  · rw [if_pos c11] at hK
    exact b4_76_19 C x0 X eT hz1 hz2 hz3 (One.val rfl) hK
  · rw [if_neg c11] at hK
    refine o_iload (pc' := 71) X hx (hb hby d4_69) rfl rfl ?_
    refine o_iload (pc' := 73) X hx (hb hby d4_71) rfl rfl ?_
    refine o_imul (pc' := 74) (z := (-1796951359 : Int32)) X hx (hb hby d4_73) rfl (by decide) ?_
    refine o_istore (pc' := 76) (l' := #[.val (.int x0), z1, z2, z3, .val (.int (-1807454463 : Int32)), .val (.int (1353309697 : Int32)), .val (.int (-1796951359 : Int32))]) X hx (hb hby d4_74) rfl rfl ?_
    exact b4_76_22 C x0 X eT hz1 hz2 hz3 (One.val rfl) hK

def f4_90_27 : Int32 := (887503681 : Int32)
set_option maxRecDepth 65536 in
set_option maxHeartbeats 40000000 in
theorem b4_90_27 (C : own_Cx p s m meth c Z ag method_5_code 7 "com/example/plumbline/plumbline/core/TextKeysSlotPinLaw" (some .int) "pow31") {T : State} {h : Heap} {z0 : Slot} {z1 : Slot} {z2 : Slot} {z3 : Slot} {z4 : Slot} {z5 : Slot} (X : Stand p l e R4 s m args below meth c T [] 0 0) (eT : T.heap = h) (hz0 : One z0) (hz1 : One z1) (hz2 : One z2) (hz3 : One z3) (hz4 : One z4) (hz5 : One z5) (hK : K (some (.int (f4_90_27))) h []) : own_Go p e below (own_Q s K cc4 ss4) T (mkF m 90 #[z0, z1, z2, z3, z4, z5, .val (.int (887503681 : Int32))] []) := by
  obtain ⟨hx, hZ, hw, hby, hml, hown, hret, hlk, hnm⟩ := id C
  unfold f4_90_27 at hK
  refine o_iload (pc' := 92) X hx (hb hby d4_90) rfl rfl ?_
  exact o_retI X hx hret hlk (hb hby d4_92) (by decide) (by decide) eT (hK)

def f4_90_28 : Int32 := (1244764481 : Int32)
set_option maxRecDepth 65536 in
set_option maxHeartbeats 40000000 in
theorem b4_90_28 (C : own_Cx p s m meth c Z ag method_5_code 7 "com/example/plumbline/plumbline/core/TextKeysSlotPinLaw" (some .int) "pow31") {T : State} {h : Heap} {z0 : Slot} {z1 : Slot} {z2 : Slot} {z3 : Slot} {z4 : Slot} {z5 : Slot} (X : Stand p l e R4 s m args below meth c T [] 0 0) (eT : T.heap = h) (hz0 : One z0) (hz1 : One z1) (hz2 : One z2) (hz3 : One z3) (hz4 : One z4) (hz5 : One z5) (hK : K (some (.int (f4_90_28))) h []) : own_Go p e below (own_Q s K cc4 ss4) T (mkF m 90 #[z0, z1, z2, z3, z4, z5, .val (.int (1244764481 : Int32))] []) := by
  obtain ⟨hx, hZ, hw, hby, hml, hown, hret, hlk, hnm⟩ := id C
  unfold f4_90_28 at hK
  refine o_iload (pc' := 92) X hx (hb hby d4_90) rfl rfl ?_
  exact o_retI X hx hret hlk (hb hby d4_92) (by decide) (by decide) eT (hK)

def f4_76_26 (x0 : Int32) : Int32 := (if (x0 &&& (16 : Int32)) = (0 : Int32) then f4_90_27 else f4_90_28)
set_option maxRecDepth 65536 in
set_option maxHeartbeats 40000000 in
theorem b4_76_26 (C : own_Cx p s m meth c Z ag method_5_code 7 "com/example/plumbline/plumbline/core/TextKeysSlotPinLaw" (some .int) "pow31") {T : State} {h : Heap} {z1 : Slot} {z2 : Slot} {z3 : Slot} {z4 : Slot} (x0 : Int32) (X : Stand p l e R4 s m args below meth c T [] 0 0) (eT : T.heap = h) (hz1 : One z1) (hz2 : One z2) (hz3 : One z3) (hz4 : One z4) (hK : K (some (.int (f4_76_26 x0))) h []) : own_Go p e below (own_Q s K cc4 ss4) T (mkF m 76 #[.val (.int x0), z1, z2, z3, z4, .val (.int (1353309697 : Int32)), .val (.int (887503681 : Int32))] []) := by
  obtain ⟨hx, hZ, hw, hby, hml, hown, hret, hlk, hnm⟩ := id C
  unfold f4_76_26 at hK
  refine o_iloadN (pc' := 77) X hx (hb hby d4_76) rfl rfl ?_
  refine o_bipush (pc' := 79) (x := (16 : Int32)) X hx (hb hby d4_77) (by decide) rfl ?_
  refine o_iand (pc' := 80)  X hx (hb hby d4_79) rfl rfl ?_
  refine o_ifP (P := (x0 &&& (16 : Int32)) = (0 : Int32)) (pc1 := 90) (pc2 := 83) X hx XT.i0_eq_t XT.i0_eq_f (hb hby d4_80) (by decide) (by decide) rfl (fun c15 => ?_) (fun c15 => ?_)
  · rw [if_pos c15] at hK
    exact b4_90_27 C X eT (One.val rfl) hz1 hz2 hz3 hz4 (One.val rfl) hK
  · rw [if_neg c15] at hK
    refine o_iload (pc' := 85) X hx (hb hby d4_83) rfl rfl ?_
    refine o_iload (pc' := 87) X hx (hb hby d4_85) rfl rfl ?_
    refine o_imul (pc' := 88) (z := (1244764481 : Int32)) X hx (hb hby d4_87) rfl (by decide) ?_
    refine o_istore (pc' := 90) (l' := #[.val (.int x0), z1, z2, z3, z4, .val (.int (1353309697 : Int32)), .val (.int (1244764481 : Int32))]) X hx (hb hby d4_88) rfl rfl ?_
    exact b4_90_28 C X eT (One.val rfl) hz1 hz2 hz3 hz4 (One.val rfl) hK

def f4_90_30 : Int32 := (1507551809 : Int32)
set_option maxRecDepth 65536 in
set_option maxHeartbeats 40000000 in
theorem b4_90_30 (C : own_Cx p s m meth c Z ag method_5_code 7 "com/example/plumbline/plumbline/core/TextKeysSlotPinLaw" (some .int) "pow31") {T : State} {h : Heap} {z0 : Slot} {z1 : Slot} {z2 : Slot} {z3 : Slot} {z4 : Slot} {z5 : Slot} (X : Stand p l e R4 s m args below meth c T [] 0 0) (eT : T.heap = h) (hz0 : One z0) (hz1 : One z1) (hz2 : One z2) (hz3 : One z3) (hz4 : One z4) (hz5 : One z5) (hK : K (some (.int (f4_90_30))) h []) : own_Go p e below (own_Q s K cc4 ss4) T (mkF m 90 #[z0, z1, z2, z3, z4, z5, .val (.int (1507551809 : Int32))] []) := by
  obtain ⟨hx, hZ, hw, hby, hml, hown, hret, hlk, hnm⟩ := id C
  unfold f4_90_30 at hK
  refine o_iload (pc' := 92) X hx (hb hby d4_90) rfl rfl ?_
  exact o_retI X hx hret hlk (hb hby d4_92) (by decide) (by decide) eT (hK)

def f4_90_31 : Int32 := (350799937 : Int32)
set_option maxRecDepth 65536 in
set_option maxHeartbeats 40000000 in
theorem b4_90_31 (C : own_Cx p s m meth c Z ag method_5_code 7 "com/example/plumbline/plumbline/core/TextKeysSlotPinLaw" (some .int) "pow31") {T : State} {h : Heap} {z0 : Slot} {z1 : Slot} {z2 : Slot} {z3 : Slot} {z4 : Slot} {z5 : Slot} (X : Stand p l e R4 s m args below meth c T [] 0 0) (eT : T.heap = h) (hz0 : One z0) (hz1 : One z1) (hz2 : One z2) (hz3 : One z3) (hz4 : One z4) (hz5 : One z5) (hK : K (some (.int (f4_90_31))) h []) : own_Go p e below (own_Q s K cc4 ss4) T (mkF m 90 #[z0, z1, z2, z3, z4, z5, .val (.int (350799937 : Int32))] []) := by
  obtain ⟨hx, hZ, hw, hby, hml, hown, hret, hlk, hnm⟩ := id C
  unfold f4_90_31 at hK
  refine o_iload (pc' := 92) X hx (hb hby d4_90) rfl rfl ?_
  exact o_retI X hx hret hlk (hb hby d4_92) (by decide) (by decide) eT (hK)

def f4_76_29 (x0 : Int32) : Int32 := (if (x0 &&& (16 : Int32)) = (0 : Int32) then f4_90_30 else f4_90_31)
set_option maxRecDepth 65536 in
set_option maxHeartbeats 40000000 in
theorem b4_76_29 (C : own_Cx p s m meth c Z ag method_5_code 7 "com/example/plumbline/plumbline/core/TextKeysSlotPinLaw" (some .int) "pow31") {T : State} {h : Heap} {z1 : Slot} {z2 : Slot} {z3 : Slot} {z4 : Slot} (x0 : Int32) (X : Stand p l e R4 s m args below meth c T [] 0 0) (eT : T.heap = h) (hz1 : One z1) (hz2 : One z2) (hz3 : One z3) (hz4 : One z4) (hK : K (some (.int (f4_76_29 x0))) h []) : own_Go p e below (own_Q s K cc4 ss4) T (mkF m 76 #[.val (.int x0), z1, z2, z3, z4, .val (.int (1353309697 : Int32)), .val (.int (1507551809 : Int32))] []) := by
  obtain ⟨hx, hZ, hw, hby, hml, hown, hret, hlk, hnm⟩ := id C
  unfold f4_76_29 at hK
  refine o_iloadN (pc' := 77) X hx (hb hby d4_76) rfl rfl ?_
  refine o_bipush (pc' := 79) (x := (16 : Int32)) X hx (hb hby d4_77) (by decide) rfl ?_
  refine o_iand (pc' := 80)  X hx (hb hby d4_79) rfl rfl ?_
  refine o_ifP (P := (x0 &&& (16 : Int32)) = (0 : Int32)) (pc1 := 90) (pc2 := 83) X hx XT.i0_eq_t XT.i0_eq_f (hb hby d4_80) (by decide) (by decide) rfl (fun c16 => ?_) (fun c16 => ?_)
  · rw [if_pos c16] at hK
    exact b4_90_30 C X eT (One.val rfl) hz1 hz2 hz3 hz4 (One.val rfl) hK
  · rw [if_neg c16] at hK
    refine o_iload (pc' := 85) X hx (hb hby d4_83) rfl rfl ?_
    refine o_iload (pc' := 87) X hx (hb hby d4_85) rfl rfl ?_
    refine o_imul (pc' := 88) (z := (350799937 : Int32)) X hx (hb hby d4_87) rfl (by decide) ?_
    refine o_istore (pc' := 90) (l' := #[.val (.int x0), z1, z2, z3, z4, .val (.int (1353309697 : Int32)), .val (.int (350799937 : Int32))]) X hx (hb hby d4_88) rfl rfl ?_
    exact b4_90_31 C X eT (One.val rfl) hz1 hz2 hz3 hz4 (One.val rfl) hK

def f4_62_25 (x0 : Int32) : Int32 := (if (x0 &&& (8 : Int32)) = (0 : Int32) then (f4_76_26 x0) else (f4_76_29 x0))
set_option maxRecDepth 65536 in
set_option maxHeartbeats 40000000 in
theorem b4_62_25 (C : own_Cx p s m meth c Z ag method_5_code 7 "com/example/plumbline/plumbline/core/TextKeysSlotPinLaw" (some .int) "pow31") {T : State} {h : Heap} {z1 : Slot} {z2 : Slot} {z3 : Slot} (x0 : Int32) (X : Stand p l e R4 s m args below meth c T [] 0 0) (eT : T.heap = h) (hz1 : One z1) (hz2 : One z2) (hz3 : One z3) (hK : K (some (.int (f4_62_25 x0))) h []) : own_Go p e below (own_Q s K cc4 ss4) T (mkF m 62 #[.val (.int x0), z1, z2, z3, .val (.int (-1807454463 : Int32)), .val (.int (1353309697 : Int32)), .val (.int (887503681 : Int32))] []) := by
  obtain ⟨hx, hZ, hw, hby, hml, hown, hret, hlk, hnm⟩ := id C
  unfold f4_62_25 at hK
  refine o_iloadN (pc' := 63) X hx (hb hby d4_62) rfl rfl ?_
  refine o_bipush (pc' := 65) (x := (8 : Int32)) X hx (hb hby d4_63) (by decide) rfl ?_
  refine o_iand (pc' := 66)  X hx (hb hby d4_65) rfl rfl ?_
  refine o_ifP (P := (x0 &&& (8 : Int32)) = (0 : Int32)) (pc1 := 76) (pc2 := 69) X hx XT.i0_eq_t XT.i0_eq_f (hb hby d4_66) (by decide) (by decide) rfl (fun c14 => ?_) (fun c14 => ?_)
  · rw [if_pos c14] at hK
    exact b4_76_26 C x0 X eT hz1 hz2 hz3 (One.val rfl) hK
  · rw [if_neg c14] at hK
    refine o_iload (pc' := 71) X hx (hb hby d4_69) rfl rfl ?_
    refine o_iload (pc' := 73) X hx (hb hby d4_71) rfl rfl ?_
    refine o_imul (pc' := 74) (z := (1507551809 : Int32)) X hx (hb hby d4_73) rfl (by decide) ?_
    refine o_istore (pc' := 76) (l' := #[.val (.int x0), z1, z2, z3, .val (.int (-1807454463 : Int32)), .val (.int (1353309697 : Int32)), .val (.int (1507551809 : Int32))]) X hx (hb hby d4_74) rfl rfl ?_
    exact b4_76_29 C x0 X eT hz1 hz2 hz3 (One.val rfl) hK

def f4_50_17 (x0 : Int32) : Int32 := (if (x0 &&& (4 : Int32)) = (0 : Int32) then (f4_62_18 x0) else (f4_62_25 x0))
set_option maxRecDepth 65536 in
set_option maxHeartbeats 40000000 in
theorem b4_50_17 (C : own_Cx p s m meth c Z ag method_5_code 7 "com/example/plumbline/plumbline/core/TextKeysSlotPinLaw" (some .int) "pow31") {T : State} {h : Heap} {z1 : Slot} {z2 : Slot} (x0 : Int32) (X : Stand p l e R4 s m args below meth c T [] 0 0) (eT : T.heap = h) (hz1 : One z1) (hz2 : One z2) (hK : K (some (.int (f4_50_17 x0))) h []) : own_Go p e below (own_Q s K cc4 ss4) T (mkF m 50 #[.val (.int x0), z1, z2, .val (.int (923521 : Int32)), .val (.int (-1807454463 : Int32)), .val (.int (1353309697 : Int32)), .val (.int (961 : Int32))] []) := by
  obtain ⟨hx, hZ, hw, hby, hml, hown, hret, hlk, hnm⟩ := id C
  unfold f4_50_17 at hK
  refine o_iloadN (pc' := 51) X hx (hb hby d4_50) rfl rfl ?_
  refine o_iconst (pc' := 52) (x := (4 : Int32)) X hx (hb hby d4_51) (by decide) rfl ?_
  refine o_iand (pc' := 53)  X hx (hb hby d4_52) rfl rfl ?_
  refine o_ifP (P := (x0 &&& (4 : Int32)) = (0 : Int32)) (pc1 := 62) (pc2 := 56) X hx XT.i0_eq_t XT.i0_eq_f (hb hby d4_53) (by decide) (by decide) rfl (fun c10 => ?_) (fun c10 => ?_)
  · rw [if_pos c10] at hK
    exact b4_62_18 C x0 X eT hz1 hz2 (One.val rfl) hK
  · rw [if_neg c10] at hK
    refine o_iload (pc' := 58) X hx (hb hby d4_56) rfl rfl ?_
    refine o_iloadN (pc' := 59) X hx (hb hby d4_58) rfl rfl ?_
    refine o_imul (pc' := 60) (z := (887503681 : Int32)) X hx (hb hby d4_59) rfl (by decide) ?_
    refine o_istore (pc' := 62) (l' := #[.val (.int x0), z1, z2, .val (.int (923521 : Int32)), .val (.int (-1807454463 : Int32)), .val (.int (1353309697 : Int32)), .val (.int (887503681 : Int32))]) X hx (hb hby d4_60) rfl rfl ?_
    exact b4_62_25 C x0 X eT hz1 hz2 (One.val rfl) hK

def f4_38 (x0 : Int32) : Int32 := (if (x0 &&& (2 : Int32)) = (0 : Int32) then (f4_50 x0) else (f4_50_17 x0))
set_option maxRecDepth 65536 in
set_option maxHeartbeats 40000000 in
theorem b4_38 (C : own_Cx p s m meth c Z ag method_5_code 7 "com/example/plumbline/plumbline/core/TextKeysSlotPinLaw" (some .int) "pow31") {T : State} {h : Heap} {z1 : Slot} (x0 : Int32) (X : Stand p l e R4 s m args below meth c T [] 0 0) (eT : T.heap = h) (hz1 : One z1) (hK : K (some (.int (f4_38 x0))) h []) : own_Go p e below (own_Q s K cc4 ss4) T (mkF m 38 #[.val (.int x0), z1, .val (.int (961 : Int32)), .val (.int (923521 : Int32)), .val (.int (-1807454463 : Int32)), .val (.int (1353309697 : Int32)), .val (.int (1 : Int32))] []) := by
  obtain ⟨hx, hZ, hw, hby, hml, hown, hret, hlk, hnm⟩ := id C
  unfold f4_38 at hK
  refine o_iloadN (pc' := 39) X hx (hb hby d4_38) rfl rfl ?_
  refine o_iconst (pc' := 40) (x := (2 : Int32)) X hx (hb hby d4_39) (by decide) rfl ?_
  refine o_iand (pc' := 41)  X hx (hb hby d4_40) rfl rfl ?_
  refine o_ifP (P := (x0 &&& (2 : Int32)) = (0 : Int32)) (pc1 := 50) (pc2 := 44) X hx XT.i0_eq_t XT.i0_eq_f (hb hby d4_41) (by decide) (by decide) rfl (fun c2 => ?_) (fun c2 => ?_)
  · rw [if_pos c2] at hK
    exact b4_50 C x0 X eT hz1 (One.val rfl) hK
  · rw [if_neg c2] at hK
    refine o_iload (pc' := 46) X hx (hb hby d4_44) rfl rfl ?_
    refine o_iloadN (pc' := 47) X hx (hb hby d4_46) rfl rfl ?_
    refine o_imul (pc' := 48) (z := (961 : Int32)) X hx (hb hby d4_47) rfl (by decide) ?_
    refine o_istore (pc' := 50) (l' := #[.val (.int x0), z1, .val (.int (961 : Int32)), .val (.int (923521 : Int32)), .val (.int (-1807454463 : Int32)), .val (.int (1353309697 : Int32)), .val (.int (961 : Int32))]) X hx (hb hby d4_48) rfl rfl ?_
    exact b4_50_17 C x0 X eT hz1 (One.val rfl) hK

def f4_90_36 : Int32 := (31 : Int32)
set_option maxRecDepth 65536 in
set_option maxHeartbeats 40000000 in
theorem b4_90_36 (C : own_Cx p s m meth c Z ag method_5_code 7 "com/example/plumbline/plumbline/core/TextKeysSlotPinLaw" (some .int) "pow31") {T : State} {h : Heap} {z0 : Slot} {z1 : Slot} {z2 : Slot} {z3 : Slot} {z4 : Slot} {z5 : Slot} (X : Stand p l e R4 s m args below meth c T [] 0 0) (eT : T.heap = h) (hz0 : One z0) (hz1 : One z1) (hz2 : One z2) (hz3 : One z3) (hz4 : One z4) (hz5 : One z5) (hK : K (some (.int (f4_90_36))) h []) : own_Go p e below (own_Q s K cc4 ss4) T (mkF m 90 #[z0, z1, z2, z3, z4, z5, .val (.int (31 : Int32))] []) := by
  obtain ⟨hx, hZ, hw, hby, hml, hown, hret, hlk, hnm⟩ := id C
  unfold f4_90_36 at hK
  refine o_iload (pc' := 92) X hx (hb hby d4_90) rfl rfl ?_
  exact o_retI X hx hret hlk (hb hby d4_92) (by decide) (by decide) eT (hK)

def f4_90_37 : Int32 := (-997072353 : Int32)
set_option maxRecDepth 65536 in
set_option maxHeartbeats 40000000 in
theorem b4_90_37 (C : own_Cx p s m meth c Z ag method_5_code 7 "com/example/plumbline/plumbline/core/TextKeysSlotPinLaw" (some .int) "pow31") {T : State} {h : Heap} {z0 : Slot} {z1 : Slot} {z2 : Slot} {z3 : Slot} {z4 : Slot} {z5 : Slot} (X : Stand p l e R4 s m args below meth c T [] 0 0) (eT : T.heap = h) (hz0 : One z0) (hz1 : One z1) (hz2 : One z2) (hz3 : One z3) (hz4 : One z4) (hz5 : One z5) (hK : K (some (.int (f4_90_37))) h []) : own_Go p e below (own_Q s K cc4 ss4) T (mkF m 90 #[z0, z1, z2, z3, z4, z5, .val (.int (-997072353 : Int32))] []) := by
  obtain ⟨hx, hZ, hw, hby, hml, hown, hret, hlk, hnm⟩ := id C
  unfold f4_90_37 at hK
  refine o_iload (pc' := 92) X hx (hb hby d4_90) rfl rfl ?_
  exact o_retI X hx hret hlk (hb hby d4_92) (by decide) (by decide) eT (hK)

def f4_76_35 (x0 : Int32) : Int32 := (if (x0 &&& (16 : Int32)) = (0 : Int32) then f4_90_36 else f4_90_37)
set_option maxRecDepth 65536 in
set_option maxHeartbeats 40000000 in
theorem b4_76_35 (C : own_Cx p s m meth c Z ag method_5_code 7 "com/example/plumbline/plumbline/core/TextKeysSlotPinLaw" (some .int) "pow31") {T : State} {h : Heap} {z1 : Slot} {z2 : Slot} {z3 : Slot} {z4 : Slot} (x0 : Int32) (X : Stand p l e R4 s m args below meth c T [] 0 0) (eT : T.heap = h) (hz1 : One z1) (hz2 : One z2) (hz3 : One z3) (hz4 : One z4) (hK : K (some (.int (f4_76_35 x0))) h []) : own_Go p e below (own_Q s K cc4 ss4) T (mkF m 76 #[.val (.int x0), z1, z2, z3, z4, .val (.int (1353309697 : Int32)), .val (.int (31 : Int32))] []) := by
  obtain ⟨hx, hZ, hw, hby, hml, hown, hret, hlk, hnm⟩ := id C
  unfold f4_76_35 at hK
  refine o_iloadN (pc' := 77) X hx (hb hby d4_76) rfl rfl ?_
  refine o_bipush (pc' := 79) (x := (16 : Int32)) X hx (hb hby d4_77) (by decide) rfl ?_
  refine o_iand (pc' := 80)  X hx (hb hby d4_79) rfl rfl ?_
  refine o_ifP (P := (x0 &&& (16 : Int32)) = (0 : Int32)) (pc1 := 90) (pc2 := 83) X hx XT.i0_eq_t XT.i0_eq_f (hb hby d4_80) (by decide) (by decide) rfl (fun c20 => ?_) (fun c20 => ?_)
  · rw [if_pos c20] at hK
    exact b4_90_36 C X eT (One.val rfl) hz1 hz2 hz3 hz4 (One.val rfl) hK
  · rw [if_neg c20] at hK
    refine o_iload (pc' := 85) X hx (hb hby d4_83) rfl rfl ?_
    refine o_iload (pc' := 87) X hx (hb hby d4_85) rfl rfl ?_
    refine o_imul (pc' := 88) (z := (-997072353 : Int32)) X hx (hb hby d4_87) rfl (by decide) ?_
    refine o_istore (pc' := 90) (l' := #[.val (.int x0), z1, z2, z3, z4, .val (.int (1353309697 : Int32)), .val (.int (-997072353 : Int32))]) X hx (hb hby d4_88) rfl rfl ?_
    exact b4_90_37 C X eT (One.val rfl) hz1 hz2 hz3 hz4 (One.val rfl) hK

def f4_90_39 : Int32 := (-196513505 : Int32)
set_option maxRecDepth 65536 in
set_option maxHeartbeats 40000000 in
theorem b4_90_39 (C : own_Cx p s m meth c Z ag method_5_code 7 "com/example/plumbline/plumbline/core/TextKeysSlotPinLaw" (some .int) "pow31") {T : State} {h : Heap} {z0 : Slot} {z1 : Slot} {z2 : Slot} {z3 : Slot} {z4 : Slot} {z5 : Slot} (X : Stand p l e R4 s m args below meth c T [] 0 0) (eT : T.heap = h) (hz0 : One z0) (hz1 : One z1) (hz2 : One z2) (hz3 : One z3) (hz4 : One z4) (hz5 : One z5) (hK : K (some (.int (f4_90_39))) h []) : own_Go p e below (own_Q s K cc4 ss4) T (mkF m 90 #[z0, z1, z2, z3, z4, z5, .val (.int (-196513505 : Int32))] []) := by
  obtain ⟨hx, hZ, hw, hby, hml, hown, hret, hlk, hnm⟩ := id C
  unfold f4_90_39 at hK
  refine o_iload (pc' := 92) X hx (hb hby d4_90) rfl rfl ?_
  exact o_retI X hx hret hlk (hb hby d4_92) (by decide) (by decide) eT (hK)

def f4_90_40 : Int32 := (31019807 : Int32)
set_option maxRecDepth 65536 in
set_option maxHeartbeats 40000000 in
theorem b4_90_40 (C : own_Cx p s m meth c Z ag method_5_code 7 "com/example/plumbline/plumbline/core/TextKeysSlotPinLaw" (some .int) "pow31") {T : State} {h : Heap} {z0 : Slot} {z1 : Slot} {z2 : Slot} {z3 : Slot} {z4 : Slot} {z5 : Slot} (X : Stand p l e R4 s m args below meth c T [] 0 0) (eT : T.heap = h) (hz0 : One z0) (hz1 : One z1) (hz2 : One z2) (hz3 : One z3) (hz4 : One z4) (hz5 : One z5) (hK : K (some (.int (f4_90_40))) h []) : own_Go p e below (own_Q s K cc4 ss4) T (mkF m 90 #[z0, z1, z2, z3, z4, z5, .val (.int (31019807 : Int32))] []) := by
  obtain ⟨hx, hZ, hw, hby, hml, hown, hret, hlk, hnm⟩ := id C
  unfold f4_90_40 at hK
  refine o_iload (pc' := 92) X hx (hb hby d4_90) rfl rfl ?_
  exact o_retI X hx hret hlk (hb hby d4_92) (by decide) (by decide) eT (hK)

def f4_76_38 (x0 : Int32) : Int32 := (if (x0 &&& (16 : Int32)) = (0 : Int32) then f4_90_39 else f4_90_40)
set_option maxRecDepth 65536 in
set_option maxHeartbeats 40000000 in
theorem b4_76_38 (C : own_Cx p s m meth c Z ag method_5_code 7 "com/example/plumbline/plumbline/core/TextKeysSlotPinLaw" (some .int) "pow31") {T : State} {h : Heap} {z1 : Slot} {z2 : Slot} {z3 : Slot} {z4 : Slot} (x0 : Int32) (X : Stand p l e R4 s m args below meth c T [] 0 0) (eT : T.heap = h) (hz1 : One z1) (hz2 : One z2) (hz3 : One z3) (hz4 : One z4) (hK : K (some (.int (f4_76_38 x0))) h []) : own_Go p e below (own_Q s K cc4 ss4) T (mkF m 76 #[.val (.int x0), z1, z2, z3, z4, .val (.int (1353309697 : Int32)), .val (.int (-196513505 : Int32))] []) := by
  obtain ⟨hx, hZ, hw, hby, hml, hown, hret, hlk, hnm⟩ := id C
  unfold f4_76_38 at hK
  refine o_iloadN (pc' := 77) X hx (hb hby d4_76) rfl rfl ?_
  refine o_bipush (pc' := 79) (x := (16 : Int32)) X hx (hb hby d4_77) (by decide) rfl ?_
  refine o_iand (pc' := 80)  X hx (hb hby d4_79) rfl rfl ?_
  refine o_ifP (P := (x0 &&& (16 : Int32)) = (0 : Int32)) (pc1 := 90) (pc2 := 83) X hx XT.i0_eq_t XT.i0_eq_f (hb hby d4_80) (by decide) (by decide) rfl (fun c21 => ?_) (fun c21 => ?_)
  · rw [if_pos c21] at hK
    exact b4_90_39 C X eT (One.val rfl) hz1 hz2 hz3 hz4 (One.val rfl) hK
  · rw [if_neg c21] at hK
    refine o_iload (pc' := 85) X hx (hb hby d4_83) rfl rfl ?_
    refine o_iload (pc' := 87) X hx (hb hby d4_85) rfl rfl ?_
    refine o_imul (pc' := 88) (z := (31019807 : Int32)) X hx (hb hby d4_87) rfl (by decide) ?_
    refine o_istore (pc' := 90) (l' := #[.val (.int x0), z1, z2, z3, z4, .val (.int (1353309697 : Int32)), .val (.int (31019807 : Int32))]) X hx (hb hby d4_88) rfl rfl ?_
    exact b4_90_40 C X eT (One.val rfl) hz1 hz2 hz3 hz4 (One.val rfl) hK

def f4_62_34 (x0 : Int32) : Int32 := (if (x0 &&& (8 : Int32)) = (0 : Int32) then (f4_76_35 x0) else (f4_76_38 x0))
set_option maxRecDepth 65536 in
set_option maxHeartbeats 40000000 in
theorem b4_62_34 (C : own_Cx p s m meth c Z ag method_5_code 7 "com/example/plumbline/plumbline/core/TextKeysSlotPinLaw" (some .int) "pow31") {T : State} {h : Heap} {z1 : Slot} {z2 : Slot} {z3 : Slot} (x0 : Int32) (X : Stand p l e R4 s m args below meth c T [] 0 0) (eT : T.heap = h) (hz1 : One z1) (hz2 : One z2) (hz3 : One z3) (hK : K (some (.int (f4_62_34 x0))) h []) : own_Go p e below (own_Q s K cc4 ss4) T (mkF m 62 #[.val (.int x0), z1, z2, z3, .val (.int (-1807454463 : Int32)), .val (.int (1353309697 : Int32)), .val (.int (31 : Int32))] []) := by
  obtain ⟨hx, hZ, hw, hby, hml, hown, hret, hlk, hnm⟩ := id C
  unfold f4_62_34 at hK
  refine o_iloadN (pc' := 63) X hx (hb hby d4_62) rfl rfl ?_
  refine o_bipush (pc' := 65) (x := (8 : Int32)) X hx (hb hby d4_63) (by decide) rfl ?_
  refine o_iand (pc' := 66)  X hx (hb hby d4_65) rfl rfl ?_
  refine o_ifP (P := (x0 &&& (8 : Int32)) = (0 : Int32)) (pc1 := 76) (pc2 := 69) X hx XT.i0_eq_t XT.i0_eq_f (hb hby d4_66) (by decide) (by decide) rfl (fun c19 => ?_) (fun c19 => ?_)
  · rw [if_pos c19] at hK
    exact b4_76_35 C x0 X eT hz1 hz2 hz3 (One.val rfl) hK
  · rw [if_neg c19] at hK
    refine o_iload (pc' := 71) X hx (hb hby d4_69) rfl rfl ?_
    refine o_iload (pc' := 73) X hx (hb hby d4_71) rfl rfl ?_
    refine o_imul (pc' := 74) (z := (-196513505 : Int32)) X hx (hb hby d4_73) rfl (by decide) ?_
    refine o_istore (pc' := 76) (l' := #[.val (.int x0), z1, z2, z3, .val (.int (-1807454463 : Int32)), .val (.int (1353309697 : Int32)), .val (.int (-196513505 : Int32))]) X hx (hb hby d4_74) rfl rfl ?_
    exact b4_76_38 C x0 X eT hz1 hz2 hz3 (One.val rfl) hK

def f4_90_43 : Int32 := (28629151 : Int32)
set_option maxRecDepth 65536 in
set_option maxHeartbeats 40000000 in
theorem b4_90_43 (C : own_Cx p s m meth c Z ag method_5_code 7 "com/example/plumbline/plumbline/core/TextKeysSlotPinLaw" (some .int) "pow31") {T : State} {h : Heap} {z0 : Slot} {z1 : Slot} {z2 : Slot} {z3 : Slot} {z4 : Slot} {z5 : Slot} (X : Stand p l e R4 s m args below meth c T [] 0 0) (eT : T.heap = h) (hz0 : One z0) (hz1 : One z1) (hz2 : One z2) (hz3 : One z3) (hz4 : One z4) (hz5 : One z5) (hK : K (some (.int (f4_90_43))) h []) : own_Go p e below (own_Q s K cc4 ss4) T (mkF m 90 #[z0, z1, z2, z3, z4, z5, .val (.int (28629151 : Int32))] []) := by
  obtain ⟨hx, hZ, hw, hby, hml, hown, hret, hlk, hnm⟩ := id C
  unfold f4_90_43 at hK
  refine o_iload (pc' := 92) X hx (hb hby d4_90) rfl rfl ?_
  exact o_retI X hx hret hlk (hb hby d4_92) (by decide) (by decide) eT (hK)

def f4_90_44 : Int32 := (-2038056289 : Int32)
set_option maxRecDepth 65536 in
set_option maxHeartbeats 40000000 in
theorem b4_90_44 (C : own_Cx p s m meth c Z ag method_5_code 7 "com/example/plumbline/plumbline/core/TextKeysSlotPinLaw" (some .int) "pow31") {T : State} {h : Heap} {z0 : Slot} {z1 : Slot} {z2 : Slot} {z3 : Slot} {z4 : Slot} {z5 : Slot} (X : Stand p l e R4 s m args below meth c T [] 0 0) (eT : T.heap = h) (hz0 : One z0) (hz1 : One z1) (hz2 : One z2) (hz3 : One z3) (hz4 : One z4) (hz5 : One z5) (hK : K (some (.int (f4_90_44))) h []) : own_Go p e below (own_Q s K cc4 ss4) T (mkF m 90 #[z0, z1, z2, z3, z4, z5, .val (.int (-2038056289 : Int32))] []) := by
  obtain ⟨hx, hZ, hw, hby, hml, hown, hret, hlk, hnm⟩ := id C
  unfold f4_90_44 at hK
  refine o_iload (pc' := 92) X hx (hb hby d4_90) rfl rfl ?_
  exact o_retI X hx hret hlk (hb hby d4_92) (by decide) (by decide) eT (hK)

def f4_76_42 (x0 : Int32) : Int32 := (if (x0 &&& (16 : Int32)) = (0 : Int32) then f4_90_43 else f4_90_44)
set_option maxRecDepth 65536 in
set_option maxHeartbeats 40000000 in
theorem b4_76_42 (C : own_Cx p s m meth c Z ag method_5_code 7 "com/example/plumbline/plumbline/core/TextKeysSlotPinLaw" (some .int) "pow31") {T : State} {h : Heap} {z1 : Slot} {z2 : Slot} {z3 : Slot} {z4 : Slot} (x0 : Int32) (X : Stand p l e R4 s m args below meth c T [] 0 0) (eT : T.heap = h) (hz1 : One z1) (hz2 : One z2) (hz3 : One z3) (hz4 : One z4) (hK : K (some (.int (f4_76_42 x0))) h []) : own_Go p e below (own_Q s K cc4 ss4) T (mkF m 76 #[.val (.int x0), z1, z2, z3, z4, .val (.int (1353309697 : Int32)), .val (.int (28629151 : Int32))] []) := by
  obtain ⟨hx, hZ, hw, hby, hml, hown, hret, hlk, hnm⟩ := id C
  unfold f4_76_42 at hK
  refine o_iloadN (pc' := 77) X hx (hb hby d4_76) rfl rfl ?_
  refine o_bipush (pc' := 79) (x := (16 : Int32)) X hx (hb hby d4_77) (by decide) rfl ?_
  refine o_iand (pc' := 80)  X hx (hb hby d4_79) rfl rfl ?_
  refine o_ifP (P := (x0 &&& (16 : Int32)) = (0 : Int32)) (pc1 := 90) (pc2 := 83) X hx XT.i0_eq_t XT.i0_eq_f (hb hby d4_80) (by decide) (by decide) rfl (fun c23 => ?_) (fun c23 => ?_)
  · rw [if_pos c23] at hK
    exact b4_90_43 C X eT (One.val rfl) hz1 hz2 hz3 hz4 (One.val rfl) hK
  · rw [if_neg c23] at hK
    refine o_iload (pc' := 85) X hx (hb hby d4_83) rfl rfl ?_
    refine o_iload (pc' := 87) X hx (hb hby d4_85) rfl rfl ?_
    refine o_imul (pc' := 88) (z := (-2038056289 : Int32)) X hx (hb hby d4_87) rfl (by decide) ?_
    refine o_istore (pc' := 90) (l' := #[.val (.int x0), z1, z2, z3, z4, .val (.int (1353309697 : Int32)), .val (.int (-2038056289 : Int32))]) X hx (hb hby d4_88) rfl rfl ?_
    exact b4_90_44 C X eT (One.val rfl) hz1 hz2 hz3 hz4 (One.val rfl) hK

def f4_90_46 : Int32 := (-505558625 : Int32)
set_option maxRecDepth 65536 in
set_option maxHeartbeats 40000000 in
theorem b4_90_46 (C : own_Cx p s m meth c Z ag method_5_code 7 "com/example/plumbline/plumbline/core/TextKeysSlotPinLaw" (some .int) "pow31") {T : State} {h : Heap} {z0 : Slot} {z1 : Slot} {z2 : Slot} {z3 : Slot} {z4 : Slot} {z5 : Slot} (X : Stand p l e R4 s m args below meth c T [] 0 0) (eT : T.heap = h) (hz0 : One z0) (hz1 : One z1) (hz2 : One z2) (hz3 : One z3) (hz4 : One z4) (hz5 : One z5) (hK : K (some (.int (f4_90_46))) h []) : own_Go p e below (own_Q s K cc4 ss4) T (mkF m 90 #[z0, z1, z2, z3, z4, z5, .val (.int (-505558625 : Int32))] []) := by
  obtain ⟨hx, hZ, hw, hby, hml, hown, hret, hlk, hnm⟩ := id C
  unfold f4_90_46 at hK
  refine o_iload (pc' := 92) X hx (hb hby d4_90) rfl rfl ?_
  exact o_retI X hx hret hlk (hb hby d4_92) (by decide) (by decide) eT (hK)

def f4_90_47 : Int32 := (11316127 : Int32)
set_option maxRecDepth 65536 in
set_option maxHeartbeats 40000000 in
theorem b4_90_47 (C : own_Cx p s m meth c Z ag method_5_code 7 "com/example/plumbline/plumbline/core/TextKeysSlotPinLaw" (some .int) "pow31") {T : State} {h : Heap} {z0 : Slot} {z1 : Slot} {z2 : Slot} {z3 : Slot} {z4 : Slot} {z5 : Slot} (X : Stand p l e R4 s m args below meth c T [] 0 0) (eT : T.heap = h) (hz0 : One z0) (hz1 : One z1) (hz2 : One z2) (hz3 : One z3) (hz4 : One z4) (hz5 : One z5) (hK : K (some (.int (f4_90_47))) h []) : own_Go p e below (own_Q s K cc4 ss4) T (mkF m 90 #[z0, z1, z2, z3, z4, z5, .val (.int (11316127 : Int32))] []) := by
  obtain ⟨hx, hZ, hw, hby, hml, hown, hret, hlk, hnm⟩ := id C
  unfold f4_90_47 at hK
  refine o_iload (pc' := 92) X hx (hb hby d4_90) rfl rfl ?_
  exact o_retI X hx hret hlk (hb hby d4_92) (by decide) (by decide) eT (hK)

def f4_76_45 (x0 : Int32) : Int32 := (if (x0 &&& (16 : Int32)) = (0 : Int32) then f4_90_46 else f4_90_47)
set_option maxRecDepth 65536 in
set_option maxHeartbeats 40000000 in
theorem b4_76_45 (C : own_Cx p s m meth c Z ag method_5_code 7 "com/example/plumbline/plumbline/core/TextKeysSlotPinLaw" (some .int) "pow31") {T : State} {h : Heap} {z1 : Slot} {z2 : Slot} {z3 : Slot} {z4 : Slot} (x0 : Int32) (X : Stand p l e R4 s m args below meth c T [] 0 0) (eT : T.heap = h) (hz1 : One z1) (hz2 : One z2) (hz3 : One z3) (hz4 : One z4) (hK : K (some (.int (f4_76_45 x0))) h []) : own_Go p e below (own_Q s K cc4 ss4) T (mkF m 76 #[.val (.int x0), z1, z2, z3, z4, .val (.int (1353309697 : Int32)), .val (.int (-505558625 : Int32))] []) := by
  obtain ⟨hx, hZ, hw, hby, hml, hown, hret, hlk, hnm⟩ := id C
  unfold f4_76_45 at hK
  refine o_iloadN (pc' := 77) X hx (hb hby d4_76) rfl rfl ?_
  refine o_bipush (pc' := 79) (x := (16 : Int32)) X hx (hb hby d4_77) (by decide) rfl ?_
  refine o_iand (pc' := 80)  X hx (hb hby d4_79) rfl rfl ?_
  refine o_ifP (P := (x0 &&& (16 : Int32)) = (0 : Int32)) (pc1 := 90) (pc2 := 83) X hx XT.i0_eq_t XT.i0_eq_f (hb hby d4_80) (by decide) (by decide) rfl (fun c24 => ?_) (fun c24 => ?_)
  · rw [if_pos c24] at hK
    exact b4_90_46 C X eT (One.val rfl) hz1 hz2 hz3 hz4 (One.val rfl) hK
  · rw [if_neg c24] at hK
    refine o_iload (pc' := 85) X hx (hb hby d4_83) rfl rfl ?_
    refine o_iload (pc' := 87) X hx (hb hby d4_85) rfl rfl ?_
    refine o_imul (pc' := 88) (z := (11316127 : Int32)) X hx (hb hby d4_87) rfl (by decide) ?_
    refine o_istore (pc' := 90) (l' := #[.val (.int x0), z1, z2, z3, z4, .val (.int (1353309697 : Int32)), .val (.int (11316127 : Int32))]) X hx (hb hby d4_88) rfl rfl ?_
    exact b4_90_47 C X eT (One.val rfl) hz1 hz2 hz3 hz4 (One.val rfl) hK

def f4_62_41 (x0 : Int32) : Int32 := (if (x0 &&& (8 : Int32)) = (0 : Int32) then (f4_76_42 x0) else (f4_76_45 x0))
set_option maxRecDepth 65536 in
set_option maxHeartbeats 40000000 in
theorem b4_62_41 (C : own_Cx p s m meth c Z ag method_5_code 7 "com/example/plumbline/plumbline/core/TextKeysSlotPinLaw" (some .int) "pow31") {T : State} {h : Heap} {z1 : Slot} {z2 : Slot} {z3 : Slot} (x0 : Int32) (X : Stand p l e R4 s m args below meth c T [] 0 0) (eT : T.heap = h) (hz1 : One z1) (hz2 : One z2) (hz3 : One z3) (hK : K (some (.int (f4_62_41 x0))) h []) : own_Go p e below (own_Q s K cc4 ss4) T (mkF m 62 #[.val (.int x0), z1, z2, z3, .val (.int (-1807454463 : Int32)), .val (.int (1353309697 : Int32)), .val (.int (28629151 : Int32))] []) := by
  obtain ⟨hx, hZ, hw, hby, hml, hown, hret, hlk, hnm⟩ := id C
  unfold f4_62_41 at hK
  refine o_iloadN (pc' := 63) X hx (hb hby d4_62) rfl rfl ?_
  refine o_bipush (pc' := 65) (x := (8 : Int32)) X hx (hb hby d4_63) (by decide) rfl ?_
  refine o_iand (pc' := 66)  X hx (hb hby d4_65) rfl rfl ?_
  refine o_ifP (P := (x0 &&& (8 : Int32)) = (0 : Int32)) (pc1 := 76) (pc2 := 69) X hx XT.i0_eq_t XT.i0_eq_f (hb hby d4_66) (by decide) (by decide) rfl (fun c22 => ?_) (fun c22 => ?_)
  · rw [if_pos c22] at hK
    exact b4_76_42 C x0 X eT hz1 hz2 hz3 (One.val rfl) hK
  · rw [if_neg c22] at hK
    refine o_iload (pc' := 71) X hx (hb hby d4_69) rfl rfl ?_
    refine o_iload (pc' := 73) X hx (hb hby d4_71) rfl rfl ?_
    refine o_imul (pc' := 74) (z := (-505558625 : Int32)) X hx (hb hby d4_73) rfl (by decide) ?_
    refine o_istore (pc' := 76) (l' := #[.val (.int x0), z1, z2, z3, .val (.int (-1807454463 : Int32)), .val (.int (1353309697 : Int32)), .val (.int (-505558625 : Int32))]) X hx (hb hby d4_74) rfl rfl ?_
    exact b4_76_45 C x0 X eT hz1 hz2 hz3 (One.val rfl) hK

def f4_50_33 (x0 : Int32) : Int32 := (if (x0 &&& (4 : Int32)) = (0 : Int32) then (f4_62_34 x0) else (f4_62_41 x0))
set_option maxRecDepth 65536 in
set_option maxHeartbeats 40000000 in
theorem b4_50_33 (C : own_Cx p s m meth c Z ag method_5_code 7 "com/example/plumbline/plumbline/core/TextKeysSlotPinLaw" (some .int) "pow31") {T : State} {h : Heap} {z1 : Slot} {z2 : Slot} (x0 : Int32) (X : Stand p l e R4 s m args below meth c T [] 0 0) (eT : T.heap = h) (hz1 : One z1) (hz2 : One z2) (hK : K (some (.int (f4_50_33 x0))) h []) : own_Go p e below (own_Q s K cc4 ss4) T (mkF m 50 #[.val (.int x0), z1, z2, .val (.int (923521 : Int32)), .val (.int (-1807454463 : Int32)), .val (.int (1353309697 : Int32)), .val (.int (31 : Int32))] []) := by
  obtain ⟨hx, hZ, hw, hby, hml, hown, hret, hlk, hnm⟩ := id C
  unfold f4_50_33 at hK
  refine o_iloadN (pc' := 51) X hx (hb hby d4_50) rfl rfl ?_
  refine o_iconst (pc' := 52) (x := (4 : Int32)) X hx (hb hby d4_51) (by decide) rfl ?_
  refine o_iand (pc' := 53)  X hx (hb hby d4_52) rfl rfl ?_
  refine o_ifP (P := (x0 &&& (4 : Int32)) = (0 : Int32)) (pc1 := 62) (pc2 := 56) X hx XT.i0_eq_t XT.i0_eq_f (hb hby d4_53) (by decide) (by decide) rfl (fun c18 => ?_) (fun c18 => ?_)
  · rw [if_pos c18] at hK
    exact b4_62_34 C x0 X eT hz1 hz2 (One.val rfl) hK
  · rw [if_neg c18] at hK
    refine o_iload (pc' := 58) X hx (hb hby d4_56) rfl rfl ?_
    refine o_iloadN (pc' := 59) X hx (hb hby d4_58) rfl rfl ?_
    refine o_imul (pc' := 60) (z := (28629151 : Int32)) X hx (hb hby d4_59) rfl (by decide) ?_
    refine o_istore (pc' := 62) (l' := #[.val (.int x0), z1, z2, .val (.int (923521 : Int32)), .val (.int (-1807454463 : Int32)), .val (.int (1353309697 : Int32)), .val (.int (28629151 : Int32))]) X hx (hb hby d4_60) rfl rfl ?_
    exact b4_62_41 C x0 X eT hz1 hz2 (One.val rfl) hK

def f4_90_51 : Int32 := (29791 : Int32)
set_option maxRecDepth 65536 in
set_option maxHeartbeats 40000000 in
theorem b4_90_51 (C : own_Cx p s m meth c Z ag method_5_code 7 "com/example/plumbline/plumbline/core/TextKeysSlotPinLaw" (some .int) "pow31") {T : State} {h : Heap} {z0 : Slot} {z1 : Slot} {z2 : Slot} {z3 : Slot} {z4 : Slot} {z5 : Slot} (X : Stand p l e R4 s m args below meth c T [] 0 0) (eT : T.heap = h) (hz0 : One z0) (hz1 : One z1) (hz2 : One z2) (hz3 : One z3) (hz4 : One z4) (hz5 : One z5) (hK : K (some (.int (f4_90_51))) h []) : own_Go p e below (own_Q s K cc4 ss4) T (mkF m 90 #[z0, z1, z2, z3, z4, z5, .val (.int (29791 : Int32))] []) := by
  obtain ⟨hx, hZ, hw, hby, hml, hown, hret, hlk, hnm⟩ := id C
  unfold f4_90_51 at hK
  refine o_iload (pc' := 92) X hx (hb hby d4_90) rfl rfl ?_
  exact o_retI X hx hret hlk (hb hby d4_92) (by decide) (by decide) eT (hK)

def f4_90_52 : Int32 := (-408824225 : Int32)
set_option maxRecDepth 65536 in
set_option maxHeartbeats 40000000 in
theorem b4_90_52 (C : own_Cx p s m meth c Z ag method_5_code 7 "com/example/plumbline/plumbline/core/TextKeysSlotPinLaw" (some .int) "pow31") {T : State} {h : Heap} {z0 : Slot} {z1 : Slot} {z2 : Slot} {z3 : Slot} {z4 : Slot} {z5 : Slot} (X : Stand p l e R4 s m args below meth c T [] 0 0) (eT : T.heap = h) (hz0 : One z0) (hz1 : One z1) (hz2 : One z2) (hz3 : One z3) (hz4 : One z4) (hz5 : One z5) (hK : K (some (.int (f4_90_52))) h []) : own_Go p e below (own_Q s K cc4 ss4) T (mkF m 90 #[z0, z1, z2, z3, z4, z5, .val (.int (-408824225 : Int32))] []) := by
  obtain ⟨hx, hZ, hw, hby, hml, hown, hret, hlk, hnm⟩ := id C
  unfold f4_90_52 at hK
  refine o_iload (pc' := 92) X hx (hb hby d4_90) rfl rfl ?_
  exact o_retI X hx hret hlk (hb hby d4_92) (by decide) (by decide) eT (hK)

def f4_76_50 (x0 : Int32) : Int32 := (if (x0 &&& (16 : Int32)) = (0 : Int32) then f4_90_51 else f4_90_52)
set_option maxRecDepth 65536 in
set_option maxHeartbeats 40000000 in
theorem b4_76_50 (C : own_Cx p s m meth c Z ag method_5_code 7 "com/example/plumbline/plumbline/core/TextKeysSlotPinLaw" (some .int) "pow31") {T : State} {h : Heap} {z1 : Slot} {z2 : Slot} {z3 : Slot} {z4 : Slot} (x0 : Int32) (X : Stand p l e R4 s m args below meth c T [] 0 0) (eT : T.heap = h) (hz1 : One z1) (hz2 : One z2) (hz3 : One z3) (hz4 : One z4) (hK : K (some (.int (f4_76_50 x0))) h []) : own_Go p e below (own_Q s K cc4 ss4) T (mkF m 76 #[.val (.int x0), z1, z2, z3, z4, .val (.int (1353309697 : Int32)), .val (.int (29791 : Int32))] []) := by
  obtain ⟨hx, hZ, hw, hby, hml, hown, hret, hlk, hnm⟩ := id C
  unfold f4_76_50 at hK
  refine o_iloadN (pc' := 77) X hx (hb hby d4_76) rfl rfl ?_
  refine o_bipush (pc' := 79) (x := (16 : Int32)) X hx (hb hby d4_77) (by decide) rfl ?_
  refine o_iand (pc' := 80)  X hx (hb hby d4_79) rfl rfl ?_
  refine o_ifP (P := (x0 &&& (16 : Int32)) = (0 : Int32)) (pc1 := 90) (pc2 := 83) X hx XT.i0_eq_t XT.i0_eq_f (hb hby d4_80) (by decide) (by decide) rfl (fun c27 => ?_) (fun c27 => ?_)
  · rw [if_pos c27] at hK
    exact b4_90_51 C X eT (One.val rfl) hz1 hz2 hz3 hz4 (One.val rfl) hK
  · rw [if_neg c27] at hK
    refine o_iload (pc' := 85) X hx (hb hby d4_83) rfl rfl ?_
    refine o_iload (pc' := 87) X hx (hb hby d4_85) rfl rfl ?_
    refine o_imul (pc' := 88) (z := (-408824225 : Int32)) X hx (hb hby d4_87) rfl (by decide) ?_
    refine o_istore (pc' := 90) (l' := #[.val (.int x0), z1, z2, z3, z4, .val (.int (1353309697 : Int32)), .val (.int (-408824225 : Int32))]) X hx (hb hby d4_88) rfl rfl ?_
    exact b4_90_52 C X eT (One.val rfl) hz1 hz2 hz3 hz4 (One.val rfl) hK

def f4_90_54 : Int32 := (129082719 : Int32)
set_option maxRecDepth 65536 in
set_option maxHeartbeats 40000000 in
theorem b4_90_54 (C : own_Cx p s m meth c Z ag method_5_code 7 "com/example/plumbline/plumbline/core/TextKeysSlotPinLaw" (some .int) "pow31") {T : State} {h : Heap} {z0 : Slot} {z1 : Slot} {z2 : Slot} {z3 : Slot} {z4 : Slot} {z5 : Slot} (X : Stand p l e R4 s m args below meth c T [] 0 0) (eT : T.heap = h) (hz0 : One z0) (hz1 : One z1) (hz2 : One z2) (hz3 : One z3) (hz4 : One z4) (hz5 : One z5) (hK : K (some (.int (f4_90_54))) h []) : own_Go p e below (own_Q s K cc4 ss4) T (mkF m 90 #[z0, z1, z2, z3, z4, z5, .val (.int (129082719 : Int32))] []) := by
  obtain ⟨hx, hZ, hw, hby, hml, hown, hret, hlk, hnm⟩ := id C
  unfold f4_90_54 at hK
  refine o_iload (pc' := 92) X hx (hb hby d4_90) rfl rfl ?_
  exact o_retI X hx hret hlk (hb hby d4_92) (by decide) (by decide) eT (hK)

def f4_90_55 : Int32 := (-254736545 : Int32)
set_option maxRecDepth 65536 in
set_option maxHeartbeats 40000000 in
theorem b4_90_55 (C : own_Cx p s m meth c Z ag method_5_code 7 "com/example/plumbline/plumbline/core/TextKeysSlotPinLaw" (some .int) "pow31") {T : State} {h : Heap} {z0 : Slot} {z1 : Slot} {z2 : Slot} {z3 : Slot} {z4 : Slot} {z5 : Slot} (X : Stand p l e R4 s m args below meth c T [] 0 0) (eT : T.heap = h) (hz0 : One z0) (hz1 : One z1) (hz2 : One z2) (hz3 : One z3) (hz4 : One z4) (hz5 : One z5) (hK : K (some (.int (f4_90_55))) h []) : own_Go p e below (own_Q s K cc4 ss4) T (mkF m 90 #[z0, z1, z2, z3, z4, z5, .val (.int (-254736545 : Int32))] []) := by
  obtain ⟨hx, hZ, hw, hby, hml, hown, hret, hlk, hnm⟩ := id C
  unfold f4_90_55 at hK
  refine o_iload (pc' := 92) X hx (hb hby d4_90) rfl rfl ?_
  exact o_retI X hx hret hlk (hb hby d4_92) (by decide) (by decide) eT (hK)

def f4_76_53 (x0 : Int32) : Int32 := (if (x0 &&& (16 : Int32)) = (0 : Int32) then f4_90_54 else f4_90_55)
set_option maxRecDepth 65536 in
set_option maxHeartbeats 40000000 in
theorem b4_76_53 (C : own_Cx p s m meth c Z ag method_5_code 7 "com/example/plumbline/plumbline/core/TextKeysSlotPinLaw" (some .int) "pow31") {T : State} {h : Heap} {z1 : Slot} {z2 : Slot} {z3 : Slot} {z4 : Slot} (x0 : Int32) (X : Stand p l e R4 s m args below meth c T [] 0 0) (eT : T.heap = h) (hz1 : One z1) (hz2 : One z2) (hz3 : One z3) (hz4 : One z4) (hK : K (some (.int (f4_76_53 x0))) h []) : own_Go p e below (own_Q s K cc4 ss4) T (mkF m 76 #[.val (.int x0), z1, z2, z3, z4, .val (.int (1353309697 : Int32)), .val (.int (129082719 : Int32))] []) := by
  obtain ⟨hx, hZ, hw, hby, hml, hown, hret, hlk, hnm⟩ := id C
  unfold f4_76_53 at hK
  refine o_iloadN (pc' := 77) X hx (hb hby d4_76) rfl rfl ?_
  refine o_bipush (pc' := 79) (x := (16 : Int32)) X hx (hb hby d4_77) (by decide) rfl ?_
  refine o_iand (pc' := 80)  X hx (hb hby d4_79) rfl rfl ?_
  refine o_ifP (P := (x0 &&& (16 : Int32)) = (0 : Int32)) (pc1 := 90) (pc2 := 83) X hx XT.i0_eq_t XT.i0_eq_f (hb hby d4_80) (by decide) (by decide) rfl (fun c28 => ?_) (fun c28 => ?_)
  · rw [if_pos c28] at hK
    exact b4_90_54 C X eT (One.val rfl) hz1 hz2 hz3 hz4 (One.val rfl) hK
  · rw [if_neg c28] at hK
    refine o_iload (pc' := 85) X hx (hb hby d4_83) rfl rfl ?_
    refine o_iload (pc' := 87) X hx (hb hby d4_85) rfl rfl ?_
    refine o_imul (pc' := 88) (z := (-254736545 : Int32)) X hx (hb hby d4_87) rfl (by decide) ?_
    refine o_istore (pc' := 90) (l' := #[.val (.int x0), z1, z2, z3, z4, .val (.int (1353309697 : Int32)), .val (.int (-254736545 : Int32))]) X hx (hb hby d4_88) rfl rfl ?_
    exact b4_90_55 C X eT (One.val rfl) hz1 hz2 hz3 hz4 (One.val rfl) hK

def f4_62_49 (x0 : Int32) : Int32 := (if (x0 &&& (8 : Int32)) = (0 : Int32) then (f4_76_50 x0) else (f4_76_53 x0))
set_option maxRecDepth 65536 in
set_option maxHeartbeats 40000000 in
theorem b4_62_49 (C : own_Cx p s m meth c Z ag method_5_code 7 "com/example/plumbline/plumbline/core/TextKeysSlotPinLaw" (some .int) "pow31") {T : State} {h : Heap} {z1 : Slot} {z2 : Slot} {z3 : Slot} (x0 : Int32) (X : Stand p l e R4 s m args below meth c T [] 0 0) (eT : T.heap = h) (hz1 : One z1) (hz2 : One z2) (hz3 : One z3) (hK : K (some (.int (f4_62_49 x0))) h []) : own_Go p e below (own_Q s K cc4 ss4) T (mkF m 62 #[.val (.int x0), z1, z2, z3, .val (.int (-1807454463 : Int32)), .val (.int (1353309697 : Int32)), .val (.int (29791 : Int32))] []) := by
  obtain ⟨hx, hZ, hw, hby, hml, hown, hret, hlk, hnm⟩ := id C
  unfold f4_62_49 at hK
  refine o_iloadN (pc' := 63) X hx (hb hby d4_62) rfl rfl ?_
  refine o_bipush (pc' := 65) (x := (8 : Int32)) X hx (hb hby d4_63) (by decide) rfl ?_
  refine o_iand (pc' := 66)  X hx (hb hby d4_65) rfl rfl ?_
  refine o_ifP (P := (x0 &&& (8 : Int32)) = (0 : Int32)) (pc1 := 76) (pc2 := 69) X hx XT.i0_eq_t XT.i0_eq_f (hb hby d4_66) (by decide) (by decide) rfl (fun c26 => ?_) (fun c26 => ?_)
  · rw [if_pos c26] at hK
    exact b4_76_50 C x0 X eT hz1 hz2 hz3 (One.val rfl) hK
  · rw [if_neg c26] at hK
    refine o_iload (pc' := 71) X hx (hb hby d4_69) rfl rfl ?_
    refine o_iload (pc' := 73) X hx (hb hby d4_71) rfl rfl ?_
    refine o_imul (pc' := 74) (z := (129082719 : Int32)) X hx (hb hby d4_73) rfl (by decide) ?_
    refine o_istore (pc' := 76) (l' := #[.val (.int x0), z1, z2, z3, .val (.int (-1807454463 : Int32)), .val (.int (1353309697 : Int32)), .val (.int (129082719 : Int32))]) X hx (hb hby d4_74) rfl rfl ?_
    exact b4_76_53 C x0 X eT hz1 hz2 hz3 (One.val rfl) hK

def f4_90_58 : Int32 := (1742810335 : Int32)
set_option maxRecDepth 65536 in
set_option maxHeartbeats 40000000 in
theorem b4_90_58 (C : own_Cx p s m meth c Z ag method_5_code 7 "com/example/plumbline/plumbline/core/TextKeysSlotPinLaw" (some .int) "pow31") {T : State} {h : Heap} {z0 : Slot} {z1 : Slot} {z2 : Slot} {z3 : Slot} {z4 : Slot} {z5 : Slot} (X : Stand p l e R4 s m args below meth c T [] 0 0) (eT : T.heap = h) (hz0 : One z0) (hz1 : One z1) (hz2 : One z2) (hz3 : One z3) (hz4 : One z4) (hz5 : One z5) (hK : K (some (.int (f4_90_58))) h []) : own_Go p e below (own_Q s K cc4 ss4) T (mkF m 90 #[z0, z1, z2, z3, z4, z5, .val (.int (1742810335 : Int32))] []) := by
  obtain ⟨hx, hZ, hw, hby, hml, hown, hret, hlk, hnm⟩ := id C
  unfold f4_90_58 at hK
  refine o_iload (pc' := 92) X hx (hb hby d4_90) rfl rfl ?_
  exact o_retI X hx hret hlk (hb hby d4_92) (by decide) (by decide) eT (hK)

def f4_90_59 : Int32 := (-67006753 : Int32)
set_option maxRecDepth 65536 in
set_option maxHeartbeats 40000000 in
theorem b4_90_59 (C : own_Cx p s m meth c Z ag method_5_code 7 "com/example/plumbline/plumbline/core/TextKeysSlotPinLaw" (some .int) "pow31") {T : State} {h : Heap} {z0 : Slot} {z1 : Slot} {z2 : Slot} {z3 : Slot} {z4 : Slot} {z5 : Slot} (X : Stand p l e R4 s m args below meth c T [] 0 0) (eT : T.heap = h) (hz0 : One z0) (hz1 : One z1) (hz2 : One z2) (hz3 : One z3) (hz4 : One z4) (hz5 : One z5) (hK : K (some (.int (f4_90_59))) h []) : own_Go p e below (own_Q s K cc4 ss4) T (mkF m 90 #[z0, z1, z2, z3, z4, z5, .val (.int (-67006753 : Int32))] []) := by
  obtain ⟨hx, hZ, hw, hby, hml, hown, hret, hlk, hnm⟩ := id C
  unfold f4_90_59 at hK
  refine o_iload (pc' := 92) X hx (hb hby d4_90) rfl rfl ?_
  exact o_retI X hx hret hlk (hb hby d4_92) (by decide) (by decide) eT (hK)

def f4_76_57 (x0 : Int32) : Int32 := (if (x0 &&& (16 : Int32)) = (0 : Int32) then f4_90_58 else f4_90_59)
set_option maxRecDepth 65536 in
set_option maxHeartbeats 40000000 in
theorem b4_76_57 (C : own_Cx p s m meth c Z ag method_5_code 7 "com/example/plumbline/plumbline/core/TextKeysSlotPinLaw" (some .int) "pow31") {T : State} {h : Heap} {z1 : Slot} {z2 : Slot} {z3 : Slot} {z4 : Slot} (x0 : Int32) (X : Stand p l e R4 s m args below meth c T [] 0 0) (eT : T.heap = h) (hz1 : One z1) (hz2 : One z2) (hz3 : One z3) (hz4 : One z4) (hK : K (some (.int (f4_76_57 x0))) h []) : own_Go p e below (own_Q s K cc4 ss4) T (mkF m 76 #[.val (.int x0), z1, z2, z3, z4, .val (.int (1353309697 : Int32)), .val (.int (1742810335 : Int32))] []) := by
  obtain ⟨hx, hZ, hw, hby, hml, hown, hret, hlk, hnm⟩ := id C
  unfold f4_76_57 at hK
  refine o_iloadN (pc' := 77) X hx (hb hby d4_76) rfl rfl ?_
  refine o_bipush (pc' := 79) (x := (16 : Int32)) X hx (hb hby d4_77) (by decide) rfl ?_
  refine o_iand (pc' := 80)  X hx (hb hby d4_79) rfl rfl ?_
  refine o_ifP (P := (x0 &&& (16 : Int32)) = (0 : Int32)) (pc1 := 90) (pc2 := 83) X hx XT.i0_eq_t XT.i0_eq_f (hb hby d4_80) (by decide) (by decide) rfl (fun c30 => ?_) (fun c30 => ?_)
  · rw [if_pos c30] at hK
    exact b4_90_58 C X eT (One.val rfl) hz1 hz2 hz3 hz4 (One.val rfl) hK
  · rw [if_neg c30] at hK
    refine o_iload (pc' := 85) X hx (hb hby d4_83) rfl rfl ?_
    refine o_iload (pc' := 87) X hx (hb hby d4_85) rfl rfl ?_
    refine o_imul (pc' := 88) (z := (-67006753 : Int32)) X hx (hb hby d4_87) rfl (by decide) ?_
    refine o_istore (pc' := 90) (l' := #[.val (.int x0), z1, z2, z3, z4, .val (.int (1353309697 : Int32)), .val (.int (-67006753 : Int32))]) X hx (hb hby d4_88) rfl rfl ?_
    exact b4_90_59 C X eT (One.val rfl) hz1 hz2 hz3 hz4 (One.val rfl) hK

def f4_90_61 : Int32 := (-510534177 : Int32)
set_option maxRecDepth 65536 in
set_option maxHeartbeats 40000000 in
theorem b4_90_61 (C : own_Cx p s m meth c Z ag method_5_code 7 "com/example/plumbline/plumbline/core/TextKeysSlotPinLaw" (some .int) "pow31") {T : State} {h : Heap} {z0 : Slot} {z1 : Slot} {z2 : Slot} {z3 : Slot} {z4 : Slot} {z5 : Slot} (X : Stand p l e R4 s m args below meth c T [] 0 0) (eT : T.heap = h) (hz0 : One z0) (hz1 : One z1) (hz2 : One z2) (hz3 : One z3) (hz4 : One z4) (hz5 : One z5) (hK : K (some (.int (f4_90_61))) h []) : own_Go p e below (own_Q s K cc4 ss4) T (mkF m 90 #[z0, z1, z2, z3, z4, z5, .val (.int (-510534177 : Int32))] []) := by
  obtain ⟨hx, hZ, hw, hby, hml, hown, hret, hlk, hnm⟩ := id C
  unfold f4_90_61 at hK
  refine o_iload (pc' := 92) X hx (hb hby d4_90) rfl rfl ?_
  exact o_retI X hx hret hlk (hb hby d4_92) (by decide) (by decide) eT (hK)

def f4_90_62 : Int32 := (-2010103841 : Int32)
set_option maxRecDepth 65536 in
set_option maxHeartbeats 40000000 in
theorem b4_90_62 (C : own_Cx p s m meth c Z ag method_5_code 7 "com/example/plumbline/plumbline/core/TextKeysSlotPinLaw" (some .int) "pow31") {T : State} {h : Heap} {z0 : Slot} {z1 : Slot} {z2 : Slot} {z3 : Slot} {z4 : Slot} {z5 : Slot} (X : Stand p l e R4 s m args below meth c T [] 0 0) (eT : T.heap = h) (hz0 : One z0) (hz1 : One z1) (hz2 : One z2) (hz3 : One z3) (hz4 : One z4) (hz5 : One z5) (hK : K (some (.int (f4_90_62))) h []) : own_Go p e below (own_Q s K cc4 ss4) T (mkF m 90 #[z0, z1, z2, z3, z4, z5, .val (.int (-2010103841 : Int32))] []) := by
  obtain ⟨hx, hZ, hw, hby, hml, hown, hret, hlk, hnm⟩ := id C
  unfold f4_90_62 at hK
  refine o_iload (pc' := 92) X hx (hb hby d4_90) rfl rfl ?_
  exact o_retI X hx hret hlk (hb hby d4_92) (by decide) (by decide) eT (hK)

def f4_76_60 (x0 : Int32) : Int32 := (if (x0 &&& (16 : Int32)) = (0 : Int32) then f4_90_61 else f4_90_62)
set_option maxRecDepth 65536 in
set_option maxHeartbeats 40000000 in
theorem b4_76_60 (C : own_Cx p s m meth c Z ag method_5_code 7 "com/example/plumbline/plumbline/core/TextKeysSlotPinLaw" (some .int) "pow31") {T : State} {h : Heap} {z1 : Slot} {z2 : Slot} {z3 : Slot} {z4 : Slot} (x0 : Int32) (X : Stand p l e R4 s m args below meth c T [] 0 0) (eT : T.heap = h) (hz1 : One z1) (hz2 : One z2) (hz3 : One z3) (hz4 : One z4) (hK : K (some (.int (f4_76_60 x0))) h []) : own_Go p e below (own_Q s K cc4 ss4) T (mkF m 76 #[.val (.int x0), z1, z2, z3, z4, .val (.int (1353309697 : Int32)), .val (.int (-510534177 : Int32))] []) := by
  obtain ⟨hx, hZ, hw, hby, hml, hown, hret, hlk, hnm⟩ := id C
  unfold f4_76_60 at hK
  refine o_iloadN (pc' := 77) X hx (hb hby d4_76) rfl rfl ?_
  refine o_bipush (pc' := 79) (x := (16 : Int32)) X hx (hb hby d4_77) (by decide) rfl ?_
  refine o_iand (pc' := 80)  X hx (hb hby d4_79) rfl rfl ?_
  refine o_ifP (P := (x0 &&& (16 : Int32)) = (0 : Int32)) (pc1 := 90) (pc2 := 83) X hx XT.i0_eq_t XT.i0_eq_f (hb hby d4_80) (by decide) (by decide) rfl (fun c31 => ?_) (fun c31 => ?_)
  · rw [if_pos c31] at hK
    exact b4_90_61 C X eT (One.val rfl) hz1 hz2 hz3 hz4 (One.val rfl) hK
  · rw [if_neg c31] at hK
    refine o_iload (pc' := 85) X hx (hb hby d4_83) rfl rfl ?_
    refine o_iload (pc' := 87) X hx (hb hby d4_85) rfl rfl ?_
    refine o_imul (pc' := 88) (z := (-2010103841 : Int32)) X hx (hb hby d4_87) rfl (by decide) ?_
    refine o_istore (pc' := 90) (l' := #[.val (.int x0), z1, z2, z3, z4, .val (.int (1353309697 : Int32)), .val (.int (-2010103841 : Int32))]) X hx (hb hby d4_88) rfl rfl ?_
    exact b4_90_62 C X eT (One.val rfl) hz1 hz2 hz3 hz4 (One.val rfl) hK

def f4_62_56 (x0 : Int32) : Int32 := (if (x0 &&& (8 : Int32)) = (0 : Int32) then (f4_76_57 x0) else (f4_76_60 x0))
set_option maxRecDepth 65536 in
set_option maxHeartbeats 40000000 in
theorem b4_62_56 (C : own_Cx p s m meth c Z ag method_5_code 7 "com/example/plumbline/plumbline/core/TextKeysSlotPinLaw" (some .int) "pow31") {T : State} {h : Heap} {z1 : Slot} {z2 : Slot} {z3 : Slot} (x0 : Int32) (X : Stand p l e R4 s m args below meth c T [] 0 0) (eT : T.heap = h) (hz1 : One z1) (hz2 : One z2) (hz3 : One z3) (hK : K (some (.int (f4_62_56 x0))) h []) : own_Go p e below (own_Q s K cc4 ss4) T (mkF m 62 #[.val (.int x0), z1, z2, z3, .val (.int (-1807454463 : Int32)), .val (.int (1353309697 : Int32)), .val (.int (1742810335 : Int32))] []) := by
  obtain ⟨hx, hZ, hw, hby, hml, hown, hret, hlk, hnm⟩ := id C
  unfold f4_62_56 at hK
  refine o_iloadN (pc' := 63) X hx (hb hby d4_62) rfl rfl ?_
  refine o_bipush (pc' := 65) (x := (8 : Int32)) X hx (hb hby d4_63) (by decide) rfl ?_
  refine o_iand (pc' := 66)  X hx (hb hby d4_65) rfl rfl ?_
  refine o_ifP (P := (x0 &&& (8 : Int32)) = (0 : Int32)) (pc1 := 76) (pc2 := 69) X hx XT.i0_eq_t XT.i0_eq_f (hb hby d4_66) (by decide) (by decide) rfl (fun c29 => ?_) (fun c29 => ?_)
  · rw [if_pos c29] at hK
    exact b4_76_57 C x0 X eT hz1 hz2 hz3 (One.val rfl) hK
  · rw [if_neg c29] at hK
    refine o_iload (pc' := 71) X hx (hb hby d4_69) rfl rfl ?_
    refine o_iload (pc' := 73) X hx (hb hby d4_71) rfl rfl ?_
    refine o_imul (pc' := 74) (z := (-510534177 : Int32)) X hx (hb hby d4_73) rfl (by decide) ?_
    refine o_istore (pc' := 76) (l' := #[.val (.int x0), z1, z2, z3, .val (.int (-1807454463 : Int32)), .val (.int (1353309697 : Int32)), .val (.int (-510534177 : Int32))]) X hx (hb hby d4_74) rfl rfl ?_
    exact b4_76_60 C x0 X eT hz1 hz2 hz3 (One.val rfl) hK

def f4_50_48 (x0 : Int32) : Int32 := (if (x0 &&& (4 : Int32)) = (0 : Int32) then (f4_62_49 x0) else (f4_62_56 x0))
set_option maxRecDepth 65536 in
set_option maxHeartbeats 40000000 in
theorem b4_50_48 (C : own_Cx p s m meth c Z ag method_5_code 7 "com/example/plumbline/plumbline/core/TextKeysSlotPinLaw" (some .int) "pow31") {T : State} {h : Heap} {z1 : Slot} {z2 : Slot} (x0 : Int32) (X : Stand p l e R4 s m args below meth c T [] 0 0) (eT : T.heap = h) (hz1 : One z1) (hz2 : One z2) (hK : K (some (.int (f4_50_48 x0))) h []) : own_Go p e below (own_Q s K cc4 ss4) T (mkF m 50 #[.val (.int x0), z1, z2, .val (.int (923521 : Int32)), .val (.int (-1807454463 : Int32)), .val (.int (1353309697 : Int32)), .val (.int (29791 : Int32))] []) := by
  obtain ⟨hx, hZ, hw, hby, hml, hown, hret, hlk, hnm⟩ := id C
  unfold f4_50_48 at hK
  refine o_iloadN (pc' := 51) X hx (hb hby d4_50) rfl rfl ?_
  refine o_iconst (pc' := 52) (x := (4 : Int32)) X hx (hb hby d4_51) (by decide) rfl ?_
  refine o_iand (pc' := 53)  X hx (hb hby d4_52) rfl rfl ?_
  refine o_ifP (P := (x0 &&& (4 : Int32)) = (0 : Int32)) (pc1 := 62) (pc2 := 56) X hx XT.i0_eq_t XT.i0_eq_f (hb hby d4_53) (by decide) (by decide) rfl (fun c25 => ?_) (fun c25 => ?_)
  · rw [if_pos c25] at hK
    exact b4_62_49 C x0 X eT hz1 hz2 (One.val rfl) hK
  · rw [if_neg c25] at hK
    refine o_iload (pc' := 58) X hx (hb hby d4_56) rfl rfl ?_
    refine o_iloadN (pc' := 59) X hx (hb hby d4_58) rfl rfl ?_
    refine o_imul (pc' := 60) (z := (1742810335 : Int32)) X hx (hb hby d4_59) rfl (by decide) ?_
    refine o_istore (pc' := 62) (l' := #[.val (.int x0), z1, z2, .val (.int (923521 : Int32)), .val (.int (-1807454463 : Int32)), .val (.int (1353309697 : Int32)), .val (.int (1742810335 : Int32))]) X hx (hb hby d4_60) rfl rfl ?_
    exact b4_62_56 C x0 X eT hz1 hz2 (One.val rfl) hK

def f4_38_32 (x0 : Int32) : Int32 := (if (x0 &&& (2 : Int32)) = (0 : Int32) then (f4_50_33 x0) else (f4_50_48 x0))
set_option maxRecDepth 65536 in
set_option maxHeartbeats 40000000 in
theorem b4_38_32 (C : own_Cx p s m meth c Z ag method_5_code 7 "com/example/plumbline/plumbline/core/TextKeysSlotPinLaw" (some .int) "pow31") {T : State} {h : Heap} {z1 : Slot} (x0 : Int32) (X : Stand p l e R4 s m args below meth c T [] 0 0) (eT : T.heap = h) (hz1 : One z1) (hK : K (some (.int (f4_38_32 x0))) h []) : own_Go p e below (own_Q s K cc4 ss4) T (mkF m 38 #[.val (.int x0), z1, .val (.int (961 : Int32)), .val (.int (923521 : Int32)), .val (.int (-1807454463 : Int32)), .val (.int (1353309697 : Int32)), .val (.int (31 : Int32))] []) := by
  obtain ⟨hx, hZ, hw, hby, hml, hown, hret, hlk, hnm⟩ := id C
  unfold f4_38_32 at hK
  refine o_iloadN (pc' := 39) X hx (hb hby d4_38) rfl rfl ?_
  refine o_iconst (pc' := 40) (x := (2 : Int32)) X hx (hb hby d4_39) (by decide) rfl ?_
  refine o_iand (pc' := 41)  X hx (hb hby d4_40) rfl rfl ?_
  refine o_ifP (P := (x0 &&& (2 : Int32)) = (0 : Int32)) (pc1 := 50) (pc2 := 44) X hx XT.i0_eq_t XT.i0_eq_f (hb hby d4_41) (by decide) (by decide) rfl (fun c17 => ?_) (fun c17 => ?_)
  · rw [if_pos c17] at hK
    exact b4_50_33 C x0 X eT hz1 (One.val rfl) hK
  · rw [if_neg c17] at hK
    refine o_iload (pc' := 46) X hx (hb hby d4_44) rfl rfl ?_
    refine o_iloadN (pc' := 47) X hx (hb hby d4_46) rfl rfl ?_
    refine o_imul (pc' := 48) (z := (29791 : Int32)) X hx (hb hby d4_47) rfl (by decide) ?_
    refine o_istore (pc' := 50) (l' := #[.val (.int x0), z1, .val (.int (961 : Int32)), .val (.int (923521 : Int32)), .val (.int (-1807454463 : Int32)), .val (.int (1353309697 : Int32)), .val (.int (29791 : Int32))]) X hx (hb hby d4_48) rfl rfl ?_
    exact b4_50_48 C x0 X eT hz1 (One.val rfl) hK

def f4_0 (p0 : Int32) : Int32 := (if (p0 &&& (1 : Int32)) = (0 : Int32) then (f4_38 p0) else (f4_38_32 p0))
set_option maxRecDepth 65536 in
set_option maxHeartbeats 40000000 in
theorem b4_0 (C : own_Cx p s m meth c Z ag method_5_code 7 "com/example/plumbline/plumbline/core/TextKeysSlotPinLaw" (some .int) "pow31") {T : State} {h : Heap} (p0 : Int32) (X : Stand p l e R4 s m args below meth c T [] 0 0) (eT : T.heap = h) (hK : K (some (.int (f4_0 p0))) h []) : own_Go p e below (own_Q s K cc4 ss4) T (mkF m 0 #[.val (.int p0), .unset, .unset, .unset, .unset, .unset, .unset] []) := by
  obtain ⟨hx, hZ, hw, hby, hml, hown, hret, hlk, hnm⟩ := id C
  unfold f4_0 at hK
  refine o_bipush (pc' := 2) (x := (31 : Int32)) X hx (hb hby d4_0) (by decide) rfl ?_
  refine o_istoreN (pc' := 3) (l' := #[.val (.int p0), .val (.int (31 : Int32)), .unset, .unset, .unset, .unset, .unset]) X hx (hb hby d4_2) rfl rfl ?_
  refine o_iloadN (pc' := 4) X hx (hb hby d4_3) rfl rfl ?_
  refine o_iloadN (pc' := 5) X hx (hb hby d4_4) rfl rfl ?_
  refine o_imul (pc' := 6) (z := (961 : Int32)) X hx (hb hby d4_5) rfl (by decide) ?_
  refine o_istoreN (pc' := 7) (l' := #[.val (.int p0), .val (.int (31 : Int32)), .val (.int (961 : Int32)), .unset, .unset, .unset, .unset]) X hx (hb hby d4_6) rfl rfl ?_
  refine o_iloadN (pc' := 8) X hx (hb hby d4_7) rfl rfl ?_
  refine o_iloadN (pc' := 9) X hx (hb hby d4_8) rfl rfl ?_
  refine o_imul (pc' := 10) (z := (923521 : Int32)) X hx (hb hby d4_9) rfl (by decide) ?_
  refine o_istoreN (pc' := 11) (l' := #[.val (.int p0), .val (.int (31 : Int32)), .val (.int (961 : Int32)), .val (.int (923521 : Int32)), .unset, .unset, .unset]) X hx (hb hby d4_10) rfl rfl ?_
  refine o_iloadN (pc' := 12) X hx (hb hby d4_11) rfl rfl ?_
  refine o_iloadN (pc' := 13) X hx (hb hby d4_12) rfl rfl ?_
  refine o_imul (pc' := 14) (z := (-1807454463 : Int32)) X hx (hb hby d4_13) rfl (by decide) ?_
  refine o_istore (pc' := 16) (l' := #[.val (.int p0), .val (.int (31 : Int32)), .val (.int (961 : Int32)), .val (.int (923521 : Int32)), .val (.int (-1807454463 : Int32)), .unset, .unset]) X hx (hb hby d4_14) rfl rfl ?_
  refine o_iload (pc' := 18) X hx (hb hby d4_16) rfl rfl ?_
  refine o_iload (pc' := 20) X hx (hb hby d4_18) rfl rfl ?_
  refine o_imul (pc' := 21) (z := (1353309697 : Int32)) X hx (hb hby d4_20) rfl (by decide) ?_
  refine o_istore (pc' := 23) (l' := #[.val (.int p0), .val (.int (31 : Int32)), .val (.int (961 : Int32)), .val (.int (923521 : Int32)), .val (.int (-1807454463 : Int32)), .val (.int (1353309697 : Int32)), .unset]) X hx (hb hby d4_21) rfl rfl ?_
  refine o_iconst (pc' := 24) (x := (1 : Int32)) X hx (hb hby d4_23) (by decide) rfl ?_
  refine o_istore (pc' := 26) (l' := #[.val (.int p0), .val (.int (31 : Int32)), .val (.int (961 : Int32)), .val (.int (923521 : Int32)), .val (.int (-1807454463 : Int32)), .val (.int (1353309697 : Int32)), .val (.int (1 : Int32))]) X hx (hb hby d4_24) rfl rfl ?_
  refine o_iloadN (pc' := 27) X hx (hb hby d4_26) rfl rfl ?_
  refine o_iconst (pc' := 28) (x := (1 : Int32)) X hx (hb hby d4_27) (by decide) rfl ?_
  refine o_iand (pc' := 29)  X hx (hb hby d4_28) rfl rfl ?_
  refine o_ifP (P := (p0 &&& (1 : Int32)) = (0 : Int32)) (pc1 := 38) (pc2 := 32) X hx XT.i0_eq_t XT.i0_eq_f (hb hby d4_29) (by decide) (by decide) rfl (fun c1 => ?_) (fun c1 => ?_)
  · rw [if_pos c1] at hK
    exact b4_38 C p0 X eT (One.val rfl) hK
  · rw [if_neg c1] at hK
    refine o_iload (pc' := 34) X hx (hb hby d4_32) rfl rfl ?_
    refine o_iloadN (pc' := 35) X hx (hb hby d4_34) rfl rfl ?_
    refine o_imul (pc' := 36) (z := (31 : Int32)) X hx (hb hby d4_35) rfl (by decide) ?_
    refine o_istore (pc' := 38) (l' := #[.val (.int p0), .val (.int (31 : Int32)), .val (.int (961 : Int32)), .val (.int (923521 : Int32)), .val (.int (-1807454463 : Int32)), .val (.int (1353309697 : Int32)), .val (.int (31 : Int32))]) X hx (hb hby d4_36) rfl rfl ?_
    exact b4_38_32 C p0 X eT (One.val rfl) hK

end Body4
theorem ef_4 (m : MethodId) (p0 : Int32) : entryFrame m #[(.int p0)] 7 = mkF m 0 #[.val (.int p0), .unset, .unset, .unset, .unset, .unset, .unset] [] := by first | (simp [entryFrame, mkF, argsToLocals, Value.category]; done) | rfl
set_option maxRecDepth 65536 in
set_option maxHeartbeats 40000000 in
theorem rm4 (l : Launch) (Z : State) (ag : Array Value) (hw : ∀ d ∈ tables_1, d.before ag Z = true) (ws : List Jvm.Cond) (p0 : Int32) (h0 : Heap) :
    MetFree l (⟨"com/example/plumbline/plumbline/core/TextKeysSlotPinLaw", "pow31", "(I)I"⟩ : MethodName) (head1 (Jvm.Cond.code (⟨"com/example/plumbline/plumbline/core/TextKeysSlotPinLaw", "pow31", "(I)I"⟩ : MethodName) method_5_code 7 (some .int) :: ws) R4) (fun a U => a = #[(.int p0)] ∧ Z.Warmed39 U.vm ∧ U.heap = h0) (fun _ _ _ _ _ => True) (fun _ U o U' => ∃ v L, o = .returned v ∧ own_KP (some (.int (f4_0 p0))) h0 v U'.heap L ∧ FrameEnd U o U' L R4.cells R4.slots) := by
  refine MetFree.of_bodySF (plainFor_of_name pn_TextKeysSlotPinLaw) hisR ?_
  intro p e s m args below meth c s₁ Bd hml0 hP hK
  obtain ⟨rfl, hZ, hh⟩ := hP
  have C : own_Cx p s m meth c Z ag method_5_code 7 "com/example/plumbline/plumbline/core/TextKeysSlotPinLaw" (some .int) "pow31" := ⟨Bd.exec, hZ, hw, Bd.bytes, hml0, findClass_of_methodNamed Bd.named, Bd.returns, Bd.notSynchronized, (name_of_methodNamed Bd.named Bd.method).1⟩
  have X0 : Stand p l e R4 s m #[(.int p0)] below meth c s₁ [] 0 0 := Stand.of_body Bd
  have e0 : s₁.heap = h0 := by rw [← hh, Bd.state]; rfl
  rw [ef_4]
  exact b4_0 (K := own_KP (some (.int (f4_0 p0))) h0) C p0 X0 e0 ⟨rfl, rfl, rfl⟩

theorem d3_0 : decode method_4_code 0 = .ok (.iload_n 1, 1) := by decide +kernel
theorem d3_1 : decode method_4_code 1 = .ok (.iload_n 2, 1) := by decide +kernel
theorem d3_2 : decode method_4_code 2 = .ok (.if_icmp .lt 10, 3) := by decide +kernel
theorem d3_5 : decode method_4_code 5 = .ok (.iload_n 1, 1) := by decide +kernel
theorem d3_6 : decode method_4_code 6 = .ok (.iload_n 2, 1) := by decide +kernel
theorem d3_7 : decode method_4_code 7 = .ok (.iload_n 3, 1) := by decide +kernel
theorem d3_8 : decode method_4_code 8 = .ok (.iadd, 1) := by decide +kernel
theorem d3_9 : decode method_4_code 9 = .ok (.if_icmp .lt 5, 3) := by decide +kernel
theorem d3_12 : decode method_4_code 12 = .ok (.iconst 0, 1) := by decide +kernel
theorem d3_13 : decode method_4_code 13 = .ok (.ireturn, 1) := by decide +kernel
theorem d3_14 : decode method_4_code 14 = .ok (.aload_n 0, 1) := by decide +kernel
theorem d3_15 : decode method_4_code 15 = .ok (.iload_n 1, 1) := by decide +kernel
theorem d3_16 : decode method_4_code 16 = .ok (.baload, 1) := by decide +kernel
theorem d3_17 : decode method_4_code 17 = .ok (.iload_n 2, 1) := by decide +kernel
theorem d3_18 : decode method_4_code 18 = .ok (.iload_n 3, 1) := by decide +kernel
theorem d3_19 : decode method_4_code 19 = .ok (.iadd, 1) := by decide +kernel
theorem d3_20 : decode method_4_code 20 = .ok (.iconst 1, 1) := by decide +kernel
theorem d3_21 : decode method_4_code 21 = .ok (.isub, 1) := by decide +kernel
theorem d3_22 : decode method_4_code 22 = .ok (.iload_n 1, 1) := by decide +kernel
theorem d3_23 : decode method_4_code 23 = .ok (.isub, 1) := by decide +kernel
theorem d3_24 : decode method_4_code 24 = .ok (.invokestatic 24, 3) := by decide +kernel
theorem d3_27 : decode method_4_code 27 = .ok (.imul, 1) := by decide +kernel
theorem d3_28 : decode method_4_code 28 = .ok (.ireturn, 1) := by decide +kernel
section Body3
variable {p : Program} {l : Launch} {e : Env} {s : State} {m : MethodId} {args : Array Value} {below : List Frame} {meth : Method} {c : Code} {Z : State} {ag : Array Value} {K : Option Value → Heap → List Loc → Prop}
abbrev R3 : Room := { frames := 1, cells := 0, slots := 0, locals := 19 }
abbrev cc3 : Nat := 0
abbrev ss3 : Nat := 0
def f3_12 : Int32 := (0 : Int32)
set_option maxRecDepth 65536 in
set_option maxHeartbeats 40000000 in
theorem b3_12 (C : own_Cx p s m meth c Z ag method_4_code 4 "com/example/plumbline/plumbline/core/TextKeysSlotPinLaw" (some .int) "t") {T : State} {h : Heap} {z0 : Slot} {z1 : Slot} {z2 : Slot} {z3 : Slot} (X : Stand p l e R3 s m args below meth c T [] 0 0) (eT : T.heap = h) (hz0 : One z0) (hz1 : One z1) (hz2 : One z2) (hz3 : One z3) (hK : K (some (.int (f3_12))) h []) : own_Go p e below (own_Q s K cc3 ss3) T (mkF m 12 #[z0, z1, z2, z3] []) := by
  obtain ⟨hx, hZ, hw, hby, hml, hown, hret, hlk, hnm⟩ := id C
  unfold f3_12 at hK
  refine o_iconst (pc' := 13) (x := (0 : Int32)) X hx (hb hby d3_12) (by decide) rfl ?_
  exact o_retI X hx hret hlk (hb hby d3_13) (by decide) (by decide) eT (hK)

def f3_0 (v0 : List Int32) (p1 : Int32) (p2 : Int32) (p3 : Int32) : Int32 := (if p1 < p2 then f3_12 else (if p1 < (p2 + p3) then ((own_get v0 p1) * (f4_0 (((p2 + p3) - (1 : Int32)) - p1))) else f3_12))
def s3_0 (v0 : List Int32) (p1 : Int32) (p2 : Int32) (p3 : Int32) : Prop := ((p1 < p2 → True) ∧ (¬ (p1 < p2) → ((p1 < (p2 + p3) → (own_in v0.length p1 ∧ True)) ∧ (¬ (p1 < (p2 + p3)) → True))))
set_option maxRecDepth 65536 in
set_option maxHeartbeats 40000000 in
theorem b3_0 (C : own_Cx p s m meth c Z ag method_4_code 4 "com/example/plumbline/plumbline/core/TextKeysSlotPinLaw" (some .int) "t") {T : State} {h : Heap} (a0 : Addr) (v0 : List Int32) (p1 : Int32) (p2 : Int32) (p3 : Int32) (X : Stand p l e R3 s m args below meth c T [] 0 0) (eT : T.heap = h) (Aa0 : own_AI Z h a0 .byte v0) (hs : s3_0 v0 p1 p2 p3) (hK : K (some (.int (f3_0 v0 p1 p2 p3))) h []) : own_Go p e below (own_Q s K cc3 ss3) T (mkF m 0 #[.val (.ref a0), .val (.int p1), .val (.int p2), .val (.int p3)] []) := by
  obtain ⟨hx, hZ, hw, hby, hml, hown, hret, hlk, hnm⟩ := id C
  unfold f3_0 at hK
  unfold s3_0 at hs
  refine o_iloadN (pc' := 1) X hx (hb hby d3_0) rfl rfl ?_
  refine o_iloadN (pc' := 2) X hx (hb hby d3_1) rfl rfl ?_
  refine o_icP (P := p1 < p2) (pc1 := 12) (pc2 := 5) X hx XT.ii_lt_t XT.ii_lt_f (hb hby d3_2) (by decide) (by decide) rfl (fun c32 => ?_) (fun c32 => ?_)
  · rw [if_pos c32] at hK
    exact b3_12 C X eT (One.val rfl) (One.val rfl) (One.val rfl) (One.val rfl) hK
  · rw [if_neg c32] at hK
    refine o_iloadN (pc' := 6) X hx (hb hby d3_5) rfl rfl ?_
    refine o_iloadN (pc' := 7) X hx (hb hby d3_6) rfl rfl ?_
    refine o_iloadN (pc' := 8) X hx (hb hby d3_7) rfl rfl ?_
    refine o_iadd (pc' := 9)  X hx (hb hby d3_8) rfl rfl ?_
    refine o_icP (P := p1 < (p2 + p3)) (pc1 := 14) (pc2 := 12) X hx XT.ii_lt_t XT.ii_lt_f (hb hby d3_9) (by decide) (by decide) rfl (fun c33 => ?_) (fun c33 => ?_)
    · rw [if_pos c33] at hK
      refine o_aloadN (pc' := 15) X hx (hb hby d3_14) rfl rfl rfl ?_
      refine o_iloadN (pc' := 16) X hx (hb hby d3_15) rfl rfl ?_
      refine o_baload (pc' := 17)  X hx hZ eT Aa0 ((hs.2 c32).1 c33).1 (hb hby d3_16) rfl rfl ?_
      refine o_iloadN (pc' := 18) X hx (hb hby d3_17) rfl rfl ?_
      refine o_iloadN (pc' := 19) X hx (hb hby d3_18) rfl rfl ?_
      refine o_iadd (pc' := 20)  X hx (hb hby d3_19) rfl rfl ?_
      refine o_iconst (pc' := 21) (x := (1 : Int32)) X hx (hb hby d3_20) (by decide) rfl ?_
      refine o_isub (pc' := 22)  X hx (hb hby d3_21) rfl rfl ?_
      refine o_iloadN (pc' := 23) X hx (hb hby d3_22) rfl rfl ?_
      refine o_isub (pc' := 24)  X hx (hb hby d3_23) rfl rfl ?_
      refine o_callP (W := 1) (pc' := 27) (argsL := [(.int (((p2 + p3) - (1 : Int32)) - p1))]) (rest := [(.int (own_get v0 p1))]) (st' := [(.int (f4_0 (((p2 + p3) - (1 : Int32)) - p1))), (.int (own_get v0 p1))]) X hx hZ eT hown (hw _ (List.mem_of_getElem? (i := 14) rfl)) (hw _ (List.mem_of_getElem? (i := 15) rfl)) (hw _ (List.mem_of_getElem? (i := 4) rfl)) (hw _ (List.mem_of_getElem? (i := 16) rfl)) (by decide) (rm4 l Z ag hw [] (((p2 + p3) - (1 : Int32)) - p1) h) (by decide) (by decide) (by rw [hml]; rfl) pd_0 rfl rfl rfl rfl (hb hby d3_24) rfl rfl rfl (by decide) (by decide) rfl fun T34 X34 e34 => ?_
      refine o_imul (pc' := 28)  X34 hx (hb hby d3_27) rfl rfl ?_
      exact o_retI X34 hx hret hlk (hb hby d3_28) (by decide) (by decide) e34 (hK)
    · rw [if_neg c33] at hK
      exact b3_12 C X eT (One.val rfl) (One.val rfl) (One.val rfl) (One.val rfl) hK

end Body3
theorem ef_3 (m : MethodId) (a0 : Addr) (p1 : Int32) (p2 : Int32) (p3 : Int32) : entryFrame m #[(.ref a0), (.int p1), (.int p2), (.int p3)] 4 = mkF m 0 #[.val (.ref a0), .val (.int p1), .val (.int p2), .val (.int p3)] [] := by first | (simp [entryFrame, mkF, argsToLocals, Value.category]; done) | rfl
set_option maxRecDepth 65536 in
set_option maxHeartbeats 40000000 in
theorem rm3 (l : Launch) (Z : State) (ag : Array Value) (hw : ∀ d ∈ tables_1, d.before ag Z = true) (ws : List Jvm.Cond) (a0 : Addr) (v0 : List Int32) (p1 : Int32) (p2 : Int32) (p3 : Int32) (h0 : Heap) (Aa0 : own_AI Z h0 a0 .byte v0) (hs : s3_0 v0 p1 p2 p3) :
    MetFree l (⟨"com/example/plumbline/plumbline/core/TextKeysSlotPinLaw", "t", "([BIII)I"⟩ : MethodName) (head1 (Jvm.Cond.code (⟨"com/example/plumbline/plumbline/core/TextKeysSlotPinLaw", "t", "([BIII)I"⟩ : MethodName) method_4_code 4 (some .int) :: ws) R3) (fun a U => a = #[(.ref a0), (.int p1), (.int p2), (.int p3)] ∧ Z.Warmed39 U.vm ∧ U.heap = h0) (fun _ _ _ _ _ => True) (fun _ U o U' => ∃ v L, o = .returned v ∧ own_KP (some (.int (f3_0 v0 p1 p2 p3))) h0 v U'.heap L ∧ FrameEnd U o U' L R3.cells R3.slots) := by
  refine MetFree.of_bodySF (plainFor_of_name pn_TextKeysSlotPinLaw) hisR ?_
  intro p e s m args below meth c s₁ Bd hml0 hP hK
  obtain ⟨rfl, hZ, hh⟩ := hP
  have C : own_Cx p s m meth c Z ag method_4_code 4 "com/example/plumbline/plumbline/core/TextKeysSlotPinLaw" (some .int) "t" := ⟨Bd.exec, hZ, hw, Bd.bytes, hml0, findClass_of_methodNamed Bd.named, Bd.returns, Bd.notSynchronized, (name_of_methodNamed Bd.named Bd.method).1⟩
  have X0 : Stand p l e R3 s m #[(.ref a0), (.int p1), (.int p2), (.int p3)] below meth c s₁ [] 0 0 := Stand.of_body Bd
  have e0 : s₁.heap = h0 := by rw [← hh, Bd.state]; rfl
  rw [ef_3]
  exact b3_0 (K := own_KP (some (.int (f3_0 v0 p1 p2 p3))) h0) C a0 v0 p1 p2 p3 X0 e0 Aa0 hs ⟨rfl, rfl, rfl⟩

theorem d2_0 : decode prog_57_method_4_code 0 = .ok (.iload_n 2, 1) := by decide +kernel
theorem d2_1 : decode prog_57_method_4_code 1 = .ok (.istore_n 3, 1) := by decide +kernel
theorem d2_2 : decode prog_57_method_4_code 2 = .ok (.iconst 0, 1) := by decide +kernel
theorem d2_3 : decode prog_57_method_4_code 3 = .ok (.istore 4, 2) := by decide +kernel
theorem d2_5 : decode prog_57_method_4_code 5 = .ok (.iload 4, 2) := by decide +kernel
theorem d2_7 : decode prog_57_method_4_code 7 = .ok (.iload_n 2, 1) := by decide +kernel
theorem d2_8 : decode prog_57_method_4_code 8 = .ok (.if_icmp .ge 21, 3) := by decide +kernel
theorem d2_11 : decode prog_57_method_4_code 11 = .ok (.bipush 31, 2) := by decide +kernel
theorem d2_13 : decode prog_57_method_4_code 13 = .ok (.iload_n 3, 1) := by decide +kernel
theorem d2_14 : decode prog_57_method_4_code 14 = .ok (.imul, 1) := by decide +kernel
theorem d2_15 : decode prog_57_method_4_code 15 = .ok (.aload_n 0, 1) := by decide +kernel
theorem d2_16 : decode prog_57_method_4_code 16 = .ok (.iload_n 1, 1) := by decide +kernel
theorem d2_17 : decode prog_57_method_4_code 17 = .ok (.iload 4, 2) := by decide +kernel
theorem d2_19 : decode prog_57_method_4_code 19 = .ok (.iadd, 1) := by decide +kernel
theorem d2_20 : decode prog_57_method_4_code 20 = .ok (.baload, 1) := by decide +kernel
theorem d2_21 : decode prog_57_method_4_code 21 = .ok (.iadd, 1) := by decide +kernel
theorem d2_22 : decode prog_57_method_4_code 22 = .ok (.istore_n 3, 1) := by decide +kernel
theorem d2_23 : decode prog_57_method_4_code 23 = .ok (.iinc 4 1, 3) := by decide +kernel
theorem d2_26 : decode prog_57_method_4_code 26 = .ok (.goto (-21), 3) := by decide +kernel
theorem d2_29 : decode prog_57_method_4_code 29 = .ok (.iload_n 3, 1) := by decide +kernel
theorem d2_30 : decode prog_57_method_4_code 30 = .ok (.ldc 33, 2) := by decide +kernel
theorem d2_32 : decode prog_57_method_4_code 32 = .ok (.imul, 1) := by decide +kernel
theorem d2_33 : decode prog_57_method_4_code 33 = .ok (.bipush 22, 2) := by decide +kernel
theorem d2_35 : decode prog_57_method_4_code 35 = .ok (.iushr, 1) := by decide +kernel
theorem d2_36 : decode prog_57_method_4_code 36 = .ok (.ireturn, 1) := by decide +kernel
section Body2
variable {p : Program} {l : Launch} {e : Env} {s : State} {m : MethodId} {args : Array Value} {below : List Frame} {meth : Method} {c : Code} {Z : State} {ag : Array Value} {K : Option Value → Heap → List Loc → Prop}
abbrev R2 : Room := { frames := 0, cells := 0, slots := 0, locals := 0 }
abbrev cc2 : Nat := 0
abbrev ss2 : Nat := 0
def f2_5 : Nat → List Int32 → Int32 → Int32 → Int32 → Int32 → Int32
  | 0, _, _, _, _, _ => 0
  | n + 1, v0, x1, x2, x3, x4 => (if x4 < x2 then (f2_5 n v0 x1 x2 (((31 : Int32) * x3) + (own_get v0 (x1 + x4))) (x4 + (1 : Int32))) else (own_ushr (x3 * (-1640531527 : Int32)) (22 : Int32)))
def s2_5 : Nat → List Int32 → Int32 → Int32 → Int32 → Int32 → Prop
  | 0, _, _, _, _, _ => False
  | n + 1, v0, x1, x2, x3, x4 => ((x4 < x2 → (own_in v0.length (x1 + x4) ∧ s2_5 n v0 x1 x2 (((31 : Int32) * x3) + (own_get v0 (x1 + x4))) (x4 + (1 : Int32)))) ∧ (¬ (x4 < x2) → True))
set_option maxRecDepth 65536 in
set_option maxHeartbeats 40000000 in
theorem b2_5 (C : own_Cx p s m meth c Z ag prog_57_method_4_code 5 "com/example/plumbline/plumbline/core/TextKeys" (some .int) "slot") :
    ∀ (n : Nat) {T : State} {h : Heap} (a0 : Addr) (v0 : List Int32) (x1 : Int32) (x2 : Int32) (x3 : Int32) (x4 : Int32) (X : Stand p l e R2 s m args below meth c T [] 0 0) (eT : T.heap = h) (Aa0 : own_AI Z h a0 .byte v0) (hs : s2_5 n v0 x1 x2 x3 x4) (hK : K (some (.int (f2_5 n v0 x1 x2 x3 x4))) h []), own_Go p e below (own_Q s K cc2 ss2) T (mkF m 5 #[.val (.ref a0), .val (.int x1), .val (.int x2), .val (.int x3), .val (.int x4)] []) := by
  intro n
  induction n with
  | zero => intros; rename_i hs _; exact hs.elim
  | succ n ih =>
    intro T h a0 v0 x1 x2 x3 x4 X eT Aa0 hs hK
    obtain ⟨hx, hZ, hw, hby, hml, hown, hret, hlk, hnm⟩ := id C
    unfold f2_5 at hK
    unfold s2_5 at hs
    refine o_iload (pc' := 7) X hx (hb hby d2_5) rfl rfl ?_
    refine o_iloadN (pc' := 8) X hx (hb hby d2_7) rfl rfl ?_
    refine o_icN (P := x4 < x2) (pc1 := 29) (pc2 := 11) X hx XT.ii_ge_f XT.ii_ge_t (hb hby d2_8) (by decide) (by decide) rfl (fun c35 => ?_) (fun c35 => ?_)
    · rw [if_neg c35] at hK
      refine o_iloadN (pc' := 30) X hx (hb hby d2_29) rfl rfl ?_
      refine o_ldcI (pc' := 32) X hx hZ hown (hw _ (List.mem_of_getElem? (i := 10) rfl)) (hb hby d2_30) rfl ?_
      refine o_imul (pc' := 33)  X hx (hb hby d2_32) rfl rfl ?_
      refine o_bipush (pc' := 35) (x := (22 : Int32)) X hx (hb hby d2_33) (by decide) rfl ?_
      refine o_iushr (pc' := 36)  X hx (hb hby d2_35) rfl rfl ?_
      exact o_retI X hx hret hlk (hb hby d2_36) (by decide) (by decide) eT (hK)
    · rw [if_pos c35] at hK
      refine o_bipush (pc' := 13) (x := (31 : Int32)) X hx (hb hby d2_11) (by decide) rfl ?_
      refine o_iloadN (pc' := 14) X hx (hb hby d2_13) rfl rfl ?_
      refine o_imul (pc' := 15)  X hx (hb hby d2_14) rfl rfl ?_
      refine o_aloadN (pc' := 16) X hx (hb hby d2_15) rfl rfl rfl ?_
      refine o_iloadN (pc' := 17) X hx (hb hby d2_16) rfl rfl ?_
      refine o_iload (pc' := 19) X hx (hb hby d2_17) rfl rfl ?_
      refine o_iadd (pc' := 20)  X hx (hb hby d2_19) rfl rfl ?_
      refine o_baload (pc' := 21)  X hx hZ eT Aa0 (hs.1 c35).1 (hb hby d2_20) rfl rfl ?_
      refine o_iadd (pc' := 22)  X hx (hb hby d2_21) rfl rfl ?_
      refine o_istoreN (pc' := 23) (l' := #[.val (.ref a0), .val (.int x1), .val (.int x2), .val (.int (((31 : Int32) * x3) + (own_get v0 (x1 + x4)))), .val (.int x4)]) X hx (hb hby d2_22) rfl rfl ?_
      refine o_iinc (pc' := 26) (y := (x4 + (1 : Int32))) (l' := #[.val (.ref a0), .val (.int x1), .val (.int x2), .val (.int (((31 : Int32) * x3) + (own_get v0 (x1 + x4)))), .val (.int (x4 + (1 : Int32)))]) X hx (hb hby d2_23) rfl rfl rfl rfl ?_
      refine o_goto (pc' := 5) X hx (hb hby d2_26) (by decide) (by decide) ?_
      exact ih a0 v0 x1 x2 (((31 : Int32) * x3) + (own_get v0 (x1 + x4))) (x4 + (1 : Int32)) X eT Aa0 (hs.1 c35).2 hK

def f2_0 (v0 : List Int32) (p1 : Int32) (p2 : Int32) : Int32 := (f2_5 64 v0 p1 p2 p2 (0 : Int32))
def s2_0 (v0 : List Int32) (p1 : Int32) (p2 : Int32) : Prop := s2_5 64 v0 p1 p2 p2 (0 : Int32)
set_option maxRecDepth 65536 in
set_option maxHeartbeats 40000000 in
theorem b2_0 (C : own_Cx p s m meth c Z ag prog_57_method_4_code 5 "com/example/plumbline/plumbline/core/TextKeys" (some .int) "slot") {T : State} {h : Heap} (a0 : Addr) (v0 : List Int32) (p1 : Int32) (p2 : Int32) (X : Stand p l e R2 s m args below meth c T [] 0 0) (eT : T.heap = h) (Aa0 : own_AI Z h a0 .byte v0) (hs : s2_0 v0 p1 p2) (hK : K (some (.int (f2_0 v0 p1 p2))) h []) : own_Go p e below (own_Q s K cc2 ss2) T (mkF m 0 #[.val (.ref a0), .val (.int p1), .val (.int p2), .unset, .unset] []) := by
  obtain ⟨hx, hZ, hw, hby, hml, hown, hret, hlk, hnm⟩ := id C
  unfold f2_0 at hK
  unfold s2_0 at hs
  refine o_iloadN (pc' := 1) X hx (hb hby d2_0) rfl rfl ?_
  refine o_istoreN (pc' := 2) (l' := #[.val (.ref a0), .val (.int p1), .val (.int p2), .val (.int p2), .unset]) X hx (hb hby d2_1) rfl rfl ?_
  refine o_iconst (pc' := 3) (x := (0 : Int32)) X hx (hb hby d2_2) (by decide) rfl ?_
  refine o_istore (pc' := 5) (l' := #[.val (.ref a0), .val (.int p1), .val (.int p2), .val (.int p2), .val (.int (0 : Int32))]) X hx (hb hby d2_3) rfl rfl ?_
  exact b2_5 C 64 a0 v0 p1 p2 p2 (0 : Int32) X eT Aa0 hs hK

end Body2
theorem pn_TextKeys : plainName "com/example/plumbline/plumbline/core/TextKeys" = true := by first | (simp [plainName, overriddenIn]; done) | decide +kernel
theorem ef_2 (m : MethodId) (a0 : Addr) (p1 : Int32) (p2 : Int32) : entryFrame m #[(.ref a0), (.int p1), (.int p2)] 5 = mkF m 0 #[.val (.ref a0), .val (.int p1), .val (.int p2), .unset, .unset] [] := by first | (simp [entryFrame, mkF, argsToLocals, Value.category]; done) | rfl
set_option maxRecDepth 65536 in
set_option maxHeartbeats 40000000 in
theorem rm2 (l : Launch) (Z : State) (ag : Array Value) (hw : ∀ d ∈ tables_1, d.before ag Z = true) (ws : List Jvm.Cond) (a0 : Addr) (v0 : List Int32) (p1 : Int32) (p2 : Int32) (h0 : Heap) (Aa0 : own_AI Z h0 a0 .byte v0) (hs : s2_0 v0 p1 p2) :
    MetFree l (⟨"com/example/plumbline/plumbline/core/TextKeys", "slot", "([BII)I"⟩ : MethodName) (head1 (Jvm.Cond.code (⟨"com/example/plumbline/plumbline/core/TextKeys", "slot", "([BII)I"⟩ : MethodName) prog_57_method_4_code 5 (some .int) :: ws) R2) (fun a U => a = #[(.ref a0), (.int p1), (.int p2)] ∧ Z.Warmed39 U.vm ∧ U.heap = h0) (fun _ _ _ _ _ => True) (fun _ U o U' => ∃ v L, o = .returned v ∧ own_KP (some (.int (f2_0 v0 p1 p2))) h0 v U'.heap L ∧ FrameEnd U o U' L R2.cells R2.slots) := by
  refine MetFree.of_bodySF (plainFor_of_name pn_TextKeys) hisR ?_
  intro p e s m args below meth c s₁ Bd hml0 hP hK
  obtain ⟨rfl, hZ, hh⟩ := hP
  have C : own_Cx p s m meth c Z ag prog_57_method_4_code 5 "com/example/plumbline/plumbline/core/TextKeys" (some .int) "slot" := ⟨Bd.exec, hZ, hw, Bd.bytes, hml0, findClass_of_methodNamed Bd.named, Bd.returns, Bd.notSynchronized, (name_of_methodNamed Bd.named Bd.method).1⟩
  have X0 : Stand p l e R2 s m #[(.ref a0), (.int p1), (.int p2)] below meth c s₁ [] 0 0 := Stand.of_body Bd
  have e0 : s₁.heap = h0 := by rw [← hh, Bd.state]; rfl
  rw [ef_2]
  exact b2_0 (K := own_KP (some (.int (f2_0 v0 p1 p2))) h0) C a0 v0 p1 p2 X0 e0 Aa0 hs ⟨rfl, rfl, rfl⟩

section Body0
variable {p : Program} {l : Launch} {e : Env} {s : State} {m : MethodId} {args : Array Value} {below : List Frame} {meth : Method} {c : Code} {Z : State} {ag : Array Value} {K : Option Value → Heap → List Loc → Prop}
abbrev R0 : Room := room_1
abbrev cc0 : Nat := 1
abbrev ss0 : Nat := 24
def f0_621 : Int32 := (0 : Int32)
set_option maxRecDepth 65536 in
set_option maxHeartbeats 40000000 in
theorem b0_621 (C : own_Cx p s m meth c Z ag code maxLocals "com/example/plumbline/plumbline/core/TextKeysSlotPinLaw" ret "law") {T : State} {h : Heap} {z0 : Int64} {z2 : Int64} {z4 : Int64} {z14 : Int64} {z6 : Slot} {z7 : Slot} {z8 : Slot} {z9 : Slot} {z10 : Slot} {z11 : Slot} {z12 : Slot} {z13 : Slot} {z16 : Slot} (X : Stand p l e R0 s m args below meth c T [] 1 24) (eT : T.heap = h) (hz6 : One z6) (hz7 : One z7) (hz8 : One z8) (hz9 : One z9) (hz10 : One z10) (hz11 : One z11) (hz12 : One z12) (hz13 : One z13) (hz16 : One z16) (hK : ∀ h', K (some (.int (f0_621))) h' []) : own_Go p e below (own_Q s K cc0 ss0) T (mkF m 621 #[.val (.long z0), .second, .val (.long z2), .second, .val (.long z4), .second, z6, z7, z8, z9, z10, z11, z12, z13, .val (.long z14), .second, z16] [(.int (0 : Int32))]) := by
  obtain ⟨hx, hZ, hw, hby, hml, hown, hret, hlk, hnm⟩ := id C
  unfold f0_621 at hK
  exact o_retN X hx (t := .boolean) hret (by simp) hlk (hb hby at_621) (by decide) (by decide) eT (hK _)

def f0_621_3 : Int32 := (1 : Int32)
set_option maxRecDepth 65536 in
set_option maxHeartbeats 40000000 in
theorem b0_621_3 (C : own_Cx p s m meth c Z ag code maxLocals "com/example/plumbline/plumbline/core/TextKeysSlotPinLaw" ret "law") {T : State} {h : Heap} {z0 : Int64} {z2 : Int64} {z4 : Int64} {z14 : Int64} {z6 : Slot} {z7 : Slot} {z8 : Slot} {z9 : Slot} {z10 : Slot} {z11 : Slot} {z12 : Slot} {z13 : Slot} {z16 : Slot} (X : Stand p l e R0 s m args below meth c T [] 1 24) (eT : T.heap = h) (hz6 : One z6) (hz7 : One z7) (hz8 : One z8) (hz9 : One z9) (hz10 : One z10) (hz11 : One z11) (hz12 : One z12) (hz13 : One z13) (hz16 : One z16) (hK : ∀ h', K (some (.int (f0_621_3))) h' []) : own_Go p e below (own_Q s K cc0 ss0) T (mkF m 621 #[.val (.long z0), .second, .val (.long z2), .second, .val (.long z4), .second, z6, z7, z8, z9, z10, z11, z12, z13, .val (.long z14), .second, z16] [(.int (1 : Int32))]) := by
  obtain ⟨hx, hZ, hw, hby, hml, hown, hret, hlk, hnm⟩ := id C
  unfold f0_621_3 at hK
  exact o_retN X hx (t := .boolean) hret (by simp) hlk (hb hby at_621) (by decide) (by decide) eT (hK _)

def f0_277 (x8 : Int32) (x9 : Int32) (v0 : List Int32) : Int32 := (if (f2_0 v0 x9 x8) = (own_lushr ((((((x8 * (f4_0 x8)) + ((((((((((((((((((((((((f3_0 v0 (0 : Int32) x9 x8) + (f3_0 v0 (1 : Int32) x9 x8)) + (f3_0 v0 (2 : Int32) x9 x8)) + (f3_0 v0 (3 : Int32) x9 x8)) + (f3_0 v0 (4 : Int32) x9 x8)) + (f3_0 v0 (5 : Int32) x9 x8)) + (f3_0 v0 (6 : Int32) x9 x8)) + (f3_0 v0 (7 : Int32) x9 x8)) + (f3_0 v0 (8 : Int32) x9 x8)) + (f3_0 v0 (9 : Int32) x9 x8)) + (f3_0 v0 (10 : Int32) x9 x8)) + (f3_0 v0 (11 : Int32) x9 x8)) + (f3_0 v0 (12 : Int32) x9 x8)) + (f3_0 v0 (13 : Int32) x9 x8)) + (f3_0 v0 (14 : Int32) x9 x8)) + (f3_0 v0 (15 : Int32) x9 x8)) + (f3_0 v0 (16 : Int32) x9 x8)) + (f3_0 v0 (17 : Int32) x9 x8)) + (f3_0 v0 (18 : Int32) x9 x8)) + (f3_0 v0 (19 : Int32) x9 x8)) + (f3_0 v0 (20 : Int32) x9 x8)) + (f3_0 v0 (21 : Int32) x9 x8)) + (f3_0 v0 (22 : Int32) x9 x8)) + (f3_0 v0 (23 : Int32) x9 x8))).toInt64) &&& (4294967295 : Int64)) * (2654435769 : Int64)) &&& (4294967295 : Int64)) (22 : Int32)).toInt32 then f0_621_3 else f0_621)
def s0_277 (x8 : Int32) (x9 : Int32) (v0 : List Int32) : Prop := ((s2_0 v0 x9 x8) ∧ (s3_0 v0 (0 : Int32) x9 x8) ∧ (s3_0 v0 (1 : Int32) x9 x8) ∧ (s3_0 v0 (2 : Int32) x9 x8) ∧ (s3_0 v0 (3 : Int32) x9 x8) ∧ (s3_0 v0 (4 : Int32) x9 x8) ∧ (s3_0 v0 (5 : Int32) x9 x8) ∧ (s3_0 v0 (6 : Int32) x9 x8) ∧ (s3_0 v0 (7 : Int32) x9 x8) ∧ (s3_0 v0 (8 : Int32) x9 x8) ∧ (s3_0 v0 (9 : Int32) x9 x8) ∧ (s3_0 v0 (10 : Int32) x9 x8) ∧ (s3_0 v0 (11 : Int32) x9 x8) ∧ (s3_0 v0 (12 : Int32) x9 x8) ∧ (s3_0 v0 (13 : Int32) x9 x8) ∧ (s3_0 v0 (14 : Int32) x9 x8) ∧ (s3_0 v0 (15 : Int32) x9 x8) ∧ (s3_0 v0 (16 : Int32) x9 x8) ∧ (s3_0 v0 (17 : Int32) x9 x8) ∧ (s3_0 v0 (18 : Int32) x9 x8) ∧ (s3_0 v0 (19 : Int32) x9 x8) ∧ (s3_0 v0 (20 : Int32) x9 x8) ∧ (s3_0 v0 (21 : Int32) x9 x8) ∧ (s3_0 v0 (22 : Int32) x9 x8) ∧ (s3_0 v0 (23 : Int32) x9 x8) ∧ True)
set_option maxRecDepth 65536 in
set_option maxHeartbeats 40000000 in
theorem b0_277 (C : own_Cx p s m meth c Z ag code maxLocals "com/example/plumbline/plumbline/core/TextKeysSlotPinLaw" ret "law") {T : State} {h : Heap} {z0 : Int64} {z2 : Int64} {z4 : Int64} {z6 : Slot} {z7 : Slot} {z11 : Slot} {z12 : Slot} {z13 : Slot} {z16 : Slot} (x8 : Int32) (x9 : Int32) (a0 : Addr) (v0 : List Int32) (X : Stand p l e R0 s m args below meth c T [] 1 24) (eT : T.heap = h) (Aa0 : own_AI Z h a0 .byte v0) (ga0 : s.heap.size ≤ a0) (hz6 : One z6) (hz7 : One z7) (hz11 : One z11) (hz12 : One z12) (hz13 : One z13) (hz16 : One z16) (hs : s0_277 x8 x9 v0) (hK : ∀ h', K (some (.int (f0_277 x8 x9 v0))) h' []) : own_Go p e below (own_Q s K cc0 ss0) T (mkF m 277 #[.val (.long z0), .second, .val (.long z2), .second, .val (.long z4), .second, z6, z7, .val (.int x8), .val (.int x9), .val (.ref a0), z11, z12, z13, .unset, .unset, z16] []) := by
  obtain ⟨hx, hZ, hw, hby, hml, hown, hret, hlk, hnm⟩ := id C
  unfold f0_277 at hK
  unfold s0_277 at hs
  refine o_aload (pc' := 279) X hx (hb hby at_277) rfl rfl rfl ?_
  refine o_iload (pc' := 281) X hx (hb hby at_279) rfl rfl ?_
  refine o_iload (pc' := 283) X hx (hb hby at_281) rfl rfl ?_
  refine o_callP (W := 0) (pc' := 286) (argsL := [(.ref a0), (.int x9), (.int x8)]) (rest := []) (st' := [(.int (f2_0 v0 x9 x8))]) X hx hZ eT hown (hw _ (List.mem_of_getElem? (i := 6) rfl)) (hw _ (List.mem_of_getElem? (i := 7) rfl)) (hw _ (List.mem_of_getElem? (i := 8) rfl)) (hw _ (List.mem_of_getElem? (i := 9) rfl)) (by decide) (rm2 l Z ag hw [] a0 v0 x9 x8 h Aa0 hs.1) (by decide) (by decide) (by rw [hml]; rfl) pd_2 rfl rfl rfl rfl (hb hby at_283) rfl rfl rfl (by decide) (by decide) rfl fun T85 X85 e85 => ?_
  refine o_istoreS (pc' := 288) (l' := #[.val (.long z0), .second, .val (.long z2), .second, .val (.long z4), .second, z6, z7, .val (.int x8), .val (.int x9), .val (.ref a0), .val (.int (f2_0 v0 x9 x8)), z12, z13, .unset, .unset, z16]) X85 hx (hb hby at_286) rfl hz11 rfl rfl ?_
  refine o_aload (pc' := 290) X85 hx (hb hby at_288) rfl rfl rfl ?_
  refine o_iconst (pc' := 291) (x := (0 : Int32)) X85 hx (hb hby at_290) (by decide) rfl ?_
  refine o_iload (pc' := 293) X85 hx (hb hby at_291) rfl rfl ?_
  refine o_iload (pc' := 295) X85 hx (hb hby at_293) rfl rfl ?_
  refine o_callP (W := 0) (pc' := 298) (argsL := [(.ref a0), (.int (0 : Int32)), (.int x9), (.int x8)]) (rest := []) (st' := [(.int (f3_0 v0 (0 : Int32) x9 x8))]) X85 hx hZ e85 hown (hw _ (List.mem_of_getElem? (i := 11) rfl)) (hw _ (List.mem_of_getElem? (i := 12) rfl)) (hw _ (List.mem_of_getElem? (i := 4) rfl)) (hw _ (List.mem_of_getElem? (i := 13) rfl)) (by decide) (rm3 l Z ag hw [] a0 v0 (0 : Int32) x9 x8 h Aa0 hs.2.1) (by decide) (by decide) (by rw [hml]; rfl) pd_3 rfl rfl rfl rfl (hb hby at_295) rfl rfl rfl (by decide) (by decide) rfl fun T86 X86 e86 => ?_
  refine o_aload (pc' := 300) X86 hx (hb hby at_298) rfl rfl rfl ?_
  refine o_iconst (pc' := 301) (x := (1 : Int32)) X86 hx (hb hby at_300) (by decide) rfl ?_
  refine o_iload (pc' := 303) X86 hx (hb hby at_301) rfl rfl ?_
  refine o_iload (pc' := 305) X86 hx (hb hby at_303) rfl rfl ?_
  refine o_callP (W := 1) (pc' := 308) (argsL := [(.ref a0), (.int (1 : Int32)), (.int x9), (.int x8)]) (rest := [(.int (f3_0 v0 (0 : Int32) x9 x8))]) (st' := [(.int (f3_0 v0 (1 : Int32) x9 x8)), (.int (f3_0 v0 (0 : Int32) x9 x8))]) X86 hx hZ e86 hown (hw _ (List.mem_of_getElem? (i := 11) rfl)) (hw _ (List.mem_of_getElem? (i := 12) rfl)) (hw _ (List.mem_of_getElem? (i := 4) rfl)) (hw _ (List.mem_of_getElem? (i := 13) rfl)) (by decide) (rm3 l Z ag hw [] a0 v0 (1 : Int32) x9 x8 h Aa0 hs.2.2.1) (by decide) (by decide) (by rw [hml]; rfl) pd_3 rfl rfl rfl rfl (hb hby at_305) rfl rfl rfl (by decide) (by decide) rfl fun T87 X87 e87 => ?_
  refine o_iadd (pc' := 309)  X87 hx (hb hby at_308) rfl rfl ?_
  refine o_aload (pc' := 311) X87 hx (hb hby at_309) rfl rfl rfl ?_
  refine o_iconst (pc' := 312) (x := (2 : Int32)) X87 hx (hb hby at_311) (by decide) rfl ?_
  refine o_iload (pc' := 314) X87 hx (hb hby at_312) rfl rfl ?_
  refine o_iload (pc' := 316) X87 hx (hb hby at_314) rfl rfl ?_
  refine o_callP (W := 1) (pc' := 319) (argsL := [(.ref a0), (.int (2 : Int32)), (.int x9), (.int x8)]) (rest := [(.int ((f3_0 v0 (0 : Int32) x9 x8) + (f3_0 v0 (1 : Int32) x9 x8)))]) (st' := [(.int (f3_0 v0 (2 : Int32) x9 x8)), (.int ((f3_0 v0 (0 : Int32) x9 x8) + (f3_0 v0 (1 : Int32) x9 x8)))]) X87 hx hZ e87 hown (hw _ (List.mem_of_getElem? (i := 11) rfl)) (hw _ (List.mem_of_getElem? (i := 12) rfl)) (hw _ (List.mem_of_getElem? (i := 4) rfl)) (hw _ (List.mem_of_getElem? (i := 13) rfl)) (by decide) (rm3 l Z ag hw [] a0 v0 (2 : Int32) x9 x8 h Aa0 hs.2.2.2.1) (by decide) (by decide) (by rw [hml]; rfl) pd_3 rfl rfl rfl rfl (hb hby at_316) rfl rfl rfl (by decide) (by decide) rfl fun T88 X88 e88 => ?_
  refine o_iadd (pc' := 320)  X88 hx (hb hby at_319) rfl rfl ?_
  refine o_aload (pc' := 322) X88 hx (hb hby at_320) rfl rfl rfl ?_
  refine o_iconst (pc' := 323) (x := (3 : Int32)) X88 hx (hb hby at_322) (by decide) rfl ?_
  refine o_iload (pc' := 325) X88 hx (hb hby at_323) rfl rfl ?_
  refine o_iload (pc' := 327) X88 hx (hb hby at_325) rfl rfl ?_
  refine o_callP (W := 1) (pc' := 330) (argsL := [(.ref a0), (.int (3 : Int32)), (.int x9), (.int x8)]) (rest := [(.int (((f3_0 v0 (0 : Int32) x9 x8) + (f3_0 v0 (1 : Int32) x9 x8)) + (f3_0 v0 (2 : Int32) x9 x8)))]) (st' := [(.int (f3_0 v0 (3 : Int32) x9 x8)), (.int (((f3_0 v0 (0 : Int32) x9 x8) + (f3_0 v0 (1 : Int32) x9 x8)) + (f3_0 v0 (2 : Int32) x9 x8)))]) X88 hx hZ e88 hown (hw _ (List.mem_of_getElem? (i := 11) rfl)) (hw _ (List.mem_of_getElem? (i := 12) rfl)) (hw _ (List.mem_of_getElem? (i := 4) rfl)) (hw _ (List.mem_of_getElem? (i := 13) rfl)) (by decide) (rm3 l Z ag hw [] a0 v0 (3 : Int32) x9 x8 h Aa0 hs.2.2.2.2.1) (by decide) (by decide) (by rw [hml]; rfl) pd_3 rfl rfl rfl rfl (hb hby at_327) rfl rfl rfl (by decide) (by decide) rfl fun T89 X89 e89 => ?_
  refine o_iadd (pc' := 331)  X89 hx (hb hby at_330) rfl rfl ?_
  refine o_aload (pc' := 333) X89 hx (hb hby at_331) rfl rfl rfl ?_
  refine o_iconst (pc' := 334) (x := (4 : Int32)) X89 hx (hb hby at_333) (by decide) rfl ?_
  refine o_iload (pc' := 336) X89 hx (hb hby at_334) rfl rfl ?_
  refine o_iload (pc' := 338) X89 hx (hb hby at_336) rfl rfl ?_
  refine o_callP (W := 1) (pc' := 341) (argsL := [(.ref a0), (.int (4 : Int32)), (.int x9), (.int x8)]) (rest := [(.int ((((f3_0 v0 (0 : Int32) x9 x8) + (f3_0 v0 (1 : Int32) x9 x8)) + (f3_0 v0 (2 : Int32) x9 x8)) + (f3_0 v0 (3 : Int32) x9 x8)))]) (st' := [(.int (f3_0 v0 (4 : Int32) x9 x8)), (.int ((((f3_0 v0 (0 : Int32) x9 x8) + (f3_0 v0 (1 : Int32) x9 x8)) + (f3_0 v0 (2 : Int32) x9 x8)) + (f3_0 v0 (3 : Int32) x9 x8)))]) X89 hx hZ e89 hown (hw _ (List.mem_of_getElem? (i := 11) rfl)) (hw _ (List.mem_of_getElem? (i := 12) rfl)) (hw _ (List.mem_of_getElem? (i := 4) rfl)) (hw _ (List.mem_of_getElem? (i := 13) rfl)) (by decide) (rm3 l Z ag hw [] a0 v0 (4 : Int32) x9 x8 h Aa0 hs.2.2.2.2.2.1) (by decide) (by decide) (by rw [hml]; rfl) pd_3 rfl rfl rfl rfl (hb hby at_338) rfl rfl rfl (by decide) (by decide) rfl fun T90 X90 e90 => ?_
  refine o_iadd (pc' := 342)  X90 hx (hb hby at_341) rfl rfl ?_
  refine o_aload (pc' := 344) X90 hx (hb hby at_342) rfl rfl rfl ?_
  refine o_iconst (pc' := 345) (x := (5 : Int32)) X90 hx (hb hby at_344) (by decide) rfl ?_
  refine o_iload (pc' := 347) X90 hx (hb hby at_345) rfl rfl ?_
  refine o_iload (pc' := 349) X90 hx (hb hby at_347) rfl rfl ?_
  refine o_callP (W := 1) (pc' := 352) (argsL := [(.ref a0), (.int (5 : Int32)), (.int x9), (.int x8)]) (rest := [(.int (((((f3_0 v0 (0 : Int32) x9 x8) + (f3_0 v0 (1 : Int32) x9 x8)) + (f3_0 v0 (2 : Int32) x9 x8)) + (f3_0 v0 (3 : Int32) x9 x8)) + (f3_0 v0 (4 : Int32) x9 x8)))]) (st' := [(.int (f3_0 v0 (5 : Int32) x9 x8)), (.int (((((f3_0 v0 (0 : Int32) x9 x8) + (f3_0 v0 (1 : Int32) x9 x8)) + (f3_0 v0 (2 : Int32) x9 x8)) + (f3_0 v0 (3 : Int32) x9 x8)) + (f3_0 v0 (4 : Int32) x9 x8)))]) X90 hx hZ e90 hown (hw _ (List.mem_of_getElem? (i := 11) rfl)) (hw _ (List.mem_of_getElem? (i := 12) rfl)) (hw _ (List.mem_of_getElem? (i := 4) rfl)) (hw _ (List.mem_of_getElem? (i := 13) rfl)) (by decide) (rm3 l Z ag hw [] a0 v0 (5 : Int32) x9 x8 h Aa0 hs.2.2.2.2.2.2.1) (by decide) (by decide) (by rw [hml]; rfl) pd_3 rfl rfl rfl rfl (hb hby at_349) rfl rfl rfl (by decide) (by decide) rfl fun T91 X91 e91 => ?_
  refine o_iadd (pc' := 353)  X91 hx (hb hby at_352) rfl rfl ?_
  refine o_aload (pc' := 355) X91 hx (hb hby at_353) rfl rfl rfl ?_
  refine o_bipush (pc' := 357) (x := (6 : Int32)) X91 hx (hb hby at_355) (by decide) rfl ?_
  refine o_iload (pc' := 359) X91 hx (hb hby at_357) rfl rfl ?_
  refine o_iload (pc' := 361) X91 hx (hb hby at_359) rfl rfl ?_
  refine o_callP (W := 1) (pc' := 364) (argsL := [(.ref a0), (.int (6 : Int32)), (.int x9), (.int x8)]) (rest := [(.int ((((((f3_0 v0 (0 : Int32) x9 x8) + (f3_0 v0 (1 : Int32) x9 x8)) + (f3_0 v0 (2 : Int32) x9 x8)) + (f3_0 v0 (3 : Int32) x9 x8)) + (f3_0 v0 (4 : Int32) x9 x8)) + (f3_0 v0 (5 : Int32) x9 x8)))]) (st' := [(.int (f3_0 v0 (6 : Int32) x9 x8)), (.int ((((((f3_0 v0 (0 : Int32) x9 x8) + (f3_0 v0 (1 : Int32) x9 x8)) + (f3_0 v0 (2 : Int32) x9 x8)) + (f3_0 v0 (3 : Int32) x9 x8)) + (f3_0 v0 (4 : Int32) x9 x8)) + (f3_0 v0 (5 : Int32) x9 x8)))]) X91 hx hZ e91 hown (hw _ (List.mem_of_getElem? (i := 11) rfl)) (hw _ (List.mem_of_getElem? (i := 12) rfl)) (hw _ (List.mem_of_getElem? (i := 4) rfl)) (hw _ (List.mem_of_getElem? (i := 13) rfl)) (by decide) (rm3 l Z ag hw [] a0 v0 (6 : Int32) x9 x8 h Aa0 hs.2.2.2.2.2.2.2.1) (by decide) (by decide) (by rw [hml]; rfl) pd_3 rfl rfl rfl rfl (hb hby at_361) rfl rfl rfl (by decide) (by decide) rfl fun T92 X92 e92 => ?_
  refine o_iadd (pc' := 365)  X92 hx (hb hby at_364) rfl rfl ?_
  refine o_aload (pc' := 367) X92 hx (hb hby at_365) rfl rfl rfl ?_
  refine o_bipush (pc' := 369) (x := (7 : Int32)) X92 hx (hb hby at_367) (by decide) rfl ?_
  refine o_iload (pc' := 371) X92 hx (hb hby at_369) rfl rfl ?_
  refine o_iload (pc' := 373) X92 hx (hb hby at_371) rfl rfl ?_
  refine o_callP (W := 1) (pc' := 376) (argsL := [(.ref a0), (.int (7 : Int32)), (.int x9), (.int x8)]) (rest := [(.int (((((((f3_0 v0 (0 : Int32) x9 x8) + (f3_0 v0 (1 : Int32) x9 x8)) + (f3_0 v0 (2 : Int32) x9 x8)) + (f3_0 v0 (3 : Int32) x9 x8)) + (f3_0 v0 (4 : Int32) x9 x8)) + (f3_0 v0 (5 : Int32) x9 x8)) + (f3_0 v0 (6 : Int32) x9 x8)))]) (st' := [(.int (f3_0 v0 (7 : Int32) x9 x8)), (.int (((((((f3_0 v0 (0 : Int32) x9 x8) + (f3_0 v0 (1 : Int32) x9 x8)) + (f3_0 v0 (2 : Int32) x9 x8)) + (f3_0 v0 (3 : Int32) x9 x8)) + (f3_0 v0 (4 : Int32) x9 x8)) + (f3_0 v0 (5 : Int32) x9 x8)) + (f3_0 v0 (6 : Int32) x9 x8)))]) X92 hx hZ e92 hown (hw _ (List.mem_of_getElem? (i := 11) rfl)) (hw _ (List.mem_of_getElem? (i := 12) rfl)) (hw _ (List.mem_of_getElem? (i := 4) rfl)) (hw _ (List.mem_of_getElem? (i := 13) rfl)) (by decide) (rm3 l Z ag hw [] a0 v0 (7 : Int32) x9 x8 h Aa0 hs.2.2.2.2.2.2.2.2.1) (by decide) (by decide) (by rw [hml]; rfl) pd_3 rfl rfl rfl rfl (hb hby at_373) rfl rfl rfl (by decide) (by decide) rfl fun T93 X93 e93 => ?_
  refine o_iadd (pc' := 377)  X93 hx (hb hby at_376) rfl rfl ?_
  refine o_aload (pc' := 379) X93 hx (hb hby at_377) rfl rfl rfl ?_
  refine o_bipush (pc' := 381) (x := (8 : Int32)) X93 hx (hb hby at_379) (by decide) rfl ?_
  refine o_iload (pc' := 383) X93 hx (hb hby at_381) rfl rfl ?_
  refine o_iload (pc' := 385) X93 hx (hb hby at_383) rfl rfl ?_
  refine o_callP (W := 1) (pc' := 388) (argsL := [(.ref a0), (.int (8 : Int32)), (.int x9), (.int x8)]) (rest := [(.int ((((((((f3_0 v0 (0 : Int32) x9 x8) + (f3_0 v0 (1 : Int32) x9 x8)) + (f3_0 v0 (2 : Int32) x9 x8)) + (f3_0 v0 (3 : Int32) x9 x8)) + (f3_0 v0 (4 : Int32) x9 x8)) + (f3_0 v0 (5 : Int32) x9 x8)) + (f3_0 v0 (6 : Int32) x9 x8)) + (f3_0 v0 (7 : Int32) x9 x8)))]) (st' := [(.int (f3_0 v0 (8 : Int32) x9 x8)), (.int ((((((((f3_0 v0 (0 : Int32) x9 x8) + (f3_0 v0 (1 : Int32) x9 x8)) + (f3_0 v0 (2 : Int32) x9 x8)) + (f3_0 v0 (3 : Int32) x9 x8)) + (f3_0 v0 (4 : Int32) x9 x8)) + (f3_0 v0 (5 : Int32) x9 x8)) + (f3_0 v0 (6 : Int32) x9 x8)) + (f3_0 v0 (7 : Int32) x9 x8)))]) X93 hx hZ e93 hown (hw _ (List.mem_of_getElem? (i := 11) rfl)) (hw _ (List.mem_of_getElem? (i := 12) rfl)) (hw _ (List.mem_of_getElem? (i := 4) rfl)) (hw _ (List.mem_of_getElem? (i := 13) rfl)) (by decide) (rm3 l Z ag hw [] a0 v0 (8 : Int32) x9 x8 h Aa0 hs.2.2.2.2.2.2.2.2.2.1) (by decide) (by decide) (by rw [hml]; rfl) pd_3 rfl rfl rfl rfl (hb hby at_385) rfl rfl rfl (by decide) (by decide) rfl fun T94 X94 e94 => ?_
  refine o_iadd (pc' := 389)  X94 hx (hb hby at_388) rfl rfl ?_
  refine o_aload (pc' := 391) X94 hx (hb hby at_389) rfl rfl rfl ?_
  refine o_bipush (pc' := 393) (x := (9 : Int32)) X94 hx (hb hby at_391) (by decide) rfl ?_
  refine o_iload (pc' := 395) X94 hx (hb hby at_393) rfl rfl ?_
  refine o_iload (pc' := 397) X94 hx (hb hby at_395) rfl rfl ?_
  refine o_callP (W := 1) (pc' := 400) (argsL := [(.ref a0), (.int (9 : Int32)), (.int x9), (.int x8)]) (rest := [(.int (((((((((f3_0 v0 (0 : Int32) x9 x8) + (f3_0 v0 (1 : Int32) x9 x8)) + (f3_0 v0 (2 : Int32) x9 x8)) + (f3_0 v0 (3 : Int32) x9 x8)) + (f3_0 v0 (4 : Int32) x9 x8)) + (f3_0 v0 (5 : Int32) x9 x8)) + (f3_0 v0 (6 : Int32) x9 x8)) + (f3_0 v0 (7 : Int32) x9 x8)) + (f3_0 v0 (8 : Int32) x9 x8)))]) (st' := [(.int (f3_0 v0 (9 : Int32) x9 x8)), (.int (((((((((f3_0 v0 (0 : Int32) x9 x8) + (f3_0 v0 (1 : Int32) x9 x8)) + (f3_0 v0 (2 : Int32) x9 x8)) + (f3_0 v0 (3 : Int32) x9 x8)) + (f3_0 v0 (4 : Int32) x9 x8)) + (f3_0 v0 (5 : Int32) x9 x8)) + (f3_0 v0 (6 : Int32) x9 x8)) + (f3_0 v0 (7 : Int32) x9 x8)) + (f3_0 v0 (8 : Int32) x9 x8)))]) X94 hx hZ e94 hown (hw _ (List.mem_of_getElem? (i := 11) rfl)) (hw _ (List.mem_of_getElem? (i := 12) rfl)) (hw _ (List.mem_of_getElem? (i := 4) rfl)) (hw _ (List.mem_of_getElem? (i := 13) rfl)) (by decide) (rm3 l Z ag hw [] a0 v0 (9 : Int32) x9 x8 h Aa0 hs.2.2.2.2.2.2.2.2.2.2.1) (by decide) (by decide) (by rw [hml]; rfl) pd_3 rfl rfl rfl rfl (hb hby at_397) rfl rfl rfl (by decide) (by decide) rfl fun T95 X95 e95 => ?_
  refine o_iadd (pc' := 401)  X95 hx (hb hby at_400) rfl rfl ?_
  refine o_aload (pc' := 403) X95 hx (hb hby at_401) rfl rfl rfl ?_
  refine o_bipush (pc' := 405) (x := (10 : Int32)) X95 hx (hb hby at_403) (by decide) rfl ?_
  refine o_iload (pc' := 407) X95 hx (hb hby at_405) rfl rfl ?_
  refine o_iload (pc' := 409) X95 hx (hb hby at_407) rfl rfl ?_
  refine o_callP (W := 1) (pc' := 412) (argsL := [(.ref a0), (.int (10 : Int32)), (.int x9), (.int x8)]) (rest := [(.int ((((((((((f3_0 v0 (0 : Int32) x9 x8) + (f3_0 v0 (1 : Int32) x9 x8)) + (f3_0 v0 (2 : Int32) x9 x8)) + (f3_0 v0 (3 : Int32) x9 x8)) + (f3_0 v0 (4 : Int32) x9 x8)) + (f3_0 v0 (5 : Int32) x9 x8)) + (f3_0 v0 (6 : Int32) x9 x8)) + (f3_0 v0 (7 : Int32) x9 x8)) + (f3_0 v0 (8 : Int32) x9 x8)) + (f3_0 v0 (9 : Int32) x9 x8)))]) (st' := [(.int (f3_0 v0 (10 : Int32) x9 x8)), (.int ((((((((((f3_0 v0 (0 : Int32) x9 x8) + (f3_0 v0 (1 : Int32) x9 x8)) + (f3_0 v0 (2 : Int32) x9 x8)) + (f3_0 v0 (3 : Int32) x9 x8)) + (f3_0 v0 (4 : Int32) x9 x8)) + (f3_0 v0 (5 : Int32) x9 x8)) + (f3_0 v0 (6 : Int32) x9 x8)) + (f3_0 v0 (7 : Int32) x9 x8)) + (f3_0 v0 (8 : Int32) x9 x8)) + (f3_0 v0 (9 : Int32) x9 x8)))]) X95 hx hZ e95 hown (hw _ (List.mem_of_getElem? (i := 11) rfl)) (hw _ (List.mem_of_getElem? (i := 12) rfl)) (hw _ (List.mem_of_getElem? (i := 4) rfl)) (hw _ (List.mem_of_getElem? (i := 13) rfl)) (by decide) (rm3 l Z ag hw [] a0 v0 (10 : Int32) x9 x8 h Aa0 hs.2.2.2.2.2.2.2.2.2.2.2.1) (by decide) (by decide) (by rw [hml]; rfl) pd_3 rfl rfl rfl rfl (hb hby at_409) rfl rfl rfl (by decide) (by decide) rfl fun T96 X96 e96 => ?_
  refine o_iadd (pc' := 413)  X96 hx (hb hby at_412) rfl rfl ?_
  refine o_aload (pc' := 415) X96 hx (hb hby at_413) rfl rfl rfl ?_
  refine o_bipush (pc' := 417) (x := (11 : Int32)) X96 hx (hb hby at_415) (by decide) rfl ?_
  refine o_iload (pc' := 419) X96 hx (hb hby at_417) rfl rfl ?_
  refine o_iload (pc' := 421) X96 hx (hb hby at_419) rfl rfl ?_
  refine o_callP (W := 1) (pc' := 424) (argsL := [(.ref a0), (.int (11 : Int32)), (.int x9), (.int x8)]) (rest := [(.int (((((((((((f3_0 v0 (0 : Int32) x9 x8) + (f3_0 v0 (1 : Int32) x9 x8)) + (f3_0 v0 (2 : Int32) x9 x8)) + (f3_0 v0 (3 : Int32) x9 x8)) + (f3_0 v0 (4 : Int32) x9 x8)) + (f3_0 v0 (5 : Int32) x9 x8)) + (f3_0 v0 (6 : Int32) x9 x8)) + (f3_0 v0 (7 : Int32) x9 x8)) + (f3_0 v0 (8 : Int32) x9 x8)) + (f3_0 v0 (9 : Int32) x9 x8)) + (f3_0 v0 (10 : Int32) x9 x8)))]) (st' := [(.int (f3_0 v0 (11 : Int32) x9 x8)), (.int (((((((((((f3_0 v0 (0 : Int32) x9 x8) + (f3_0 v0 (1 : Int32) x9 x8)) + (f3_0 v0 (2 : Int32) x9 x8)) + (f3_0 v0 (3 : Int32) x9 x8)) + (f3_0 v0 (4 : Int32) x9 x8)) + (f3_0 v0 (5 : Int32) x9 x8)) + (f3_0 v0 (6 : Int32) x9 x8)) + (f3_0 v0 (7 : Int32) x9 x8)) + (f3_0 v0 (8 : Int32) x9 x8)) + (f3_0 v0 (9 : Int32) x9 x8)) + (f3_0 v0 (10 : Int32) x9 x8)))]) X96 hx hZ e96 hown (hw _ (List.mem_of_getElem? (i := 11) rfl)) (hw _ (List.mem_of_getElem? (i := 12) rfl)) (hw _ (List.mem_of_getElem? (i := 4) rfl)) (hw _ (List.mem_of_getElem? (i := 13) rfl)) (by decide) (rm3 l Z ag hw [] a0 v0 (11 : Int32) x9 x8 h Aa0 hs.2.2.2.2.2.2.2.2.2.2.2.2.1) (by decide) (by decide) (by rw [hml]; rfl) pd_3 rfl rfl rfl rfl (hb hby at_421) rfl rfl rfl (by decide) (by decide) rfl fun T97 X97 e97 => ?_
  refine o_iadd (pc' := 425)  X97 hx (hb hby at_424) rfl rfl ?_
  refine o_aload (pc' := 427) X97 hx (hb hby at_425) rfl rfl rfl ?_
  refine o_bipush (pc' := 429) (x := (12 : Int32)) X97 hx (hb hby at_427) (by decide) rfl ?_
  refine o_iload (pc' := 431) X97 hx (hb hby at_429) rfl rfl ?_
  refine o_iload (pc' := 433) X97 hx (hb hby at_431) rfl rfl ?_
  refine o_callP (W := 1) (pc' := 436) (argsL := [(.ref a0), (.int (12 : Int32)), (.int x9), (.int x8)]) (rest := [(.int ((((((((((((f3_0 v0 (0 : Int32) x9 x8) + (f3_0 v0 (1 : Int32) x9 x8)) + (f3_0 v0 (2 : Int32) x9 x8)) + (f3_0 v0 (3 : Int32) x9 x8)) + (f3_0 v0 (4 : Int32) x9 x8)) + (f3_0 v0 (5 : Int32) x9 x8)) + (f3_0 v0 (6 : Int32) x9 x8)) + (f3_0 v0 (7 : Int32) x9 x8)) + (f3_0 v0 (8 : Int32) x9 x8)) + (f3_0 v0 (9 : Int32) x9 x8)) + (f3_0 v0 (10 : Int32) x9 x8)) + (f3_0 v0 (11 : Int32) x9 x8)))]) (st' := [(.int (f3_0 v0 (12 : Int32) x9 x8)), (.int ((((((((((((f3_0 v0 (0 : Int32) x9 x8) + (f3_0 v0 (1 : Int32) x9 x8)) + (f3_0 v0 (2 : Int32) x9 x8)) + (f3_0 v0 (3 : Int32) x9 x8)) + (f3_0 v0 (4 : Int32) x9 x8)) + (f3_0 v0 (5 : Int32) x9 x8)) + (f3_0 v0 (6 : Int32) x9 x8)) + (f3_0 v0 (7 : Int32) x9 x8)) + (f3_0 v0 (8 : Int32) x9 x8)) + (f3_0 v0 (9 : Int32) x9 x8)) + (f3_0 v0 (10 : Int32) x9 x8)) + (f3_0 v0 (11 : Int32) x9 x8)))]) X97 hx hZ e97 hown (hw _ (List.mem_of_getElem? (i := 11) rfl)) (hw _ (List.mem_of_getElem? (i := 12) rfl)) (hw _ (List.mem_of_getElem? (i := 4) rfl)) (hw _ (List.mem_of_getElem? (i := 13) rfl)) (by decide) (rm3 l Z ag hw [] a0 v0 (12 : Int32) x9 x8 h Aa0 hs.2.2.2.2.2.2.2.2.2.2.2.2.2.1) (by decide) (by decide) (by rw [hml]; rfl) pd_3 rfl rfl rfl rfl (hb hby at_433) rfl rfl rfl (by decide) (by decide) rfl fun T98 X98 e98 => ?_
  refine o_iadd (pc' := 437)  X98 hx (hb hby at_436) rfl rfl ?_
  refine o_aload (pc' := 439) X98 hx (hb hby at_437) rfl rfl rfl ?_
  refine o_bipush (pc' := 441) (x := (13 : Int32)) X98 hx (hb hby at_439) (by decide) rfl ?_
  refine o_iload (pc' := 443) X98 hx (hb hby at_441) rfl rfl ?_
  refine o_iload (pc' := 445) X98 hx (hb hby at_443) rfl rfl ?_
  refine o_callP (W := 1) (pc' := 448) (argsL := [(.ref a0), (.int (13 : Int32)), (.int x9), (.int x8)]) (rest := [(.int (((((((((((((f3_0 v0 (0 : Int32) x9 x8) + (f3_0 v0 (1 : Int32) x9 x8)) + (f3_0 v0 (2 : Int32) x9 x8)) + (f3_0 v0 (3 : Int32) x9 x8)) + (f3_0 v0 (4 : Int32) x9 x8)) + (f3_0 v0 (5 : Int32) x9 x8)) + (f3_0 v0 (6 : Int32) x9 x8)) + (f3_0 v0 (7 : Int32) x9 x8)) + (f3_0 v0 (8 : Int32) x9 x8)) + (f3_0 v0 (9 : Int32) x9 x8)) + (f3_0 v0 (10 : Int32) x9 x8)) + (f3_0 v0 (11 : Int32) x9 x8)) + (f3_0 v0 (12 : Int32) x9 x8)))]) (st' := [(.int (f3_0 v0 (13 : Int32) x9 x8)), (.int (((((((((((((f3_0 v0 (0 : Int32) x9 x8) + (f3_0 v0 (1 : Int32) x9 x8)) + (f3_0 v0 (2 : Int32) x9 x8)) + (f3_0 v0 (3 : Int32) x9 x8)) + (f3_0 v0 (4 : Int32) x9 x8)) + (f3_0 v0 (5 : Int32) x9 x8)) + (f3_0 v0 (6 : Int32) x9 x8)) + (f3_0 v0 (7 : Int32) x9 x8)) + (f3_0 v0 (8 : Int32) x9 x8)) + (f3_0 v0 (9 : Int32) x9 x8)) + (f3_0 v0 (10 : Int32) x9 x8)) + (f3_0 v0 (11 : Int32) x9 x8)) + (f3_0 v0 (12 : Int32) x9 x8)))]) X98 hx hZ e98 hown (hw _ (List.mem_of_getElem? (i := 11) rfl)) (hw _ (List.mem_of_getElem? (i := 12) rfl)) (hw _ (List.mem_of_getElem? (i := 4) rfl)) (hw _ (List.mem_of_getElem? (i := 13) rfl)) (by decide) (rm3 l Z ag hw [] a0 v0 (13 : Int32) x9 x8 h Aa0 hs.2.2.2.2.2.2.2.2.2.2.2.2.2.2.1) (by decide) (by decide) (by rw [hml]; rfl) pd_3 rfl rfl rfl rfl (hb hby at_445) rfl rfl rfl (by decide) (by decide) rfl fun T99 X99 e99 => ?_
  refine o_iadd (pc' := 449)  X99 hx (hb hby at_448) rfl rfl ?_
  refine o_aload (pc' := 451) X99 hx (hb hby at_449) rfl rfl rfl ?_
  refine o_bipush (pc' := 453) (x := (14 : Int32)) X99 hx (hb hby at_451) (by decide) rfl ?_
  refine o_iload (pc' := 455) X99 hx (hb hby at_453) rfl rfl ?_
  refine o_iload (pc' := 457) X99 hx (hb hby at_455) rfl rfl ?_
  refine o_callP (W := 1) (pc' := 460) (argsL := [(.ref a0), (.int (14 : Int32)), (.int x9), (.int x8)]) (rest := [(.int ((((((((((((((f3_0 v0 (0 : Int32) x9 x8) + (f3_0 v0 (1 : Int32) x9 x8)) + (f3_0 v0 (2 : Int32) x9 x8)) + (f3_0 v0 (3 : Int32) x9 x8)) + (f3_0 v0 (4 : Int32) x9 x8)) + (f3_0 v0 (5 : Int32) x9 x8)) + (f3_0 v0 (6 : Int32) x9 x8)) + (f3_0 v0 (7 : Int32) x9 x8)) + (f3_0 v0 (8 : Int32) x9 x8)) + (f3_0 v0 (9 : Int32) x9 x8)) + (f3_0 v0 (10 : Int32) x9 x8)) + (f3_0 v0 (11 : Int32) x9 x8)) + (f3_0 v0 (12 : Int32) x9 x8)) + (f3_0 v0 (13 : Int32) x9 x8)))]) (st' := [(.int (f3_0 v0 (14 : Int32) x9 x8)), (.int ((((((((((((((f3_0 v0 (0 : Int32) x9 x8) + (f3_0 v0 (1 : Int32) x9 x8)) + (f3_0 v0 (2 : Int32) x9 x8)) + (f3_0 v0 (3 : Int32) x9 x8)) + (f3_0 v0 (4 : Int32) x9 x8)) + (f3_0 v0 (5 : Int32) x9 x8)) + (f3_0 v0 (6 : Int32) x9 x8)) + (f3_0 v0 (7 : Int32) x9 x8)) + (f3_0 v0 (8 : Int32) x9 x8)) + (f3_0 v0 (9 : Int32) x9 x8)) + (f3_0 v0 (10 : Int32) x9 x8)) + (f3_0 v0 (11 : Int32) x9 x8)) + (f3_0 v0 (12 : Int32) x9 x8)) + (f3_0 v0 (13 : Int32) x9 x8)))]) X99 hx hZ e99 hown (hw _ (List.mem_of_getElem? (i := 11) rfl)) (hw _ (List.mem_of_getElem? (i := 12) rfl)) (hw _ (List.mem_of_getElem? (i := 4) rfl)) (hw _ (List.mem_of_getElem? (i := 13) rfl)) (by decide) (rm3 l Z ag hw [] a0 v0 (14 : Int32) x9 x8 h Aa0 hs.2.2.2.2.2.2.2.2.2.2.2.2.2.2.2.1) (by decide) (by decide) (by rw [hml]; rfl) pd_3 rfl rfl rfl rfl (hb hby at_457) rfl rfl rfl (by decide) (by decide) rfl fun T100 X100 e100 => ?_
  refine o_iadd (pc' := 461)  X100 hx (hb hby at_460) rfl rfl ?_
  refine o_aload (pc' := 463) X100 hx (hb hby at_461) rfl rfl rfl ?_
  refine o_bipush (pc' := 465) (x := (15 : Int32)) X100 hx (hb hby at_463) (by decide) rfl ?_
  refine o_iload (pc' := 467) X100 hx (hb hby at_465) rfl rfl ?_
  refine o_iload (pc' := 469) X100 hx (hb hby at_467) rfl rfl ?_
  refine o_callP (W := 1) (pc' := 472) (argsL := [(.ref a0), (.int (15 : Int32)), (.int x9), (.int x8)]) (rest := [(.int (((((((((((((((f3_0 v0 (0 : Int32) x9 x8) + (f3_0 v0 (1 : Int32) x9 x8)) + (f3_0 v0 (2 : Int32) x9 x8)) + (f3_0 v0 (3 : Int32) x9 x8)) + (f3_0 v0 (4 : Int32) x9 x8)) + (f3_0 v0 (5 : Int32) x9 x8)) + (f3_0 v0 (6 : Int32) x9 x8)) + (f3_0 v0 (7 : Int32) x9 x8)) + (f3_0 v0 (8 : Int32) x9 x8)) + (f3_0 v0 (9 : Int32) x9 x8)) + (f3_0 v0 (10 : Int32) x9 x8)) + (f3_0 v0 (11 : Int32) x9 x8)) + (f3_0 v0 (12 : Int32) x9 x8)) + (f3_0 v0 (13 : Int32) x9 x8)) + (f3_0 v0 (14 : Int32) x9 x8)))]) (st' := [(.int (f3_0 v0 (15 : Int32) x9 x8)), (.int (((((((((((((((f3_0 v0 (0 : Int32) x9 x8) + (f3_0 v0 (1 : Int32) x9 x8)) + (f3_0 v0 (2 : Int32) x9 x8)) + (f3_0 v0 (3 : Int32) x9 x8)) + (f3_0 v0 (4 : Int32) x9 x8)) + (f3_0 v0 (5 : Int32) x9 x8)) + (f3_0 v0 (6 : Int32) x9 x8)) + (f3_0 v0 (7 : Int32) x9 x8)) + (f3_0 v0 (8 : Int32) x9 x8)) + (f3_0 v0 (9 : Int32) x9 x8)) + (f3_0 v0 (10 : Int32) x9 x8)) + (f3_0 v0 (11 : Int32) x9 x8)) + (f3_0 v0 (12 : Int32) x9 x8)) + (f3_0 v0 (13 : Int32) x9 x8)) + (f3_0 v0 (14 : Int32) x9 x8)))]) X100 hx hZ e100 hown (hw _ (List.mem_of_getElem? (i := 11) rfl)) (hw _ (List.mem_of_getElem? (i := 12) rfl)) (hw _ (List.mem_of_getElem? (i := 4) rfl)) (hw _ (List.mem_of_getElem? (i := 13) rfl)) (by decide) (rm3 l Z ag hw [] a0 v0 (15 : Int32) x9 x8 h Aa0 hs.2.2.2.2.2.2.2.2.2.2.2.2.2.2.2.2.1) (by decide) (by decide) (by rw [hml]; rfl) pd_3 rfl rfl rfl rfl (hb hby at_469) rfl rfl rfl (by decide) (by decide) rfl fun T101 X101 e101 => ?_
  refine o_iadd (pc' := 473)  X101 hx (hb hby at_472) rfl rfl ?_
  refine o_aload (pc' := 475) X101 hx (hb hby at_473) rfl rfl rfl ?_
  refine o_bipush (pc' := 477) (x := (16 : Int32)) X101 hx (hb hby at_475) (by decide) rfl ?_
  refine o_iload (pc' := 479) X101 hx (hb hby at_477) rfl rfl ?_
  refine o_iload (pc' := 481) X101 hx (hb hby at_479) rfl rfl ?_
  refine o_callP (W := 1) (pc' := 484) (argsL := [(.ref a0), (.int (16 : Int32)), (.int x9), (.int x8)]) (rest := [(.int ((((((((((((((((f3_0 v0 (0 : Int32) x9 x8) + (f3_0 v0 (1 : Int32) x9 x8)) + (f3_0 v0 (2 : Int32) x9 x8)) + (f3_0 v0 (3 : Int32) x9 x8)) + (f3_0 v0 (4 : Int32) x9 x8)) + (f3_0 v0 (5 : Int32) x9 x8)) + (f3_0 v0 (6 : Int32) x9 x8)) + (f3_0 v0 (7 : Int32) x9 x8)) + (f3_0 v0 (8 : Int32) x9 x8)) + (f3_0 v0 (9 : Int32) x9 x8)) + (f3_0 v0 (10 : Int32) x9 x8)) + (f3_0 v0 (11 : Int32) x9 x8)) + (f3_0 v0 (12 : Int32) x9 x8)) + (f3_0 v0 (13 : Int32) x9 x8)) + (f3_0 v0 (14 : Int32) x9 x8)) + (f3_0 v0 (15 : Int32) x9 x8)))]) (st' := [(.int (f3_0 v0 (16 : Int32) x9 x8)), (.int ((((((((((((((((f3_0 v0 (0 : Int32) x9 x8) + (f3_0 v0 (1 : Int32) x9 x8)) + (f3_0 v0 (2 : Int32) x9 x8)) + (f3_0 v0 (3 : Int32) x9 x8)) + (f3_0 v0 (4 : Int32) x9 x8)) + (f3_0 v0 (5 : Int32) x9 x8)) + (f3_0 v0 (6 : Int32) x9 x8)) + (f3_0 v0 (7 : Int32) x9 x8)) + (f3_0 v0 (8 : Int32) x9 x8)) + (f3_0 v0 (9 : Int32) x9 x8)) + (f3_0 v0 (10 : Int32) x9 x8)) + (f3_0 v0 (11 : Int32) x9 x8)) + (f3_0 v0 (12 : Int32) x9 x8)) + (f3_0 v0 (13 : Int32) x9 x8)) + (f3_0 v0 (14 : Int32) x9 x8)) + (f3_0 v0 (15 : Int32) x9 x8)))]) X101 hx hZ e101 hown (hw _ (List.mem_of_getElem? (i := 11) rfl)) (hw _ (List.mem_of_getElem? (i := 12) rfl)) (hw _ (List.mem_of_getElem? (i := 4) rfl)) (hw _ (List.mem_of_getElem? (i := 13) rfl)) (by decide) (rm3 l Z ag hw [] a0 v0 (16 : Int32) x9 x8 h Aa0 hs.2.2.2.2.2.2.2.2.2.2.2.2.2.2.2.2.2.1) (by decide) (by decide) (by rw [hml]; rfl) pd_3 rfl rfl rfl rfl (hb hby at_481) rfl rfl rfl (by decide) (by decide) rfl fun T102 X102 e102 => ?_
  refine o_iadd (pc' := 485)  X102 hx (hb hby at_484) rfl rfl ?_
  refine o_aload (pc' := 487) X102 hx (hb hby at_485) rfl rfl rfl ?_
  refine o_bipush (pc' := 489) (x := (17 : Int32)) X102 hx (hb hby at_487) (by decide) rfl ?_
  refine o_iload (pc' := 491) X102 hx (hb hby at_489) rfl rfl ?_
  refine o_iload (pc' := 493) X102 hx (hb hby at_491) rfl rfl ?_
  refine o_callP (W := 1) (pc' := 496) (argsL := [(.ref a0), (.int (17 : Int32)), (.int x9), (.int x8)]) (rest := [(.int (((((((((((((((((f3_0 v0 (0 : Int32) x9 x8) + (f3_0 v0 (1 : Int32) x9 x8)) + (f3_0 v0 (2 : Int32) x9 x8)) + (f3_0 v0 (3 : Int32) x9 x8)) + (f3_0 v0 (4 : Int32) x9 x8)) + (f3_0 v0 (5 : Int32) x9 x8)) + (f3_0 v0 (6 : Int32) x9 x8)) + (f3_0 v0 (7 : Int32) x9 x8)) + (f3_0 v0 (8 : Int32) x9 x8)) + (f3_0 v0 (9 : Int32) x9 x8)) + (f3_0 v0 (10 : Int32) x9 x8)) + (f3_0 v0 (11 : Int32) x9 x8)) + (f3_0 v0 (12 : Int32) x9 x8)) + (f3_0 v0 (13 : Int32) x9 x8)) + (f3_0 v0 (14 : Int32) x9 x8)) + (f3_0 v0 (15 : Int32) x9 x8)) + (f3_0 v0 (16 : Int32) x9 x8)))]) (st' := [(.int (f3_0 v0 (17 : Int32) x9 x8)), (.int (((((((((((((((((f3_0 v0 (0 : Int32) x9 x8) + (f3_0 v0 (1 : Int32) x9 x8)) + (f3_0 v0 (2 : Int32) x9 x8)) + (f3_0 v0 (3 : Int32) x9 x8)) + (f3_0 v0 (4 : Int32) x9 x8)) + (f3_0 v0 (5 : Int32) x9 x8)) + (f3_0 v0 (6 : Int32) x9 x8)) + (f3_0 v0 (7 : Int32) x9 x8)) + (f3_0 v0 (8 : Int32) x9 x8)) + (f3_0 v0 (9 : Int32) x9 x8)) + (f3_0 v0 (10 : Int32) x9 x8)) + (f3_0 v0 (11 : Int32) x9 x8)) + (f3_0 v0 (12 : Int32) x9 x8)) + (f3_0 v0 (13 : Int32) x9 x8)) + (f3_0 v0 (14 : Int32) x9 x8)) + (f3_0 v0 (15 : Int32) x9 x8)) + (f3_0 v0 (16 : Int32) x9 x8)))]) X102 hx hZ e102 hown (hw _ (List.mem_of_getElem? (i := 11) rfl)) (hw _ (List.mem_of_getElem? (i := 12) rfl)) (hw _ (List.mem_of_getElem? (i := 4) rfl)) (hw _ (List.mem_of_getElem? (i := 13) rfl)) (by decide) (rm3 l Z ag hw [] a0 v0 (17 : Int32) x9 x8 h Aa0 hs.2.2.2.2.2.2.2.2.2.2.2.2.2.2.2.2.2.2.1) (by decide) (by decide) (by rw [hml]; rfl) pd_3 rfl rfl rfl rfl (hb hby at_493) rfl rfl rfl (by decide) (by decide) rfl fun T103 X103 e103 => ?_
  refine o_iadd (pc' := 497)  X103 hx (hb hby at_496) rfl rfl ?_
  refine o_aload (pc' := 499) X103 hx (hb hby at_497) rfl rfl rfl ?_
  refine o_bipush (pc' := 501) (x := (18 : Int32)) X103 hx (hb hby at_499) (by decide) rfl ?_
  refine o_iload (pc' := 503) X103 hx (hb hby at_501) rfl rfl ?_
  refine o_iload (pc' := 505) X103 hx (hb hby at_503) rfl rfl ?_
  refine o_callP (W := 1) (pc' := 508) (argsL := [(.ref a0), (.int (18 : Int32)), (.int x9), (.int x8)]) (rest := [(.int ((((((((((((((((((f3_0 v0 (0 : Int32) x9 x8) + (f3_0 v0 (1 : Int32) x9 x8)) + (f3_0 v0 (2 : Int32) x9 x8)) + (f3_0 v0 (3 : Int32) x9 x8)) + (f3_0 v0 (4 : Int32) x9 x8)) + (f3_0 v0 (5 : Int32) x9 x8)) + (f3_0 v0 (6 : Int32) x9 x8)) + (f3_0 v0 (7 : Int32) x9 x8)) + (f3_0 v0 (8 : Int32) x9 x8)) + (f3_0 v0 (9 : Int32) x9 x8)) + (f3_0 v0 (10 : Int32) x9 x8)) + (f3_0 v0 (11 : Int32) x9 x8)) + (f3_0 v0 (12 : Int32) x9 x8)) + (f3_0 v0 (13 : Int32) x9 x8)) + (f3_0 v0 (14 : Int32) x9 x8)) + (f3_0 v0 (15 : Int32) x9 x8)) + (f3_0 v0 (16 : Int32) x9 x8)) + (f3_0 v0 (17 : Int32) x9 x8)))]) (st' := [(.int (f3_0 v0 (18 : Int32) x9 x8)), (.int ((((((((((((((((((f3_0 v0 (0 : Int32) x9 x8) + (f3_0 v0 (1 : Int32) x9 x8)) + (f3_0 v0 (2 : Int32) x9 x8)) + (f3_0 v0 (3 : Int32) x9 x8)) + (f3_0 v0 (4 : Int32) x9 x8)) + (f3_0 v0 (5 : Int32) x9 x8)) + (f3_0 v0 (6 : Int32) x9 x8)) + (f3_0 v0 (7 : Int32) x9 x8)) + (f3_0 v0 (8 : Int32) x9 x8)) + (f3_0 v0 (9 : Int32) x9 x8)) + (f3_0 v0 (10 : Int32) x9 x8)) + (f3_0 v0 (11 : Int32) x9 x8)) + (f3_0 v0 (12 : Int32) x9 x8)) + (f3_0 v0 (13 : Int32) x9 x8)) + (f3_0 v0 (14 : Int32) x9 x8)) + (f3_0 v0 (15 : Int32) x9 x8)) + (f3_0 v0 (16 : Int32) x9 x8)) + (f3_0 v0 (17 : Int32) x9 x8)))]) X103 hx hZ e103 hown (hw _ (List.mem_of_getElem? (i := 11) rfl)) (hw _ (List.mem_of_getElem? (i := 12) rfl)) (hw _ (List.mem_of_getElem? (i := 4) rfl)) (hw _ (List.mem_of_getElem? (i := 13) rfl)) (by decide) (rm3 l Z ag hw [] a0 v0 (18 : Int32) x9 x8 h Aa0 hs.2.2.2.2.2.2.2.2.2.2.2.2.2.2.2.2.2.2.2.1) (by decide) (by decide) (by rw [hml]; rfl) pd_3 rfl rfl rfl rfl (hb hby at_505) rfl rfl rfl (by decide) (by decide) rfl fun T104 X104 e104 => ?_
  refine o_iadd (pc' := 509)  X104 hx (hb hby at_508) rfl rfl ?_
  refine o_aload (pc' := 511) X104 hx (hb hby at_509) rfl rfl rfl ?_
  refine o_bipush (pc' := 513) (x := (19 : Int32)) X104 hx (hb hby at_511) (by decide) rfl ?_
  refine o_iload (pc' := 515) X104 hx (hb hby at_513) rfl rfl ?_
  refine o_iload (pc' := 517) X104 hx (hb hby at_515) rfl rfl ?_
  refine o_callP (W := 1) (pc' := 520) (argsL := [(.ref a0), (.int (19 : Int32)), (.int x9), (.int x8)]) (rest := [(.int (((((((((((((((((((f3_0 v0 (0 : Int32) x9 x8) + (f3_0 v0 (1 : Int32) x9 x8)) + (f3_0 v0 (2 : Int32) x9 x8)) + (f3_0 v0 (3 : Int32) x9 x8)) + (f3_0 v0 (4 : Int32) x9 x8)) + (f3_0 v0 (5 : Int32) x9 x8)) + (f3_0 v0 (6 : Int32) x9 x8)) + (f3_0 v0 (7 : Int32) x9 x8)) + (f3_0 v0 (8 : Int32) x9 x8)) + (f3_0 v0 (9 : Int32) x9 x8)) + (f3_0 v0 (10 : Int32) x9 x8)) + (f3_0 v0 (11 : Int32) x9 x8)) + (f3_0 v0 (12 : Int32) x9 x8)) + (f3_0 v0 (13 : Int32) x9 x8)) + (f3_0 v0 (14 : Int32) x9 x8)) + (f3_0 v0 (15 : Int32) x9 x8)) + (f3_0 v0 (16 : Int32) x9 x8)) + (f3_0 v0 (17 : Int32) x9 x8)) + (f3_0 v0 (18 : Int32) x9 x8)))]) (st' := [(.int (f3_0 v0 (19 : Int32) x9 x8)), (.int (((((((((((((((((((f3_0 v0 (0 : Int32) x9 x8) + (f3_0 v0 (1 : Int32) x9 x8)) + (f3_0 v0 (2 : Int32) x9 x8)) + (f3_0 v0 (3 : Int32) x9 x8)) + (f3_0 v0 (4 : Int32) x9 x8)) + (f3_0 v0 (5 : Int32) x9 x8)) + (f3_0 v0 (6 : Int32) x9 x8)) + (f3_0 v0 (7 : Int32) x9 x8)) + (f3_0 v0 (8 : Int32) x9 x8)) + (f3_0 v0 (9 : Int32) x9 x8)) + (f3_0 v0 (10 : Int32) x9 x8)) + (f3_0 v0 (11 : Int32) x9 x8)) + (f3_0 v0 (12 : Int32) x9 x8)) + (f3_0 v0 (13 : Int32) x9 x8)) + (f3_0 v0 (14 : Int32) x9 x8)) + (f3_0 v0 (15 : Int32) x9 x8)) + (f3_0 v0 (16 : Int32) x9 x8)) + (f3_0 v0 (17 : Int32) x9 x8)) + (f3_0 v0 (18 : Int32) x9 x8)))]) X104 hx hZ e104 hown (hw _ (List.mem_of_getElem? (i := 11) rfl)) (hw _ (List.mem_of_getElem? (i := 12) rfl)) (hw _ (List.mem_of_getElem? (i := 4) rfl)) (hw _ (List.mem_of_getElem? (i := 13) rfl)) (by decide) (rm3 l Z ag hw [] a0 v0 (19 : Int32) x9 x8 h Aa0 hs.2.2.2.2.2.2.2.2.2.2.2.2.2.2.2.2.2.2.2.2.1) (by decide) (by decide) (by rw [hml]; rfl) pd_3 rfl rfl rfl rfl (hb hby at_517) rfl rfl rfl (by decide) (by decide) rfl fun T105 X105 e105 => ?_
  refine o_iadd (pc' := 521)  X105 hx (hb hby at_520) rfl rfl ?_
  refine o_aload (pc' := 523) X105 hx (hb hby at_521) rfl rfl rfl ?_
  refine o_bipush (pc' := 525) (x := (20 : Int32)) X105 hx (hb hby at_523) (by decide) rfl ?_
  refine o_iload (pc' := 527) X105 hx (hb hby at_525) rfl rfl ?_
  refine o_iload (pc' := 529) X105 hx (hb hby at_527) rfl rfl ?_
  refine o_callP (W := 1) (pc' := 532) (argsL := [(.ref a0), (.int (20 : Int32)), (.int x9), (.int x8)]) (rest := [(.int ((((((((((((((((((((f3_0 v0 (0 : Int32) x9 x8) + (f3_0 v0 (1 : Int32) x9 x8)) + (f3_0 v0 (2 : Int32) x9 x8)) + (f3_0 v0 (3 : Int32) x9 x8)) + (f3_0 v0 (4 : Int32) x9 x8)) + (f3_0 v0 (5 : Int32) x9 x8)) + (f3_0 v0 (6 : Int32) x9 x8)) + (f3_0 v0 (7 : Int32) x9 x8)) + (f3_0 v0 (8 : Int32) x9 x8)) + (f3_0 v0 (9 : Int32) x9 x8)) + (f3_0 v0 (10 : Int32) x9 x8)) + (f3_0 v0 (11 : Int32) x9 x8)) + (f3_0 v0 (12 : Int32) x9 x8)) + (f3_0 v0 (13 : Int32) x9 x8)) + (f3_0 v0 (14 : Int32) x9 x8)) + (f3_0 v0 (15 : Int32) x9 x8)) + (f3_0 v0 (16 : Int32) x9 x8)) + (f3_0 v0 (17 : Int32) x9 x8)) + (f3_0 v0 (18 : Int32) x9 x8)) + (f3_0 v0 (19 : Int32) x9 x8)))]) (st' := [(.int (f3_0 v0 (20 : Int32) x9 x8)), (.int ((((((((((((((((((((f3_0 v0 (0 : Int32) x9 x8) + (f3_0 v0 (1 : Int32) x9 x8)) + (f3_0 v0 (2 : Int32) x9 x8)) + (f3_0 v0 (3 : Int32) x9 x8)) + (f3_0 v0 (4 : Int32) x9 x8)) + (f3_0 v0 (5 : Int32) x9 x8)) + (f3_0 v0 (6 : Int32) x9 x8)) + (f3_0 v0 (7 : Int32) x9 x8)) + (f3_0 v0 (8 : Int32) x9 x8)) + (f3_0 v0 (9 : Int32) x9 x8)) + (f3_0 v0 (10 : Int32) x9 x8)) + (f3_0 v0 (11 : Int32) x9 x8)) + (f3_0 v0 (12 : Int32) x9 x8)) + (f3_0 v0 (13 : Int32) x9 x8)) + (f3_0 v0 (14 : Int32) x9 x8)) + (f3_0 v0 (15 : Int32) x9 x8)) + (f3_0 v0 (16 : Int32) x9 x8)) + (f3_0 v0 (17 : Int32) x9 x8)) + (f3_0 v0 (18 : Int32) x9 x8)) + (f3_0 v0 (19 : Int32) x9 x8)))]) X105 hx hZ e105 hown (hw _ (List.mem_of_getElem? (i := 11) rfl)) (hw _ (List.mem_of_getElem? (i := 12) rfl)) (hw _ (List.mem_of_getElem? (i := 4) rfl)) (hw _ (List.mem_of_getElem? (i := 13) rfl)) (by decide) (rm3 l Z ag hw [] a0 v0 (20 : Int32) x9 x8 h Aa0 hs.2.2.2.2.2.2.2.2.2.2.2.2.2.2.2.2.2.2.2.2.2.1) (by decide) (by decide) (by rw [hml]; rfl) pd_3 rfl rfl rfl rfl (hb hby at_529) rfl rfl rfl (by decide) (by decide) rfl fun T106 X106 e106 => ?_
  refine o_iadd (pc' := 533)  X106 hx (hb hby at_532) rfl rfl ?_
  refine o_aload (pc' := 535) X106 hx (hb hby at_533) rfl rfl rfl ?_
  refine o_bipush (pc' := 537) (x := (21 : Int32)) X106 hx (hb hby at_535) (by decide) rfl ?_
  refine o_iload (pc' := 539) X106 hx (hb hby at_537) rfl rfl ?_
  refine o_iload (pc' := 541) X106 hx (hb hby at_539) rfl rfl ?_
  refine o_callP (W := 1) (pc' := 544) (argsL := [(.ref a0), (.int (21 : Int32)), (.int x9), (.int x8)]) (rest := [(.int (((((((((((((((((((((f3_0 v0 (0 : Int32) x9 x8) + (f3_0 v0 (1 : Int32) x9 x8)) + (f3_0 v0 (2 : Int32) x9 x8)) + (f3_0 v0 (3 : Int32) x9 x8)) + (f3_0 v0 (4 : Int32) x9 x8)) + (f3_0 v0 (5 : Int32) x9 x8)) + (f3_0 v0 (6 : Int32) x9 x8)) + (f3_0 v0 (7 : Int32) x9 x8)) + (f3_0 v0 (8 : Int32) x9 x8)) + (f3_0 v0 (9 : Int32) x9 x8)) + (f3_0 v0 (10 : Int32) x9 x8)) + (f3_0 v0 (11 : Int32) x9 x8)) + (f3_0 v0 (12 : Int32) x9 x8)) + (f3_0 v0 (13 : Int32) x9 x8)) + (f3_0 v0 (14 : Int32) x9 x8)) + (f3_0 v0 (15 : Int32) x9 x8)) + (f3_0 v0 (16 : Int32) x9 x8)) + (f3_0 v0 (17 : Int32) x9 x8)) + (f3_0 v0 (18 : Int32) x9 x8)) + (f3_0 v0 (19 : Int32) x9 x8)) + (f3_0 v0 (20 : Int32) x9 x8)))]) (st' := [(.int (f3_0 v0 (21 : Int32) x9 x8)), (.int (((((((((((((((((((((f3_0 v0 (0 : Int32) x9 x8) + (f3_0 v0 (1 : Int32) x9 x8)) + (f3_0 v0 (2 : Int32) x9 x8)) + (f3_0 v0 (3 : Int32) x9 x8)) + (f3_0 v0 (4 : Int32) x9 x8)) + (f3_0 v0 (5 : Int32) x9 x8)) + (f3_0 v0 (6 : Int32) x9 x8)) + (f3_0 v0 (7 : Int32) x9 x8)) + (f3_0 v0 (8 : Int32) x9 x8)) + (f3_0 v0 (9 : Int32) x9 x8)) + (f3_0 v0 (10 : Int32) x9 x8)) + (f3_0 v0 (11 : Int32) x9 x8)) + (f3_0 v0 (12 : Int32) x9 x8)) + (f3_0 v0 (13 : Int32) x9 x8)) + (f3_0 v0 (14 : Int32) x9 x8)) + (f3_0 v0 (15 : Int32) x9 x8)) + (f3_0 v0 (16 : Int32) x9 x8)) + (f3_0 v0 (17 : Int32) x9 x8)) + (f3_0 v0 (18 : Int32) x9 x8)) + (f3_0 v0 (19 : Int32) x9 x8)) + (f3_0 v0 (20 : Int32) x9 x8)))]) X106 hx hZ e106 hown (hw _ (List.mem_of_getElem? (i := 11) rfl)) (hw _ (List.mem_of_getElem? (i := 12) rfl)) (hw _ (List.mem_of_getElem? (i := 4) rfl)) (hw _ (List.mem_of_getElem? (i := 13) rfl)) (by decide) (rm3 l Z ag hw [] a0 v0 (21 : Int32) x9 x8 h Aa0 hs.2.2.2.2.2.2.2.2.2.2.2.2.2.2.2.2.2.2.2.2.2.2.1) (by decide) (by decide) (by rw [hml]; rfl) pd_3 rfl rfl rfl rfl (hb hby at_541) rfl rfl rfl (by decide) (by decide) rfl fun T107 X107 e107 => ?_
  refine o_iadd (pc' := 545)  X107 hx (hb hby at_544) rfl rfl ?_
  refine o_aload (pc' := 547) X107 hx (hb hby at_545) rfl rfl rfl ?_
  refine o_bipush (pc' := 549) (x := (22 : Int32)) X107 hx (hb hby at_547) (by decide) rfl ?_
  refine o_iload (pc' := 551) X107 hx (hb hby at_549) rfl rfl ?_
  refine o_iload (pc' := 553) X107 hx (hb hby at_551) rfl rfl ?_
  refine o_callP (W := 1) (pc' := 556) (argsL := [(.ref a0), (.int (22 : Int32)), (.int x9), (.int x8)]) (rest := [(.int ((((((((((((((((((((((f3_0 v0 (0 : Int32) x9 x8) + (f3_0 v0 (1 : Int32) x9 x8)) + (f3_0 v0 (2 : Int32) x9 x8)) + (f3_0 v0 (3 : Int32) x9 x8)) + (f3_0 v0 (4 : Int32) x9 x8)) + (f3_0 v0 (5 : Int32) x9 x8)) + (f3_0 v0 (6 : Int32) x9 x8)) + (f3_0 v0 (7 : Int32) x9 x8)) + (f3_0 v0 (8 : Int32) x9 x8)) + (f3_0 v0 (9 : Int32) x9 x8)) + (f3_0 v0 (10 : Int32) x9 x8)) + (f3_0 v0 (11 : Int32) x9 x8)) + (f3_0 v0 (12 : Int32) x9 x8)) + (f3_0 v0 (13 : Int32) x9 x8)) + (f3_0 v0 (14 : Int32) x9 x8)) + (f3_0 v0 (15 : Int32) x9 x8)) + (f3_0 v0 (16 : Int32) x9 x8)) + (f3_0 v0 (17 : Int32) x9 x8)) + (f3_0 v0 (18 : Int32) x9 x8)) + (f3_0 v0 (19 : Int32) x9 x8)) + (f3_0 v0 (20 : Int32) x9 x8)) + (f3_0 v0 (21 : Int32) x9 x8)))]) (st' := [(.int (f3_0 v0 (22 : Int32) x9 x8)), (.int ((((((((((((((((((((((f3_0 v0 (0 : Int32) x9 x8) + (f3_0 v0 (1 : Int32) x9 x8)) + (f3_0 v0 (2 : Int32) x9 x8)) + (f3_0 v0 (3 : Int32) x9 x8)) + (f3_0 v0 (4 : Int32) x9 x8)) + (f3_0 v0 (5 : Int32) x9 x8)) + (f3_0 v0 (6 : Int32) x9 x8)) + (f3_0 v0 (7 : Int32) x9 x8)) + (f3_0 v0 (8 : Int32) x9 x8)) + (f3_0 v0 (9 : Int32) x9 x8)) + (f3_0 v0 (10 : Int32) x9 x8)) + (f3_0 v0 (11 : Int32) x9 x8)) + (f3_0 v0 (12 : Int32) x9 x8)) + (f3_0 v0 (13 : Int32) x9 x8)) + (f3_0 v0 (14 : Int32) x9 x8)) + (f3_0 v0 (15 : Int32) x9 x8)) + (f3_0 v0 (16 : Int32) x9 x8)) + (f3_0 v0 (17 : Int32) x9 x8)) + (f3_0 v0 (18 : Int32) x9 x8)) + (f3_0 v0 (19 : Int32) x9 x8)) + (f3_0 v0 (20 : Int32) x9 x8)) + (f3_0 v0 (21 : Int32) x9 x8)))]) X107 hx hZ e107 hown (hw _ (List.mem_of_getElem? (i := 11) rfl)) (hw _ (List.mem_of_getElem? (i := 12) rfl)) (hw _ (List.mem_of_getElem? (i := 4) rfl)) (hw _ (List.mem_of_getElem? (i := 13) rfl)) (by decide) (rm3 l Z ag hw [] a0 v0 (22 : Int32) x9 x8 h Aa0 hs.2.2.2.2.2.2.2.2.2.2.2.2.2.2.2.2.2.2.2.2.2.2.2.1) (by decide) (by decide) (by rw [hml]; rfl) pd_3 rfl rfl rfl rfl (hb hby at_553) rfl rfl rfl (by decide) (by decide) rfl fun T108 X108 e108 => ?_
  refine o_iadd (pc' := 557)  X108 hx (hb hby at_556) rfl rfl ?_
  refine o_aload (pc' := 559) X108 hx (hb hby at_557) rfl rfl rfl ?_
  refine o_bipush (pc' := 561) (x := (23 : Int32)) X108 hx (hb hby at_559) (by decide) rfl ?_
  refine o_iload (pc' := 563) X108 hx (hb hby at_561) rfl rfl ?_
  refine o_iload (pc' := 565) X108 hx (hb hby at_563) rfl rfl ?_
  refine o_callP (W := 1) (pc' := 568) (argsL := [(.ref a0), (.int (23 : Int32)), (.int x9), (.int x8)]) (rest := [(.int (((((((((((((((((((((((f3_0 v0 (0 : Int32) x9 x8) + (f3_0 v0 (1 : Int32) x9 x8)) + (f3_0 v0 (2 : Int32) x9 x8)) + (f3_0 v0 (3 : Int32) x9 x8)) + (f3_0 v0 (4 : Int32) x9 x8)) + (f3_0 v0 (5 : Int32) x9 x8)) + (f3_0 v0 (6 : Int32) x9 x8)) + (f3_0 v0 (7 : Int32) x9 x8)) + (f3_0 v0 (8 : Int32) x9 x8)) + (f3_0 v0 (9 : Int32) x9 x8)) + (f3_0 v0 (10 : Int32) x9 x8)) + (f3_0 v0 (11 : Int32) x9 x8)) + (f3_0 v0 (12 : Int32) x9 x8)) + (f3_0 v0 (13 : Int32) x9 x8)) + (f3_0 v0 (14 : Int32) x9 x8)) + (f3_0 v0 (15 : Int32) x9 x8)) + (f3_0 v0 (16 : Int32) x9 x8)) + (f3_0 v0 (17 : Int32) x9 x8)) + (f3_0 v0 (18 : Int32) x9 x8)) + (f3_0 v0 (19 : Int32) x9 x8)) + (f3_0 v0 (20 : Int32) x9 x8)) + (f3_0 v0 (21 : Int32) x9 x8)) + (f3_0 v0 (22 : Int32) x9 x8)))]) (st' := [(.int (f3_0 v0 (23 : Int32) x9 x8)), (.int (((((((((((((((((((((((f3_0 v0 (0 : Int32) x9 x8) + (f3_0 v0 (1 : Int32) x9 x8)) + (f3_0 v0 (2 : Int32) x9 x8)) + (f3_0 v0 (3 : Int32) x9 x8)) + (f3_0 v0 (4 : Int32) x9 x8)) + (f3_0 v0 (5 : Int32) x9 x8)) + (f3_0 v0 (6 : Int32) x9 x8)) + (f3_0 v0 (7 : Int32) x9 x8)) + (f3_0 v0 (8 : Int32) x9 x8)) + (f3_0 v0 (9 : Int32) x9 x8)) + (f3_0 v0 (10 : Int32) x9 x8)) + (f3_0 v0 (11 : Int32) x9 x8)) + (f3_0 v0 (12 : Int32) x9 x8)) + (f3_0 v0 (13 : Int32) x9 x8)) + (f3_0 v0 (14 : Int32) x9 x8)) + (f3_0 v0 (15 : Int32) x9 x8)) + (f3_0 v0 (16 : Int32) x9 x8)) + (f3_0 v0 (17 : Int32) x9 x8)) + (f3_0 v0 (18 : Int32) x9 x8)) + (f3_0 v0 (19 : Int32) x9 x8)) + (f3_0 v0 (20 : Int32) x9 x8)) + (f3_0 v0 (21 : Int32) x9 x8)) + (f3_0 v0 (22 : Int32) x9 x8)))]) X108 hx hZ e108 hown (hw _ (List.mem_of_getElem? (i := 11) rfl)) (hw _ (List.mem_of_getElem? (i := 12) rfl)) (hw _ (List.mem_of_getElem? (i := 4) rfl)) (hw _ (List.mem_of_getElem? (i := 13) rfl)) (by decide) (rm3 l Z ag hw [] a0 v0 (23 : Int32) x9 x8 h Aa0 hs.2.2.2.2.2.2.2.2.2.2.2.2.2.2.2.2.2.2.2.2.2.2.2.2.1) (by decide) (by decide) (by rw [hml]; rfl) pd_3 rfl rfl rfl rfl (hb hby at_565) rfl rfl rfl (by decide) (by decide) rfl fun T109 X109 e109 => ?_
  refine o_iadd (pc' := 569)  X109 hx (hb hby at_568) rfl rfl ?_
  refine o_istoreS (pc' := 571) (l' := #[.val (.long z0), .second, .val (.long z2), .second, .val (.long z4), .second, z6, z7, .val (.int x8), .val (.int x9), .val (.ref a0), .val (.int (f2_0 v0 x9 x8)), .val (.int ((((((((((((((((((((((((f3_0 v0 (0 : Int32) x9 x8) + (f3_0 v0 (1 : Int32) x9 x8)) + (f3_0 v0 (2 : Int32) x9 x8)) + (f3_0 v0 (3 : Int32) x9 x8)) + (f3_0 v0 (4 : Int32) x9 x8)) + (f3_0 v0 (5 : Int32) x9 x8)) + (f3_0 v0 (6 : Int32) x9 x8)) + (f3_0 v0 (7 : Int32) x9 x8)) + (f3_0 v0 (8 : Int32) x9 x8)) + (f3_0 v0 (9 : Int32) x9 x8)) + (f3_0 v0 (10 : Int32) x9 x8)) + (f3_0 v0 (11 : Int32) x9 x8)) + (f3_0 v0 (12 : Int32) x9 x8)) + (f3_0 v0 (13 : Int32) x9 x8)) + (f3_0 v0 (14 : Int32) x9 x8)) + (f3_0 v0 (15 : Int32) x9 x8)) + (f3_0 v0 (16 : Int32) x9 x8)) + (f3_0 v0 (17 : Int32) x9 x8)) + (f3_0 v0 (18 : Int32) x9 x8)) + (f3_0 v0 (19 : Int32) x9 x8)) + (f3_0 v0 (20 : Int32) x9 x8)) + (f3_0 v0 (21 : Int32) x9 x8)) + (f3_0 v0 (22 : Int32) x9 x8)) + (f3_0 v0 (23 : Int32) x9 x8))), z13, .unset, .unset, z16]) X109 hx (hb hby at_569) rfl hz12 rfl rfl ?_
  refine o_iload (pc' := 573) X109 hx (hb hby at_571) rfl rfl ?_
  refine o_iload (pc' := 575) X109 hx (hb hby at_573) rfl rfl ?_
  refine o_callP (W := 1) (pc' := 578) (argsL := [(.int x8)]) (rest := [(.int x8)]) (st' := [(.int (f4_0 x8)), (.int x8)]) X109 hx hZ e109 hown (hw _ (List.mem_of_getElem? (i := 14) rfl)) (hw _ (List.mem_of_getElem? (i := 15) rfl)) (hw _ (List.mem_of_getElem? (i := 4) rfl)) (hw _ (List.mem_of_getElem? (i := 16) rfl)) (by decide) (rm4 l Z ag hw [] x8 h) (by decide) (by decide) (by rw [hml]; rfl) pd_0 rfl rfl rfl rfl (hb hby at_575) rfl rfl rfl (by decide) (by decide) rfl fun T110 X110 e110 => ?_
  refine o_imul (pc' := 579)  X110 hx (hb hby at_578) rfl rfl ?_
  refine o_iload (pc' := 581) X110 hx (hb hby at_579) rfl rfl ?_
  refine o_iadd (pc' := 582)  X110 hx (hb hby at_581) rfl rfl ?_
  refine o_istoreS (pc' := 584) (l' := #[.val (.long z0), .second, .val (.long z2), .second, .val (.long z4), .second, z6, z7, .val (.int x8), .val (.int x9), .val (.ref a0), .val (.int (f2_0 v0 x9 x8)), .val (.int ((((((((((((((((((((((((f3_0 v0 (0 : Int32) x9 x8) + (f3_0 v0 (1 : Int32) x9 x8)) + (f3_0 v0 (2 : Int32) x9 x8)) + (f3_0 v0 (3 : Int32) x9 x8)) + (f3_0 v0 (4 : Int32) x9 x8)) + (f3_0 v0 (5 : Int32) x9 x8)) + (f3_0 v0 (6 : Int32) x9 x8)) + (f3_0 v0 (7 : Int32) x9 x8)) + (f3_0 v0 (8 : Int32) x9 x8)) + (f3_0 v0 (9 : Int32) x9 x8)) + (f3_0 v0 (10 : Int32) x9 x8)) + (f3_0 v0 (11 : Int32) x9 x8)) + (f3_0 v0 (12 : Int32) x9 x8)) + (f3_0 v0 (13 : Int32) x9 x8)) + (f3_0 v0 (14 : Int32) x9 x8)) + (f3_0 v0 (15 : Int32) x9 x8)) + (f3_0 v0 (16 : Int32) x9 x8)) + (f3_0 v0 (17 : Int32) x9 x8)) + (f3_0 v0 (18 : Int32) x9 x8)) + (f3_0 v0 (19 : Int32) x9 x8)) + (f3_0 v0 (20 : Int32) x9 x8)) + (f3_0 v0 (21 : Int32) x9 x8)) + (f3_0 v0 (22 : Int32) x9 x8)) + (f3_0 v0 (23 : Int32) x9 x8))), .val (.int ((x8 * (f4_0 x8)) + ((((((((((((((((((((((((f3_0 v0 (0 : Int32) x9 x8) + (f3_0 v0 (1 : Int32) x9 x8)) + (f3_0 v0 (2 : Int32) x9 x8)) + (f3_0 v0 (3 : Int32) x9 x8)) + (f3_0 v0 (4 : Int32) x9 x8)) + (f3_0 v0 (5 : Int32) x9 x8)) + (f3_0 v0 (6 : Int32) x9 x8)) + (f3_0 v0 (7 : Int32) x9 x8)) + (f3_0 v0 (8 : Int32) x9 x8)) + (f3_0 v0 (9 : Int32) x9 x8)) + (f3_0 v0 (10 : Int32) x9 x8)) + (f3_0 v0 (11 : Int32) x9 x8)) + (f3_0 v0 (12 : Int32) x9 x8)) + (f3_0 v0 (13 : Int32) x9 x8)) + (f3_0 v0 (14 : Int32) x9 x8)) + (f3_0 v0 (15 : Int32) x9 x8)) + (f3_0 v0 (16 : Int32) x9 x8)) + (f3_0 v0 (17 : Int32) x9 x8)) + (f3_0 v0 (18 : Int32) x9 x8)) + (f3_0 v0 (19 : Int32) x9 x8)) + (f3_0 v0 (20 : Int32) x9 x8)) + (f3_0 v0 (21 : Int32) x9 x8)) + (f3_0 v0 (22 : Int32) x9 x8)) + (f3_0 v0 (23 : Int32) x9 x8)))), .unset, .unset, z16]) X110 hx (hb hby at_582) rfl hz13 rfl rfl ?_
  refine o_iload (pc' := 586) X110 hx (hb hby at_584) rfl rfl ?_
  refine o_i2l (pc' := 587)  X110 hx (hb hby at_586) rfl rfl ?_
  refine o_ldcL (pc' := 590) X110 hx hZ hown (hw _ (List.mem_of_getElem? (i := 17) rfl)) (hb hby at_587) rfl ?_
  refine o_land (pc' := 591)  X110 hx (hb hby at_590) rfl rfl ?_
  refine o_ldcL (pc' := 594) X110 hx hZ hown (hw _ (List.mem_of_getElem? (i := 18) rfl)) (hb hby at_591) rfl ?_
  refine o_lmul (pc' := 595)  X110 hx (hb hby at_594) rfl rfl ?_
  refine o_ldcL (pc' := 598) X110 hx hZ hown (hw _ (List.mem_of_getElem? (i := 17) rfl)) (hb hby at_595) rfl ?_
  refine o_land (pc' := 599)  X110 hx (hb hby at_598) rfl rfl ?_
  refine o_lstore (pc' := 601) (l' := #[.val (.long z0), .second, .val (.long z2), .second, .val (.long z4), .second, z6, z7, .val (.int x8), .val (.int x9), .val (.ref a0), .val (.int (f2_0 v0 x9 x8)), .val (.int ((((((((((((((((((((((((f3_0 v0 (0 : Int32) x9 x8) + (f3_0 v0 (1 : Int32) x9 x8)) + (f3_0 v0 (2 : Int32) x9 x8)) + (f3_0 v0 (3 : Int32) x9 x8)) + (f3_0 v0 (4 : Int32) x9 x8)) + (f3_0 v0 (5 : Int32) x9 x8)) + (f3_0 v0 (6 : Int32) x9 x8)) + (f3_0 v0 (7 : Int32) x9 x8)) + (f3_0 v0 (8 : Int32) x9 x8)) + (f3_0 v0 (9 : Int32) x9 x8)) + (f3_0 v0 (10 : Int32) x9 x8)) + (f3_0 v0 (11 : Int32) x9 x8)) + (f3_0 v0 (12 : Int32) x9 x8)) + (f3_0 v0 (13 : Int32) x9 x8)) + (f3_0 v0 (14 : Int32) x9 x8)) + (f3_0 v0 (15 : Int32) x9 x8)) + (f3_0 v0 (16 : Int32) x9 x8)) + (f3_0 v0 (17 : Int32) x9 x8)) + (f3_0 v0 (18 : Int32) x9 x8)) + (f3_0 v0 (19 : Int32) x9 x8)) + (f3_0 v0 (20 : Int32) x9 x8)) + (f3_0 v0 (21 : Int32) x9 x8)) + (f3_0 v0 (22 : Int32) x9 x8)) + (f3_0 v0 (23 : Int32) x9 x8))), .val (.int ((x8 * (f4_0 x8)) + ((((((((((((((((((((((((f3_0 v0 (0 : Int32) x9 x8) + (f3_0 v0 (1 : Int32) x9 x8)) + (f3_0 v0 (2 : Int32) x9 x8)) + (f3_0 v0 (3 : Int32) x9 x8)) + (f3_0 v0 (4 : Int32) x9 x8)) + (f3_0 v0 (5 : Int32) x9 x8)) + (f3_0 v0 (6 : Int32) x9 x8)) + (f3_0 v0 (7 : Int32) x9 x8)) + (f3_0 v0 (8 : Int32) x9 x8)) + (f3_0 v0 (9 : Int32) x9 x8)) + (f3_0 v0 (10 : Int32) x9 x8)) + (f3_0 v0 (11 : Int32) x9 x8)) + (f3_0 v0 (12 : Int32) x9 x8)) + (f3_0 v0 (13 : Int32) x9 x8)) + (f3_0 v0 (14 : Int32) x9 x8)) + (f3_0 v0 (15 : Int32) x9 x8)) + (f3_0 v0 (16 : Int32) x9 x8)) + (f3_0 v0 (17 : Int32) x9 x8)) + (f3_0 v0 (18 : Int32) x9 x8)) + (f3_0 v0 (19 : Int32) x9 x8)) + (f3_0 v0 (20 : Int32) x9 x8)) + (f3_0 v0 (21 : Int32) x9 x8)) + (f3_0 v0 (22 : Int32) x9 x8)) + (f3_0 v0 (23 : Int32) x9 x8)))), .val (.long ((((((x8 * (f4_0 x8)) + ((((((((((((((((((((((((f3_0 v0 (0 : Int32) x9 x8) + (f3_0 v0 (1 : Int32) x9 x8)) + (f3_0 v0 (2 : Int32) x9 x8)) + (f3_0 v0 (3 : Int32) x9 x8)) + (f3_0 v0 (4 : Int32) x9 x8)) + (f3_0 v0 (5 : Int32) x9 x8)) + (f3_0 v0 (6 : Int32) x9 x8)) + (f3_0 v0 (7 : Int32) x9 x8)) + (f3_0 v0 (8 : Int32) x9 x8)) + (f3_0 v0 (9 : Int32) x9 x8)) + (f3_0 v0 (10 : Int32) x9 x8)) + (f3_0 v0 (11 : Int32) x9 x8)) + (f3_0 v0 (12 : Int32) x9 x8)) + (f3_0 v0 (13 : Int32) x9 x8)) + (f3_0 v0 (14 : Int32) x9 x8)) + (f3_0 v0 (15 : Int32) x9 x8)) + (f3_0 v0 (16 : Int32) x9 x8)) + (f3_0 v0 (17 : Int32) x9 x8)) + (f3_0 v0 (18 : Int32) x9 x8)) + (f3_0 v0 (19 : Int32) x9 x8)) + (f3_0 v0 (20 : Int32) x9 x8)) + (f3_0 v0 (21 : Int32) x9 x8)) + (f3_0 v0 (22 : Int32) x9 x8)) + (f3_0 v0 (23 : Int32) x9 x8))).toInt64) &&& (4294967295 : Int64)) * (2654435769 : Int64)) &&& (4294967295 : Int64))), .second, z16]) X110 hx (hb hby at_599) rfl rfl ?_
  refine o_lload (pc' := 603) X110 hx (hb hby at_601) rfl rfl ?_
  refine o_bipush (pc' := 605) (x := (22 : Int32)) X110 hx (hb hby at_603) (by decide) rfl ?_
  refine o_lushr (pc' := 606)  X110 hx (hb hby at_605) rfl rfl ?_
  refine o_l2i (pc' := 607)  X110 hx (hb hby at_606) rfl rfl ?_
  refine o_istoreS (pc' := 609) (l' := #[.val (.long z0), .second, .val (.long z2), .second, .val (.long z4), .second, z6, z7, .val (.int x8), .val (.int x9), .val (.ref a0), .val (.int (f2_0 v0 x9 x8)), .val (.int ((((((((((((((((((((((((f3_0 v0 (0 : Int32) x9 x8) + (f3_0 v0 (1 : Int32) x9 x8)) + (f3_0 v0 (2 : Int32) x9 x8)) + (f3_0 v0 (3 : Int32) x9 x8)) + (f3_0 v0 (4 : Int32) x9 x8)) + (f3_0 v0 (5 : Int32) x9 x8)) + (f3_0 v0 (6 : Int32) x9 x8)) + (f3_0 v0 (7 : Int32) x9 x8)) + (f3_0 v0 (8 : Int32) x9 x8)) + (f3_0 v0 (9 : Int32) x9 x8)) + (f3_0 v0 (10 : Int32) x9 x8)) + (f3_0 v0 (11 : Int32) x9 x8)) + (f3_0 v0 (12 : Int32) x9 x8)) + (f3_0 v0 (13 : Int32) x9 x8)) + (f3_0 v0 (14 : Int32) x9 x8)) + (f3_0 v0 (15 : Int32) x9 x8)) + (f3_0 v0 (16 : Int32) x9 x8)) + (f3_0 v0 (17 : Int32) x9 x8)) + (f3_0 v0 (18 : Int32) x9 x8)) + (f3_0 v0 (19 : Int32) x9 x8)) + (f3_0 v0 (20 : Int32) x9 x8)) + (f3_0 v0 (21 : Int32) x9 x8)) + (f3_0 v0 (22 : Int32) x9 x8)) + (f3_0 v0 (23 : Int32) x9 x8))), .val (.int ((x8 * (f4_0 x8)) + ((((((((((((((((((((((((f3_0 v0 (0 : Int32) x9 x8) + (f3_0 v0 (1 : Int32) x9 x8)) + (f3_0 v0 (2 : Int32) x9 x8)) + (f3_0 v0 (3 : Int32) x9 x8)) + (f3_0 v0 (4 : Int32) x9 x8)) + (f3_0 v0 (5 : Int32) x9 x8)) + (f3_0 v0 (6 : Int32) x9 x8)) + (f3_0 v0 (7 : Int32) x9 x8)) + (f3_0 v0 (8 : Int32) x9 x8)) + (f3_0 v0 (9 : Int32) x9 x8)) + (f3_0 v0 (10 : Int32) x9 x8)) + (f3_0 v0 (11 : Int32) x9 x8)) + (f3_0 v0 (12 : Int32) x9 x8)) + (f3_0 v0 (13 : Int32) x9 x8)) + (f3_0 v0 (14 : Int32) x9 x8)) + (f3_0 v0 (15 : Int32) x9 x8)) + (f3_0 v0 (16 : Int32) x9 x8)) + (f3_0 v0 (17 : Int32) x9 x8)) + (f3_0 v0 (18 : Int32) x9 x8)) + (f3_0 v0 (19 : Int32) x9 x8)) + (f3_0 v0 (20 : Int32) x9 x8)) + (f3_0 v0 (21 : Int32) x9 x8)) + (f3_0 v0 (22 : Int32) x9 x8)) + (f3_0 v0 (23 : Int32) x9 x8)))), .val (.long ((((((x8 * (f4_0 x8)) + ((((((((((((((((((((((((f3_0 v0 (0 : Int32) x9 x8) + (f3_0 v0 (1 : Int32) x9 x8)) + (f3_0 v0 (2 : Int32) x9 x8)) + (f3_0 v0 (3 : Int32) x9 x8)) + (f3_0 v0 (4 : Int32) x9 x8)) + (f3_0 v0 (5 : Int32) x9 x8)) + (f3_0 v0 (6 : Int32) x9 x8)) + (f3_0 v0 (7 : Int32) x9 x8)) + (f3_0 v0 (8 : Int32) x9 x8)) + (f3_0 v0 (9 : Int32) x9 x8)) + (f3_0 v0 (10 : Int32) x9 x8)) + (f3_0 v0 (11 : Int32) x9 x8)) + (f3_0 v0 (12 : Int32) x9 x8)) + (f3_0 v0 (13 : Int32) x9 x8)) + (f3_0 v0 (14 : Int32) x9 x8)) + (f3_0 v0 (15 : Int32) x9 x8)) + (f3_0 v0 (16 : Int32) x9 x8)) + (f3_0 v0 (17 : Int32) x9 x8)) + (f3_0 v0 (18 : Int32) x9 x8)) + (f3_0 v0 (19 : Int32) x9 x8)) + (f3_0 v0 (20 : Int32) x9 x8)) + (f3_0 v0 (21 : Int32) x9 x8)) + (f3_0 v0 (22 : Int32) x9 x8)) + (f3_0 v0 (23 : Int32) x9 x8))).toInt64) &&& (4294967295 : Int64)) * (2654435769 : Int64)) &&& (4294967295 : Int64))), .second, .val (.int (own_lushr ((((((x8 * (f4_0 x8)) + ((((((((((((((((((((((((f3_0 v0 (0 : Int32) x9 x8) + (f3_0 v0 (1 : Int32) x9 x8)) + (f3_0 v0 (2 : Int32) x9 x8)) + (f3_0 v0 (3 : Int32) x9 x8)) + (f3_0 v0 (4 : Int32) x9 x8)) + (f3_0 v0 (5 : Int32) x9 x8)) + (f3_0 v0 (6 : Int32) x9 x8)) + (f3_0 v0 (7 : Int32) x9 x8)) + (f3_0 v0 (8 : Int32) x9 x8)) + (f3_0 v0 (9 : Int32) x9 x8)) + (f3_0 v0 (10 : Int32) x9 x8)) + (f3_0 v0 (11 : Int32) x9 x8)) + (f3_0 v0 (12 : Int32) x9 x8)) + (f3_0 v0 (13 : Int32) x9 x8)) + (f3_0 v0 (14 : Int32) x9 x8)) + (f3_0 v0 (15 : Int32) x9 x8)) + (f3_0 v0 (16 : Int32) x9 x8)) + (f3_0 v0 (17 : Int32) x9 x8)) + (f3_0 v0 (18 : Int32) x9 x8)) + (f3_0 v0 (19 : Int32) x9 x8)) + (f3_0 v0 (20 : Int32) x9 x8)) + (f3_0 v0 (21 : Int32) x9 x8)) + (f3_0 v0 (22 : Int32) x9 x8)) + (f3_0 v0 (23 : Int32) x9 x8))).toInt64) &&& (4294967295 : Int64)) * (2654435769 : Int64)) &&& (4294967295 : Int64)) (22 : Int32)).toInt32)]) X110 hx (hb hby at_607) rfl hz16 rfl rfl ?_
  refine o_iload (pc' := 611) X110 hx (hb hby at_609) rfl rfl ?_
  refine o_iload (pc' := 613) X110 hx (hb hby at_611) rfl rfl ?_
  refine o_icN (P := (f2_0 v0 x9 x8) = (own_lushr ((((((x8 * (f4_0 x8)) + ((((((((((((((((((((((((f3_0 v0 (0 : Int32) x9 x8) + (f3_0 v0 (1 : Int32) x9 x8)) + (f3_0 v0 (2 : Int32) x9 x8)) + (f3_0 v0 (3 : Int32) x9 x8)) + (f3_0 v0 (4 : Int32) x9 x8)) + (f3_0 v0 (5 : Int32) x9 x8)) + (f3_0 v0 (6 : Int32) x9 x8)) + (f3_0 v0 (7 : Int32) x9 x8)) + (f3_0 v0 (8 : Int32) x9 x8)) + (f3_0 v0 (9 : Int32) x9 x8)) + (f3_0 v0 (10 : Int32) x9 x8)) + (f3_0 v0 (11 : Int32) x9 x8)) + (f3_0 v0 (12 : Int32) x9 x8)) + (f3_0 v0 (13 : Int32) x9 x8)) + (f3_0 v0 (14 : Int32) x9 x8)) + (f3_0 v0 (15 : Int32) x9 x8)) + (f3_0 v0 (16 : Int32) x9 x8)) + (f3_0 v0 (17 : Int32) x9 x8)) + (f3_0 v0 (18 : Int32) x9 x8)) + (f3_0 v0 (19 : Int32) x9 x8)) + (f3_0 v0 (20 : Int32) x9 x8)) + (f3_0 v0 (21 : Int32) x9 x8)) + (f3_0 v0 (22 : Int32) x9 x8)) + (f3_0 v0 (23 : Int32) x9 x8))).toInt64) &&& (4294967295 : Int64)) * (2654435769 : Int64)) &&& (4294967295 : Int64)) (22 : Int32)).toInt32) (pc1 := 620) (pc2 := 616) X110 hx XT.ii_ne_f XT.ii_ne_t (hb hby at_613) (by decide) (by decide) rfl (fun c111 => ?_) (fun c111 => ?_)
  · rw [if_neg c111] at hK
    refine o_iconst (pc' := 621) (x := (0 : Int32)) X110 hx (hb hby at_620) (by decide) rfl ?_
    exact b0_621 C X110 e110 hz6 hz7 (One.val rfl) (One.val rfl) (One.val rfl) (One.val rfl) (One.val rfl) (One.val rfl) (One.val rfl) hK
  · rw [if_pos c111] at hK
    refine o_iconst (pc' := 617) (x := (1 : Int32)) X110 hx (hb hby at_616) (by decide) rfl ?_
    refine o_goto (pc' := 621) X110 hx (hb hby at_617) (by decide) (by decide) ?_
    exact b0_621_3 C X110 e110 hz6 hz7 (One.val rfl) (One.val rfl) (One.val rfl) (One.val rfl) (One.val rfl) (One.val rfl) (One.val rfl) hK

def f0_0 (q0 : Int64) (q1 : Int64) (q2 : Int64) (p3 : Int32) (p4 : Int32) : Int32 := (f0_277 (own_rem (p3 &&& (2147483647 : Int32)) (24 : Int32)) (own_rem (p4 &&& (2147483647 : Int32)) ((25 : Int32) - (own_rem (p3 &&& (2147483647 : Int32)) (24 : Int32)))) [(own_i2b (f1_0 q0 (0 : Int32))), (own_i2b (f1_0 q0 (1 : Int32))), (own_i2b (f1_0 q0 (2 : Int32))), (own_i2b (f1_0 q0 (3 : Int32))), (own_i2b (f1_0 q0 (4 : Int32))), (own_i2b (f1_0 q0 (5 : Int32))), (own_i2b (f1_0 q0 (6 : Int32))), (own_i2b (f1_0 q0 (7 : Int32))), (own_i2b (f1_0 q1 (0 : Int32))), (own_i2b (f1_0 q1 (1 : Int32))), (own_i2b (f1_0 q1 (2 : Int32))), (own_i2b (f1_0 q1 (3 : Int32))), (own_i2b (f1_0 q1 (4 : Int32))), (own_i2b (f1_0 q1 (5 : Int32))), (own_i2b (f1_0 q1 (6 : Int32))), (own_i2b (f1_0 q1 (7 : Int32))), (own_i2b (f1_0 q2 (0 : Int32))), (own_i2b (f1_0 q2 (1 : Int32))), (own_i2b (f1_0 q2 (2 : Int32))), (own_i2b (f1_0 q2 (3 : Int32))), (own_i2b (f1_0 q2 (4 : Int32))), (own_i2b (f1_0 q2 (5 : Int32))), (own_i2b (f1_0 q2 (6 : Int32))), (own_i2b (f1_0 q2 (7 : Int32)))])
def s0_0 (q0 : Int64) (q1 : Int64) (q2 : Int64) (p3 : Int32) (p4 : Int32) : Prop := (¬ (((25 : Int32) - (own_rem (p3 &&& (2147483647 : Int32)) (24 : Int32))) = 0) ∧ s0_277 (own_rem (p3 &&& (2147483647 : Int32)) (24 : Int32)) (own_rem (p4 &&& (2147483647 : Int32)) ((25 : Int32) - (own_rem (p3 &&& (2147483647 : Int32)) (24 : Int32)))) [(own_i2b (f1_0 q0 (0 : Int32))), (own_i2b (f1_0 q0 (1 : Int32))), (own_i2b (f1_0 q0 (2 : Int32))), (own_i2b (f1_0 q0 (3 : Int32))), (own_i2b (f1_0 q0 (4 : Int32))), (own_i2b (f1_0 q0 (5 : Int32))), (own_i2b (f1_0 q0 (6 : Int32))), (own_i2b (f1_0 q0 (7 : Int32))), (own_i2b (f1_0 q1 (0 : Int32))), (own_i2b (f1_0 q1 (1 : Int32))), (own_i2b (f1_0 q1 (2 : Int32))), (own_i2b (f1_0 q1 (3 : Int32))), (own_i2b (f1_0 q1 (4 : Int32))), (own_i2b (f1_0 q1 (5 : Int32))), (own_i2b (f1_0 q1 (6 : Int32))), (own_i2b (f1_0 q1 (7 : Int32))), (own_i2b (f1_0 q2 (0 : Int32))), (own_i2b (f1_0 q2 (1 : Int32))), (own_i2b (f1_0 q2 (2 : Int32))), (own_i2b (f1_0 q2 (3 : Int32))), (own_i2b (f1_0 q2 (4 : Int32))), (own_i2b (f1_0 q2 (5 : Int32))), (own_i2b (f1_0 q2 (6 : Int32))), (own_i2b (f1_0 q2 (7 : Int32)))])
set_option maxRecDepth 65536 in
set_option maxHeartbeats 40000000 in
theorem b0_0 (C : own_Cx p s m meth c Z ag code maxLocals "com/example/plumbline/plumbline/core/TextKeysSlotPinLaw" ret "law") {T : State} {h : Heap} (q0 : Int64) (q1 : Int64) (q2 : Int64) (p3 : Int32) (p4 : Int32) (X : Stand p l e R0 s m args below meth c T [] 0 0) (eT : T.heap = h) (hs : s0_0 q0 q1 q2 p3 p4) (hK : ∀ h', K (some (.int (f0_0 q0 q1 q2 p3 p4))) h' []) : own_Go p e below (own_Q s K cc0 ss0) T (mkF m 0 #[.val (.long q0), .second, .val (.long q1), .second, .val (.long q2), .second, .val (.int p3), .val (.int p4), .unset, .unset, .unset, .unset, .unset, .unset, .unset, .unset, .unset] []) := by
  obtain ⟨hx, hZ, hw, hby, hml, hown, hret, hlk, hnm⟩ := id C
  unfold f0_0 at hK
  unfold s0_0 at hs
  refine o_iload (pc' := 2) X hx (hb hby at_0) rfl rfl ?_
  refine o_ldcI (pc' := 4) X hx hZ hown (hw _ (List.mem_of_getElem? (i := 0) rfl)) (hb hby at_2) rfl ?_
  refine o_iand (pc' := 5)  X hx (hb hby at_4) rfl rfl ?_
  refine o_bipush (pc' := 7) (x := (24 : Int32)) X hx (hb hby at_5) (by decide) rfl ?_
  refine o_irem (pc' := 8)  X hx (hb hby at_7) rfl (by decide) rfl ?_
  refine o_istore (pc' := 10) (l' := #[.val (.long q0), .second, .val (.long q1), .second, .val (.long q2), .second, .val (.int p3), .val (.int p4), .val (.int (own_rem (p3 &&& (2147483647 : Int32)) (24 : Int32))), .unset, .unset, .unset, .unset, .unset, .unset, .unset, .unset]) X hx (hb hby at_8) rfl rfl ?_
  refine o_iload (pc' := 12) X hx (hb hby at_10) rfl rfl ?_
  refine o_ldcI (pc' := 14) X hx hZ hown (hw _ (List.mem_of_getElem? (i := 0) rfl)) (hb hby at_12) rfl ?_
  refine o_iand (pc' := 15)  X hx (hb hby at_14) rfl rfl ?_
  refine o_bipush (pc' := 17) (x := (25 : Int32)) X hx (hb hby at_15) (by decide) rfl ?_
  refine o_iload (pc' := 19) X hx (hb hby at_17) rfl rfl ?_
  refine o_isub (pc' := 20)  X hx (hb hby at_19) rfl rfl ?_
  refine o_irem (pc' := 21)  X hx (hb hby at_20) rfl hs.1 rfl ?_
  refine o_istore (pc' := 23) (l' := #[.val (.long q0), .second, .val (.long q1), .second, .val (.long q2), .second, .val (.int p3), .val (.int p4), .val (.int (own_rem (p3 &&& (2147483647 : Int32)) (24 : Int32))), .val (.int (own_rem (p4 &&& (2147483647 : Int32)) ((25 : Int32) - (own_rem (p3 &&& (2147483647 : Int32)) (24 : Int32))))), .unset, .unset, .unset, .unset, .unset, .unset, .unset]) X hx (hb hby at_21) rfl rfl ?_
  refine o_bipush (pc' := 25) (x := (24 : Int32)) X hx (hb hby at_23) (by decide) rfl ?_
  refine o_newI (pc' := 27) (cap := 24) (vs := [(0 : Int32), (0 : Int32), (0 : Int32), (0 : Int32), (0 : Int32), (0 : Int32), (0 : Int32), (0 : Int32), (0 : Int32), (0 : Int32), (0 : Int32), (0 : Int32), (0 : Int32), (0 : Int32), (0 : Int32), (0 : Int32), (0 : Int32), (0 : Int32), (0 : Int32), (0 : Int32), (0 : Int32), (0 : Int32), (0 : Int32), (0 : Int32)]) X hx hZ eT (hw _ (List.mem_of_getElem? (i := 1) rfl)) rfl rfl (hb hby at_25) rfl (by decide) (by decide) (by decide) (by decide) (by decide) rfl fun T36 h36 b36 X36 e36 q36 E36 A36 => ?_
  have g36 : s.heap.size ≤ b36 := q36 ▸ own_sz X eT
  refine o_astore (pc' := 29) (l' := #[.val (.long q0), .second, .val (.long q1), .second, .val (.long q2), .second, .val (.int p3), .val (.int p4), .val (.int (own_rem (p3 &&& (2147483647 : Int32)) (24 : Int32))), .val (.int (own_rem (p4 &&& (2147483647 : Int32)) ((25 : Int32) - (own_rem (p3 &&& (2147483647 : Int32)) (24 : Int32))))), .val (.ref b36), .unset, .unset, .unset, .unset, .unset, .unset]) X36 hx (hb hby at_27) rfl rfl rfl ?_
  refine o_aload (pc' := 31) X36 hx (hb hby at_29) rfl rfl rfl ?_
  refine o_iconst (pc' := 32) (x := (0 : Int32)) X36 hx (hb hby at_31) (by decide) rfl ?_
  refine o_lloadN (pc' := 33) X36 hx (hb hby at_32) rfl rfl ?_
  refine o_iconst (pc' := 34) (x := (0 : Int32)) X36 hx (hb hby at_33) (by decide) rfl ?_
  refine o_callP (W := 2) (pc' := 37) (argsL := [(.long q0), (.int (0 : Int32))]) (rest := [(.int (0 : Int32)), (.ref b36)]) (st' := [(.int (f1_0 q0 (0 : Int32))), (.int (0 : Int32)), (.ref b36)]) X36 hx hZ e36 hown (hw _ (List.mem_of_getElem? (i := 2) rfl)) (hw _ (List.mem_of_getElem? (i := 3) rfl)) (hw _ (List.mem_of_getElem? (i := 4) rfl)) (hw _ (List.mem_of_getElem? (i := 5) rfl)) (by decide) (rm1 l Z ag hw [] q0 (0 : Int32) h36) (by decide) (by decide) (by rw [hml]; rfl) pd_1 rfl rfl rfl rfl (hb hby at_34) rfl rfl rfl (by decide) (by decide) rfl fun T37 X37 e37 => ?_
  refine o_bastore (pc' := 38) (vs' := [(own_i2b (f1_0 q0 (0 : Int32))), (0 : Int32), (0 : Int32), (0 : Int32), (0 : Int32), (0 : Int32), (0 : Int32), (0 : Int32), (0 : Int32), (0 : Int32), (0 : Int32), (0 : Int32), (0 : Int32), (0 : Int32), (0 : Int32), (0 : Int32), (0 : Int32), (0 : Int32), (0 : Int32), (0 : Int32), (0 : Int32), (0 : Int32), (0 : Int32), (0 : Int32)]) X37 hx hZ e37 A36 ⟨by decide, Nat.le_of_ble_eq_true rfl⟩ (hb hby at_37) rfl rfl fun T38 h38 X38 e38 W38 A38 => ?_
  have Y38 := own_drop X38 g36
  refine o_aload (pc' := 40) Y38 hx (hb hby at_38) rfl rfl rfl ?_
  refine o_iconst (pc' := 41) (x := (1 : Int32)) Y38 hx (hb hby at_40) (by decide) rfl ?_
  refine o_lloadN (pc' := 42) Y38 hx (hb hby at_41) rfl rfl ?_
  refine o_iconst (pc' := 43) (x := (1 : Int32)) Y38 hx (hb hby at_42) (by decide) rfl ?_
  refine o_callP (W := 2) (pc' := 46) (argsL := [(.long q0), (.int (1 : Int32))]) (rest := [(.int (1 : Int32)), (.ref b36)]) (st' := [(.int (f1_0 q0 (1 : Int32))), (.int (1 : Int32)), (.ref b36)]) Y38 hx hZ e38 hown (hw _ (List.mem_of_getElem? (i := 2) rfl)) (hw _ (List.mem_of_getElem? (i := 3) rfl)) (hw _ (List.mem_of_getElem? (i := 4) rfl)) (hw _ (List.mem_of_getElem? (i := 5) rfl)) (by decide) (rm1 l Z ag hw [] q0 (1 : Int32) h38) (by decide) (by decide) (by rw [hml]; rfl) pd_1 rfl rfl rfl rfl (hb hby at_43) rfl rfl rfl (by decide) (by decide) rfl fun T39 X39 e39 => ?_
  refine o_bastore (pc' := 47) (vs' := [(own_i2b (f1_0 q0 (0 : Int32))), (own_i2b (f1_0 q0 (1 : Int32))), (0 : Int32), (0 : Int32), (0 : Int32), (0 : Int32), (0 : Int32), (0 : Int32), (0 : Int32), (0 : Int32), (0 : Int32), (0 : Int32), (0 : Int32), (0 : Int32), (0 : Int32), (0 : Int32), (0 : Int32), (0 : Int32), (0 : Int32), (0 : Int32), (0 : Int32), (0 : Int32), (0 : Int32), (0 : Int32)]) X39 hx hZ e39 A38 ⟨by decide, Nat.le_of_ble_eq_true rfl⟩ (hb hby at_46) rfl rfl fun T40 h40 X40 e40 W40 A40 => ?_
  have Y40 := own_drop X40 g36
  refine o_aload (pc' := 49) Y40 hx (hb hby at_47) rfl rfl rfl ?_
  refine o_iconst (pc' := 50) (x := (2 : Int32)) Y40 hx (hb hby at_49) (by decide) rfl ?_
  refine o_lloadN (pc' := 51) Y40 hx (hb hby at_50) rfl rfl ?_
  refine o_iconst (pc' := 52) (x := (2 : Int32)) Y40 hx (hb hby at_51) (by decide) rfl ?_
  refine o_callP (W := 2) (pc' := 55) (argsL := [(.long q0), (.int (2 : Int32))]) (rest := [(.int (2 : Int32)), (.ref b36)]) (st' := [(.int (f1_0 q0 (2 : Int32))), (.int (2 : Int32)), (.ref b36)]) Y40 hx hZ e40 hown (hw _ (List.mem_of_getElem? (i := 2) rfl)) (hw _ (List.mem_of_getElem? (i := 3) rfl)) (hw _ (List.mem_of_getElem? (i := 4) rfl)) (hw _ (List.mem_of_getElem? (i := 5) rfl)) (by decide) (rm1 l Z ag hw [] q0 (2 : Int32) h40) (by decide) (by decide) (by rw [hml]; rfl) pd_1 rfl rfl rfl rfl (hb hby at_52) rfl rfl rfl (by decide) (by decide) rfl fun T41 X41 e41 => ?_
  refine o_bastore (pc' := 56) (vs' := [(own_i2b (f1_0 q0 (0 : Int32))), (own_i2b (f1_0 q0 (1 : Int32))), (own_i2b (f1_0 q0 (2 : Int32))), (0 : Int32), (0 : Int32), (0 : Int32), (0 : Int32), (0 : Int32), (0 : Int32), (0 : Int32), (0 : Int32), (0 : Int32), (0 : Int32), (0 : Int32), (0 : Int32), (0 : Int32), (0 : Int32), (0 : Int32), (0 : Int32), (0 : Int32), (0 : Int32), (0 : Int32), (0 : Int32), (0 : Int32)]) X41 hx hZ e41 A40 ⟨by decide, Nat.le_of_ble_eq_true rfl⟩ (hb hby at_55) rfl rfl fun T42 h42 X42 e42 W42 A42 => ?_
  have Y42 := own_drop X42 g36
  refine o_aload (pc' := 58) Y42 hx (hb hby at_56) rfl rfl rfl ?_
  refine o_iconst (pc' := 59) (x := (3 : Int32)) Y42 hx (hb hby at_58) (by decide) rfl ?_
  refine o_lloadN (pc' := 60) Y42 hx (hb hby at_59) rfl rfl ?_
  refine o_iconst (pc' := 61) (x := (3 : Int32)) Y42 hx (hb hby at_60) (by decide) rfl ?_
  refine o_callP (W := 2) (pc' := 64) (argsL := [(.long q0), (.int (3 : Int32))]) (rest := [(.int (3 : Int32)), (.ref b36)]) (st' := [(.int (f1_0 q0 (3 : Int32))), (.int (3 : Int32)), (.ref b36)]) Y42 hx hZ e42 hown (hw _ (List.mem_of_getElem? (i := 2) rfl)) (hw _ (List.mem_of_getElem? (i := 3) rfl)) (hw _ (List.mem_of_getElem? (i := 4) rfl)) (hw _ (List.mem_of_getElem? (i := 5) rfl)) (by decide) (rm1 l Z ag hw [] q0 (3 : Int32) h42) (by decide) (by decide) (by rw [hml]; rfl) pd_1 rfl rfl rfl rfl (hb hby at_61) rfl rfl rfl (by decide) (by decide) rfl fun T43 X43 e43 => ?_
  refine o_bastore (pc' := 65) (vs' := [(own_i2b (f1_0 q0 (0 : Int32))), (own_i2b (f1_0 q0 (1 : Int32))), (own_i2b (f1_0 q0 (2 : Int32))), (own_i2b (f1_0 q0 (3 : Int32))), (0 : Int32), (0 : Int32), (0 : Int32), (0 : Int32), (0 : Int32), (0 : Int32), (0 : Int32), (0 : Int32), (0 : Int32), (0 : Int32), (0 : Int32), (0 : Int32), (0 : Int32), (0 : Int32), (0 : Int32), (0 : Int32), (0 : Int32), (0 : Int32), (0 : Int32), (0 : Int32)]) X43 hx hZ e43 A42 ⟨by decide, Nat.le_of_ble_eq_true rfl⟩ (hb hby at_64) rfl rfl fun T44 h44 X44 e44 W44 A44 => ?_
  have Y44 := own_drop X44 g36
  refine o_aload (pc' := 67) Y44 hx (hb hby at_65) rfl rfl rfl ?_
  refine o_iconst (pc' := 68) (x := (4 : Int32)) Y44 hx (hb hby at_67) (by decide) rfl ?_
  refine o_lloadN (pc' := 69) Y44 hx (hb hby at_68) rfl rfl ?_
  refine o_iconst (pc' := 70) (x := (4 : Int32)) Y44 hx (hb hby at_69) (by decide) rfl ?_
  refine o_callP (W := 2) (pc' := 73) (argsL := [(.long q0), (.int (4 : Int32))]) (rest := [(.int (4 : Int32)), (.ref b36)]) (st' := [(.int (f1_0 q0 (4 : Int32))), (.int (4 : Int32)), (.ref b36)]) Y44 hx hZ e44 hown (hw _ (List.mem_of_getElem? (i := 2) rfl)) (hw _ (List.mem_of_getElem? (i := 3) rfl)) (hw _ (List.mem_of_getElem? (i := 4) rfl)) (hw _ (List.mem_of_getElem? (i := 5) rfl)) (by decide) (rm1 l Z ag hw [] q0 (4 : Int32) h44) (by decide) (by decide) (by rw [hml]; rfl) pd_1 rfl rfl rfl rfl (hb hby at_70) rfl rfl rfl (by decide) (by decide) rfl fun T45 X45 e45 => ?_
  refine o_bastore (pc' := 74) (vs' := [(own_i2b (f1_0 q0 (0 : Int32))), (own_i2b (f1_0 q0 (1 : Int32))), (own_i2b (f1_0 q0 (2 : Int32))), (own_i2b (f1_0 q0 (3 : Int32))), (own_i2b (f1_0 q0 (4 : Int32))), (0 : Int32), (0 : Int32), (0 : Int32), (0 : Int32), (0 : Int32), (0 : Int32), (0 : Int32), (0 : Int32), (0 : Int32), (0 : Int32), (0 : Int32), (0 : Int32), (0 : Int32), (0 : Int32), (0 : Int32), (0 : Int32), (0 : Int32), (0 : Int32), (0 : Int32)]) X45 hx hZ e45 A44 ⟨by decide, Nat.le_of_ble_eq_true rfl⟩ (hb hby at_73) rfl rfl fun T46 h46 X46 e46 W46 A46 => ?_
  have Y46 := own_drop X46 g36
  refine o_aload (pc' := 76) Y46 hx (hb hby at_74) rfl rfl rfl ?_
  refine o_iconst (pc' := 77) (x := (5 : Int32)) Y46 hx (hb hby at_76) (by decide) rfl ?_
  refine o_lloadN (pc' := 78) Y46 hx (hb hby at_77) rfl rfl ?_
  refine o_iconst (pc' := 79) (x := (5 : Int32)) Y46 hx (hb hby at_78) (by decide) rfl ?_
  refine o_callP (W := 2) (pc' := 82) (argsL := [(.long q0), (.int (5 : Int32))]) (rest := [(.int (5 : Int32)), (.ref b36)]) (st' := [(.int (f1_0 q0 (5 : Int32))), (.int (5 : Int32)), (.ref b36)]) Y46 hx hZ e46 hown (hw _ (List.mem_of_getElem? (i := 2) rfl)) (hw _ (List.mem_of_getElem? (i := 3) rfl)) (hw _ (List.mem_of_getElem? (i := 4) rfl)) (hw _ (List.mem_of_getElem? (i := 5) rfl)) (by decide) (rm1 l Z ag hw [] q0 (5 : Int32) h46) (by decide) (by decide) (by rw [hml]; rfl) pd_1 rfl rfl rfl rfl (hb hby at_79) rfl rfl rfl (by decide) (by decide) rfl fun T47 X47 e47 => ?_
  refine o_bastore (pc' := 83) (vs' := [(own_i2b (f1_0 q0 (0 : Int32))), (own_i2b (f1_0 q0 (1 : Int32))), (own_i2b (f1_0 q0 (2 : Int32))), (own_i2b (f1_0 q0 (3 : Int32))), (own_i2b (f1_0 q0 (4 : Int32))), (own_i2b (f1_0 q0 (5 : Int32))), (0 : Int32), (0 : Int32), (0 : Int32), (0 : Int32), (0 : Int32), (0 : Int32), (0 : Int32), (0 : Int32), (0 : Int32), (0 : Int32), (0 : Int32), (0 : Int32), (0 : Int32), (0 : Int32), (0 : Int32), (0 : Int32), (0 : Int32), (0 : Int32)]) X47 hx hZ e47 A46 ⟨by decide, Nat.le_of_ble_eq_true rfl⟩ (hb hby at_82) rfl rfl fun T48 h48 X48 e48 W48 A48 => ?_
  have Y48 := own_drop X48 g36
  refine o_aload (pc' := 85) Y48 hx (hb hby at_83) rfl rfl rfl ?_
  refine o_bipush (pc' := 87) (x := (6 : Int32)) Y48 hx (hb hby at_85) (by decide) rfl ?_
  refine o_lloadN (pc' := 88) Y48 hx (hb hby at_87) rfl rfl ?_
  refine o_bipush (pc' := 90) (x := (6 : Int32)) Y48 hx (hb hby at_88) (by decide) rfl ?_
  refine o_callP (W := 2) (pc' := 93) (argsL := [(.long q0), (.int (6 : Int32))]) (rest := [(.int (6 : Int32)), (.ref b36)]) (st' := [(.int (f1_0 q0 (6 : Int32))), (.int (6 : Int32)), (.ref b36)]) Y48 hx hZ e48 hown (hw _ (List.mem_of_getElem? (i := 2) rfl)) (hw _ (List.mem_of_getElem? (i := 3) rfl)) (hw _ (List.mem_of_getElem? (i := 4) rfl)) (hw _ (List.mem_of_getElem? (i := 5) rfl)) (by decide) (rm1 l Z ag hw [] q0 (6 : Int32) h48) (by decide) (by decide) (by rw [hml]; rfl) pd_1 rfl rfl rfl rfl (hb hby at_90) rfl rfl rfl (by decide) (by decide) rfl fun T49 X49 e49 => ?_
  refine o_bastore (pc' := 94) (vs' := [(own_i2b (f1_0 q0 (0 : Int32))), (own_i2b (f1_0 q0 (1 : Int32))), (own_i2b (f1_0 q0 (2 : Int32))), (own_i2b (f1_0 q0 (3 : Int32))), (own_i2b (f1_0 q0 (4 : Int32))), (own_i2b (f1_0 q0 (5 : Int32))), (own_i2b (f1_0 q0 (6 : Int32))), (0 : Int32), (0 : Int32), (0 : Int32), (0 : Int32), (0 : Int32), (0 : Int32), (0 : Int32), (0 : Int32), (0 : Int32), (0 : Int32), (0 : Int32), (0 : Int32), (0 : Int32), (0 : Int32), (0 : Int32), (0 : Int32), (0 : Int32)]) X49 hx hZ e49 A48 ⟨by decide, Nat.le_of_ble_eq_true rfl⟩ (hb hby at_93) rfl rfl fun T50 h50 X50 e50 W50 A50 => ?_
  have Y50 := own_drop X50 g36
  refine o_aload (pc' := 96) Y50 hx (hb hby at_94) rfl rfl rfl ?_
  refine o_bipush (pc' := 98) (x := (7 : Int32)) Y50 hx (hb hby at_96) (by decide) rfl ?_
  refine o_lloadN (pc' := 99) Y50 hx (hb hby at_98) rfl rfl ?_
  refine o_bipush (pc' := 101) (x := (7 : Int32)) Y50 hx (hb hby at_99) (by decide) rfl ?_
  refine o_callP (W := 2) (pc' := 104) (argsL := [(.long q0), (.int (7 : Int32))]) (rest := [(.int (7 : Int32)), (.ref b36)]) (st' := [(.int (f1_0 q0 (7 : Int32))), (.int (7 : Int32)), (.ref b36)]) Y50 hx hZ e50 hown (hw _ (List.mem_of_getElem? (i := 2) rfl)) (hw _ (List.mem_of_getElem? (i := 3) rfl)) (hw _ (List.mem_of_getElem? (i := 4) rfl)) (hw _ (List.mem_of_getElem? (i := 5) rfl)) (by decide) (rm1 l Z ag hw [] q0 (7 : Int32) h50) (by decide) (by decide) (by rw [hml]; rfl) pd_1 rfl rfl rfl rfl (hb hby at_101) rfl rfl rfl (by decide) (by decide) rfl fun T51 X51 e51 => ?_
  refine o_bastore (pc' := 105) (vs' := [(own_i2b (f1_0 q0 (0 : Int32))), (own_i2b (f1_0 q0 (1 : Int32))), (own_i2b (f1_0 q0 (2 : Int32))), (own_i2b (f1_0 q0 (3 : Int32))), (own_i2b (f1_0 q0 (4 : Int32))), (own_i2b (f1_0 q0 (5 : Int32))), (own_i2b (f1_0 q0 (6 : Int32))), (own_i2b (f1_0 q0 (7 : Int32))), (0 : Int32), (0 : Int32), (0 : Int32), (0 : Int32), (0 : Int32), (0 : Int32), (0 : Int32), (0 : Int32), (0 : Int32), (0 : Int32), (0 : Int32), (0 : Int32), (0 : Int32), (0 : Int32), (0 : Int32), (0 : Int32)]) X51 hx hZ e51 A50 ⟨by decide, Nat.le_of_ble_eq_true rfl⟩ (hb hby at_104) rfl rfl fun T52 h52 X52 e52 W52 A52 => ?_
  have Y52 := own_drop X52 g36
  refine o_aload (pc' := 107) Y52 hx (hb hby at_105) rfl rfl rfl ?_
  refine o_bipush (pc' := 109) (x := (8 : Int32)) Y52 hx (hb hby at_107) (by decide) rfl ?_
  refine o_lloadN (pc' := 110) Y52 hx (hb hby at_109) rfl rfl ?_
  refine o_iconst (pc' := 111) (x := (0 : Int32)) Y52 hx (hb hby at_110) (by decide) rfl ?_
  refine o_callP (W := 2) (pc' := 114) (argsL := [(.long q1), (.int (0 : Int32))]) (rest := [(.int (8 : Int32)), (.ref b36)]) (st' := [(.int (f1_0 q1 (0 : Int32))), (.int (8 : Int32)), (.ref b36)]) Y52 hx hZ e52 hown (hw _ (List.mem_of_getElem? (i := 2) rfl)) (hw _ (List.mem_of_getElem? (i := 3) rfl)) (hw _ (List.mem_of_getElem? (i := 4) rfl)) (hw _ (List.mem_of_getElem? (i := 5) rfl)) (by decide) (rm1 l Z ag hw [] q1 (0 : Int32) h52) (by decide) (by decide) (by rw [hml]; rfl) pd_1 rfl rfl rfl rfl (hb hby at_111) rfl rfl rfl (by decide) (by decide) rfl fun T53 X53 e53 => ?_
  refine o_bastore (pc' := 115) (vs' := [(own_i2b (f1_0 q0 (0 : Int32))), (own_i2b (f1_0 q0 (1 : Int32))), (own_i2b (f1_0 q0 (2 : Int32))), (own_i2b (f1_0 q0 (3 : Int32))), (own_i2b (f1_0 q0 (4 : Int32))), (own_i2b (f1_0 q0 (5 : Int32))), (own_i2b (f1_0 q0 (6 : Int32))), (own_i2b (f1_0 q0 (7 : Int32))), (own_i2b (f1_0 q1 (0 : Int32))), (0 : Int32), (0 : Int32), (0 : Int32), (0 : Int32), (0 : Int32), (0 : Int32), (0 : Int32), (0 : Int32), (0 : Int32), (0 : Int32), (0 : Int32), (0 : Int32), (0 : Int32), (0 : Int32), (0 : Int32)]) X53 hx hZ e53 A52 ⟨by decide, Nat.le_of_ble_eq_true rfl⟩ (hb hby at_114) rfl rfl fun T54 h54 X54 e54 W54 A54 => ?_
  have Y54 := own_drop X54 g36
  refine o_aload (pc' := 117) Y54 hx (hb hby at_115) rfl rfl rfl ?_
  refine o_bipush (pc' := 119) (x := (9 : Int32)) Y54 hx (hb hby at_117) (by decide) rfl ?_
  refine o_lloadN (pc' := 120) Y54 hx (hb hby at_119) rfl rfl ?_
  refine o_iconst (pc' := 121) (x := (1 : Int32)) Y54 hx (hb hby at_120) (by decide) rfl ?_
  refine o_callP (W := 2) (pc' := 124) (argsL := [(.long q1), (.int (1 : Int32))]) (rest := [(.int (9 : Int32)), (.ref b36)]) (st' := [(.int (f1_0 q1 (1 : Int32))), (.int (9 : Int32)), (.ref b36)]) Y54 hx hZ e54 hown (hw _ (List.mem_of_getElem? (i := 2) rfl)) (hw _ (List.mem_of_getElem? (i := 3) rfl)) (hw _ (List.mem_of_getElem? (i := 4) rfl)) (hw _ (List.mem_of_getElem? (i := 5) rfl)) (by decide) (rm1 l Z ag hw [] q1 (1 : Int32) h54) (by decide) (by decide) (by rw [hml]; rfl) pd_1 rfl rfl rfl rfl (hb hby at_121) rfl rfl rfl (by decide) (by decide) rfl fun T55 X55 e55 => ?_
  refine o_bastore (pc' := 125) (vs' := [(own_i2b (f1_0 q0 (0 : Int32))), (own_i2b (f1_0 q0 (1 : Int32))), (own_i2b (f1_0 q0 (2 : Int32))), (own_i2b (f1_0 q0 (3 : Int32))), (own_i2b (f1_0 q0 (4 : Int32))), (own_i2b (f1_0 q0 (5 : Int32))), (own_i2b (f1_0 q0 (6 : Int32))), (own_i2b (f1_0 q0 (7 : Int32))), (own_i2b (f1_0 q1 (0 : Int32))), (own_i2b (f1_0 q1 (1 : Int32))), (0 : Int32), (0 : Int32), (0 : Int32), (0 : Int32), (0 : Int32), (0 : Int32), (0 : Int32), (0 : Int32), (0 : Int32), (0 : Int32), (0 : Int32), (0 : Int32), (0 : Int32), (0 : Int32)]) X55 hx hZ e55 A54 ⟨by decide, Nat.le_of_ble_eq_true rfl⟩ (hb hby at_124) rfl rfl fun T56 h56 X56 e56 W56 A56 => ?_
  have Y56 := own_drop X56 g36
  refine o_aload (pc' := 127) Y56 hx (hb hby at_125) rfl rfl rfl ?_
  refine o_bipush (pc' := 129) (x := (10 : Int32)) Y56 hx (hb hby at_127) (by decide) rfl ?_
  refine o_lloadN (pc' := 130) Y56 hx (hb hby at_129) rfl rfl ?_
  refine o_iconst (pc' := 131) (x := (2 : Int32)) Y56 hx (hb hby at_130) (by decide) rfl ?_
  refine o_callP (W := 2) (pc' := 134) (argsL := [(.long q1), (.int (2 : Int32))]) (rest := [(.int (10 : Int32)), (.ref b36)]) (st' := [(.int (f1_0 q1 (2 : Int32))), (.int (10 : Int32)), (.ref b36)]) Y56 hx hZ e56 hown (hw _ (List.mem_of_getElem? (i := 2) rfl)) (hw _ (List.mem_of_getElem? (i := 3) rfl)) (hw _ (List.mem_of_getElem? (i := 4) rfl)) (hw _ (List.mem_of_getElem? (i := 5) rfl)) (by decide) (rm1 l Z ag hw [] q1 (2 : Int32) h56) (by decide) (by decide) (by rw [hml]; rfl) pd_1 rfl rfl rfl rfl (hb hby at_131) rfl rfl rfl (by decide) (by decide) rfl fun T57 X57 e57 => ?_
  refine o_bastore (pc' := 135) (vs' := [(own_i2b (f1_0 q0 (0 : Int32))), (own_i2b (f1_0 q0 (1 : Int32))), (own_i2b (f1_0 q0 (2 : Int32))), (own_i2b (f1_0 q0 (3 : Int32))), (own_i2b (f1_0 q0 (4 : Int32))), (own_i2b (f1_0 q0 (5 : Int32))), (own_i2b (f1_0 q0 (6 : Int32))), (own_i2b (f1_0 q0 (7 : Int32))), (own_i2b (f1_0 q1 (0 : Int32))), (own_i2b (f1_0 q1 (1 : Int32))), (own_i2b (f1_0 q1 (2 : Int32))), (0 : Int32), (0 : Int32), (0 : Int32), (0 : Int32), (0 : Int32), (0 : Int32), (0 : Int32), (0 : Int32), (0 : Int32), (0 : Int32), (0 : Int32), (0 : Int32), (0 : Int32)]) X57 hx hZ e57 A56 ⟨by decide, Nat.le_of_ble_eq_true rfl⟩ (hb hby at_134) rfl rfl fun T58 h58 X58 e58 W58 A58 => ?_
  have Y58 := own_drop X58 g36
  refine o_aload (pc' := 137) Y58 hx (hb hby at_135) rfl rfl rfl ?_
  refine o_bipush (pc' := 139) (x := (11 : Int32)) Y58 hx (hb hby at_137) (by decide) rfl ?_
  refine o_lloadN (pc' := 140) Y58 hx (hb hby at_139) rfl rfl ?_
  refine o_iconst (pc' := 141) (x := (3 : Int32)) Y58 hx (hb hby at_140) (by decide) rfl ?_
  refine o_callP (W := 2) (pc' := 144) (argsL := [(.long q1), (.int (3 : Int32))]) (rest := [(.int (11 : Int32)), (.ref b36)]) (st' := [(.int (f1_0 q1 (3 : Int32))), (.int (11 : Int32)), (.ref b36)]) Y58 hx hZ e58 hown (hw _ (List.mem_of_getElem? (i := 2) rfl)) (hw _ (List.mem_of_getElem? (i := 3) rfl)) (hw _ (List.mem_of_getElem? (i := 4) rfl)) (hw _ (List.mem_of_getElem? (i := 5) rfl)) (by decide) (rm1 l Z ag hw [] q1 (3 : Int32) h58) (by decide) (by decide) (by rw [hml]; rfl) pd_1 rfl rfl rfl rfl (hb hby at_141) rfl rfl rfl (by decide) (by decide) rfl fun T59 X59 e59 => ?_
  refine o_bastore (pc' := 145) (vs' := [(own_i2b (f1_0 q0 (0 : Int32))), (own_i2b (f1_0 q0 (1 : Int32))), (own_i2b (f1_0 q0 (2 : Int32))), (own_i2b (f1_0 q0 (3 : Int32))), (own_i2b (f1_0 q0 (4 : Int32))), (own_i2b (f1_0 q0 (5 : Int32))), (own_i2b (f1_0 q0 (6 : Int32))), (own_i2b (f1_0 q0 (7 : Int32))), (own_i2b (f1_0 q1 (0 : Int32))), (own_i2b (f1_0 q1 (1 : Int32))), (own_i2b (f1_0 q1 (2 : Int32))), (own_i2b (f1_0 q1 (3 : Int32))), (0 : Int32), (0 : Int32), (0 : Int32), (0 : Int32), (0 : Int32), (0 : Int32), (0 : Int32), (0 : Int32), (0 : Int32), (0 : Int32), (0 : Int32), (0 : Int32)]) X59 hx hZ e59 A58 ⟨by decide, Nat.le_of_ble_eq_true rfl⟩ (hb hby at_144) rfl rfl fun T60 h60 X60 e60 W60 A60 => ?_
  have Y60 := own_drop X60 g36
  refine o_aload (pc' := 147) Y60 hx (hb hby at_145) rfl rfl rfl ?_
  refine o_bipush (pc' := 149) (x := (12 : Int32)) Y60 hx (hb hby at_147) (by decide) rfl ?_
  refine o_lloadN (pc' := 150) Y60 hx (hb hby at_149) rfl rfl ?_
  refine o_iconst (pc' := 151) (x := (4 : Int32)) Y60 hx (hb hby at_150) (by decide) rfl ?_
  refine o_callP (W := 2) (pc' := 154) (argsL := [(.long q1), (.int (4 : Int32))]) (rest := [(.int (12 : Int32)), (.ref b36)]) (st' := [(.int (f1_0 q1 (4 : Int32))), (.int (12 : Int32)), (.ref b36)]) Y60 hx hZ e60 hown (hw _ (List.mem_of_getElem? (i := 2) rfl)) (hw _ (List.mem_of_getElem? (i := 3) rfl)) (hw _ (List.mem_of_getElem? (i := 4) rfl)) (hw _ (List.mem_of_getElem? (i := 5) rfl)) (by decide) (rm1 l Z ag hw [] q1 (4 : Int32) h60) (by decide) (by decide) (by rw [hml]; rfl) pd_1 rfl rfl rfl rfl (hb hby at_151) rfl rfl rfl (by decide) (by decide) rfl fun T61 X61 e61 => ?_
  refine o_bastore (pc' := 155) (vs' := [(own_i2b (f1_0 q0 (0 : Int32))), (own_i2b (f1_0 q0 (1 : Int32))), (own_i2b (f1_0 q0 (2 : Int32))), (own_i2b (f1_0 q0 (3 : Int32))), (own_i2b (f1_0 q0 (4 : Int32))), (own_i2b (f1_0 q0 (5 : Int32))), (own_i2b (f1_0 q0 (6 : Int32))), (own_i2b (f1_0 q0 (7 : Int32))), (own_i2b (f1_0 q1 (0 : Int32))), (own_i2b (f1_0 q1 (1 : Int32))), (own_i2b (f1_0 q1 (2 : Int32))), (own_i2b (f1_0 q1 (3 : Int32))), (own_i2b (f1_0 q1 (4 : Int32))), (0 : Int32), (0 : Int32), (0 : Int32), (0 : Int32), (0 : Int32), (0 : Int32), (0 : Int32), (0 : Int32), (0 : Int32), (0 : Int32), (0 : Int32)]) X61 hx hZ e61 A60 ⟨by decide, Nat.le_of_ble_eq_true rfl⟩ (hb hby at_154) rfl rfl fun T62 h62 X62 e62 W62 A62 => ?_
  have Y62 := own_drop X62 g36
  refine o_aload (pc' := 157) Y62 hx (hb hby at_155) rfl rfl rfl ?_
  refine o_bipush (pc' := 159) (x := (13 : Int32)) Y62 hx (hb hby at_157) (by decide) rfl ?_
  refine o_lloadN (pc' := 160) Y62 hx (hb hby at_159) rfl rfl ?_
  refine o_iconst (pc' := 161) (x := (5 : Int32)) Y62 hx (hb hby at_160) (by decide) rfl ?_
  refine o_callP (W := 2) (pc' := 164) (argsL := [(.long q1), (.int (5 : Int32))]) (rest := [(.int (13 : Int32)), (.ref b36)]) (st' := [(.int (f1_0 q1 (5 : Int32))), (.int (13 : Int32)), (.ref b36)]) Y62 hx hZ e62 hown (hw _ (List.mem_of_getElem? (i := 2) rfl)) (hw _ (List.mem_of_getElem? (i := 3) rfl)) (hw _ (List.mem_of_getElem? (i := 4) rfl)) (hw _ (List.mem_of_getElem? (i := 5) rfl)) (by decide) (rm1 l Z ag hw [] q1 (5 : Int32) h62) (by decide) (by decide) (by rw [hml]; rfl) pd_1 rfl rfl rfl rfl (hb hby at_161) rfl rfl rfl (by decide) (by decide) rfl fun T63 X63 e63 => ?_
  refine o_bastore (pc' := 165) (vs' := [(own_i2b (f1_0 q0 (0 : Int32))), (own_i2b (f1_0 q0 (1 : Int32))), (own_i2b (f1_0 q0 (2 : Int32))), (own_i2b (f1_0 q0 (3 : Int32))), (own_i2b (f1_0 q0 (4 : Int32))), (own_i2b (f1_0 q0 (5 : Int32))), (own_i2b (f1_0 q0 (6 : Int32))), (own_i2b (f1_0 q0 (7 : Int32))), (own_i2b (f1_0 q1 (0 : Int32))), (own_i2b (f1_0 q1 (1 : Int32))), (own_i2b (f1_0 q1 (2 : Int32))), (own_i2b (f1_0 q1 (3 : Int32))), (own_i2b (f1_0 q1 (4 : Int32))), (own_i2b (f1_0 q1 (5 : Int32))), (0 : Int32), (0 : Int32), (0 : Int32), (0 : Int32), (0 : Int32), (0 : Int32), (0 : Int32), (0 : Int32), (0 : Int32), (0 : Int32)]) X63 hx hZ e63 A62 ⟨by decide, Nat.le_of_ble_eq_true rfl⟩ (hb hby at_164) rfl rfl fun T64 h64 X64 e64 W64 A64 => ?_
  have Y64 := own_drop X64 g36
  refine o_aload (pc' := 167) Y64 hx (hb hby at_165) rfl rfl rfl ?_
  refine o_bipush (pc' := 169) (x := (14 : Int32)) Y64 hx (hb hby at_167) (by decide) rfl ?_
  refine o_lloadN (pc' := 170) Y64 hx (hb hby at_169) rfl rfl ?_
  refine o_bipush (pc' := 172) (x := (6 : Int32)) Y64 hx (hb hby at_170) (by decide) rfl ?_
  refine o_callP (W := 2) (pc' := 175) (argsL := [(.long q1), (.int (6 : Int32))]) (rest := [(.int (14 : Int32)), (.ref b36)]) (st' := [(.int (f1_0 q1 (6 : Int32))), (.int (14 : Int32)), (.ref b36)]) Y64 hx hZ e64 hown (hw _ (List.mem_of_getElem? (i := 2) rfl)) (hw _ (List.mem_of_getElem? (i := 3) rfl)) (hw _ (List.mem_of_getElem? (i := 4) rfl)) (hw _ (List.mem_of_getElem? (i := 5) rfl)) (by decide) (rm1 l Z ag hw [] q1 (6 : Int32) h64) (by decide) (by decide) (by rw [hml]; rfl) pd_1 rfl rfl rfl rfl (hb hby at_172) rfl rfl rfl (by decide) (by decide) rfl fun T65 X65 e65 => ?_
  refine o_bastore (pc' := 176) (vs' := [(own_i2b (f1_0 q0 (0 : Int32))), (own_i2b (f1_0 q0 (1 : Int32))), (own_i2b (f1_0 q0 (2 : Int32))), (own_i2b (f1_0 q0 (3 : Int32))), (own_i2b (f1_0 q0 (4 : Int32))), (own_i2b (f1_0 q0 (5 : Int32))), (own_i2b (f1_0 q0 (6 : Int32))), (own_i2b (f1_0 q0 (7 : Int32))), (own_i2b (f1_0 q1 (0 : Int32))), (own_i2b (f1_0 q1 (1 : Int32))), (own_i2b (f1_0 q1 (2 : Int32))), (own_i2b (f1_0 q1 (3 : Int32))), (own_i2b (f1_0 q1 (4 : Int32))), (own_i2b (f1_0 q1 (5 : Int32))), (own_i2b (f1_0 q1 (6 : Int32))), (0 : Int32), (0 : Int32), (0 : Int32), (0 : Int32), (0 : Int32), (0 : Int32), (0 : Int32), (0 : Int32), (0 : Int32)]) X65 hx hZ e65 A64 ⟨by decide, Nat.le_of_ble_eq_true rfl⟩ (hb hby at_175) rfl rfl fun T66 h66 X66 e66 W66 A66 => ?_
  have Y66 := own_drop X66 g36
  refine o_aload (pc' := 178) Y66 hx (hb hby at_176) rfl rfl rfl ?_
  refine o_bipush (pc' := 180) (x := (15 : Int32)) Y66 hx (hb hby at_178) (by decide) rfl ?_
  refine o_lloadN (pc' := 181) Y66 hx (hb hby at_180) rfl rfl ?_
  refine o_bipush (pc' := 183) (x := (7 : Int32)) Y66 hx (hb hby at_181) (by decide) rfl ?_
  refine o_callP (W := 2) (pc' := 186) (argsL := [(.long q1), (.int (7 : Int32))]) (rest := [(.int (15 : Int32)), (.ref b36)]) (st' := [(.int (f1_0 q1 (7 : Int32))), (.int (15 : Int32)), (.ref b36)]) Y66 hx hZ e66 hown (hw _ (List.mem_of_getElem? (i := 2) rfl)) (hw _ (List.mem_of_getElem? (i := 3) rfl)) (hw _ (List.mem_of_getElem? (i := 4) rfl)) (hw _ (List.mem_of_getElem? (i := 5) rfl)) (by decide) (rm1 l Z ag hw [] q1 (7 : Int32) h66) (by decide) (by decide) (by rw [hml]; rfl) pd_1 rfl rfl rfl rfl (hb hby at_183) rfl rfl rfl (by decide) (by decide) rfl fun T67 X67 e67 => ?_
  refine o_bastore (pc' := 187) (vs' := [(own_i2b (f1_0 q0 (0 : Int32))), (own_i2b (f1_0 q0 (1 : Int32))), (own_i2b (f1_0 q0 (2 : Int32))), (own_i2b (f1_0 q0 (3 : Int32))), (own_i2b (f1_0 q0 (4 : Int32))), (own_i2b (f1_0 q0 (5 : Int32))), (own_i2b (f1_0 q0 (6 : Int32))), (own_i2b (f1_0 q0 (7 : Int32))), (own_i2b (f1_0 q1 (0 : Int32))), (own_i2b (f1_0 q1 (1 : Int32))), (own_i2b (f1_0 q1 (2 : Int32))), (own_i2b (f1_0 q1 (3 : Int32))), (own_i2b (f1_0 q1 (4 : Int32))), (own_i2b (f1_0 q1 (5 : Int32))), (own_i2b (f1_0 q1 (6 : Int32))), (own_i2b (f1_0 q1 (7 : Int32))), (0 : Int32), (0 : Int32), (0 : Int32), (0 : Int32), (0 : Int32), (0 : Int32), (0 : Int32), (0 : Int32)]) X67 hx hZ e67 A66 ⟨by decide, Nat.le_of_ble_eq_true rfl⟩ (hb hby at_186) rfl rfl fun T68 h68 X68 e68 W68 A68 => ?_
  have Y68 := own_drop X68 g36
  refine o_aload (pc' := 189) Y68 hx (hb hby at_187) rfl rfl rfl ?_
  refine o_bipush (pc' := 191) (x := (16 : Int32)) Y68 hx (hb hby at_189) (by decide) rfl ?_
  refine o_lload (pc' := 193) Y68 hx (hb hby at_191) rfl rfl ?_
  refine o_iconst (pc' := 194) (x := (0 : Int32)) Y68 hx (hb hby at_193) (by decide) rfl ?_
  refine o_callP (W := 2) (pc' := 197) (argsL := [(.long q2), (.int (0 : Int32))]) (rest := [(.int (16 : Int32)), (.ref b36)]) (st' := [(.int (f1_0 q2 (0 : Int32))), (.int (16 : Int32)), (.ref b36)]) Y68 hx hZ e68 hown (hw _ (List.mem_of_getElem? (i := 2) rfl)) (hw _ (List.mem_of_getElem? (i := 3) rfl)) (hw _ (List.mem_of_getElem? (i := 4) rfl)) (hw _ (List.mem_of_getElem? (i := 5) rfl)) (by decide) (rm1 l Z ag hw [] q2 (0 : Int32) h68) (by decide) (by decide) (by rw [hml]; rfl) pd_1 rfl rfl rfl rfl (hb hby at_194) rfl rfl rfl (by decide) (by decide) rfl fun T69 X69 e69 => ?_
  refine o_bastore (pc' := 198) (vs' := [(own_i2b (f1_0 q0 (0 : Int32))), (own_i2b (f1_0 q0 (1 : Int32))), (own_i2b (f1_0 q0 (2 : Int32))), (own_i2b (f1_0 q0 (3 : Int32))), (own_i2b (f1_0 q0 (4 : Int32))), (own_i2b (f1_0 q0 (5 : Int32))), (own_i2b (f1_0 q0 (6 : Int32))), (own_i2b (f1_0 q0 (7 : Int32))), (own_i2b (f1_0 q1 (0 : Int32))), (own_i2b (f1_0 q1 (1 : Int32))), (own_i2b (f1_0 q1 (2 : Int32))), (own_i2b (f1_0 q1 (3 : Int32))), (own_i2b (f1_0 q1 (4 : Int32))), (own_i2b (f1_0 q1 (5 : Int32))), (own_i2b (f1_0 q1 (6 : Int32))), (own_i2b (f1_0 q1 (7 : Int32))), (own_i2b (f1_0 q2 (0 : Int32))), (0 : Int32), (0 : Int32), (0 : Int32), (0 : Int32), (0 : Int32), (0 : Int32), (0 : Int32)]) X69 hx hZ e69 A68 ⟨by decide, Nat.le_of_ble_eq_true rfl⟩ (hb hby at_197) rfl rfl fun T70 h70 X70 e70 W70 A70 => ?_
  have Y70 := own_drop X70 g36
  refine o_aload (pc' := 200) Y70 hx (hb hby at_198) rfl rfl rfl ?_
  refine o_bipush (pc' := 202) (x := (17 : Int32)) Y70 hx (hb hby at_200) (by decide) rfl ?_
  refine o_lload (pc' := 204) Y70 hx (hb hby at_202) rfl rfl ?_
  refine o_iconst (pc' := 205) (x := (1 : Int32)) Y70 hx (hb hby at_204) (by decide) rfl ?_
  refine o_callP (W := 2) (pc' := 208) (argsL := [(.long q2), (.int (1 : Int32))]) (rest := [(.int (17 : Int32)), (.ref b36)]) (st' := [(.int (f1_0 q2 (1 : Int32))), (.int (17 : Int32)), (.ref b36)]) Y70 hx hZ e70 hown (hw _ (List.mem_of_getElem? (i := 2) rfl)) (hw _ (List.mem_of_getElem? (i := 3) rfl)) (hw _ (List.mem_of_getElem? (i := 4) rfl)) (hw _ (List.mem_of_getElem? (i := 5) rfl)) (by decide) (rm1 l Z ag hw [] q2 (1 : Int32) h70) (by decide) (by decide) (by rw [hml]; rfl) pd_1 rfl rfl rfl rfl (hb hby at_205) rfl rfl rfl (by decide) (by decide) rfl fun T71 X71 e71 => ?_
  refine o_bastore (pc' := 209) (vs' := [(own_i2b (f1_0 q0 (0 : Int32))), (own_i2b (f1_0 q0 (1 : Int32))), (own_i2b (f1_0 q0 (2 : Int32))), (own_i2b (f1_0 q0 (3 : Int32))), (own_i2b (f1_0 q0 (4 : Int32))), (own_i2b (f1_0 q0 (5 : Int32))), (own_i2b (f1_0 q0 (6 : Int32))), (own_i2b (f1_0 q0 (7 : Int32))), (own_i2b (f1_0 q1 (0 : Int32))), (own_i2b (f1_0 q1 (1 : Int32))), (own_i2b (f1_0 q1 (2 : Int32))), (own_i2b (f1_0 q1 (3 : Int32))), (own_i2b (f1_0 q1 (4 : Int32))), (own_i2b (f1_0 q1 (5 : Int32))), (own_i2b (f1_0 q1 (6 : Int32))), (own_i2b (f1_0 q1 (7 : Int32))), (own_i2b (f1_0 q2 (0 : Int32))), (own_i2b (f1_0 q2 (1 : Int32))), (0 : Int32), (0 : Int32), (0 : Int32), (0 : Int32), (0 : Int32), (0 : Int32)]) X71 hx hZ e71 A70 ⟨by decide, Nat.le_of_ble_eq_true rfl⟩ (hb hby at_208) rfl rfl fun T72 h72 X72 e72 W72 A72 => ?_
  have Y72 := own_drop X72 g36
  refine o_aload (pc' := 211) Y72 hx (hb hby at_209) rfl rfl rfl ?_
  refine o_bipush (pc' := 213) (x := (18 : Int32)) Y72 hx (hb hby at_211) (by decide) rfl ?_
  refine o_lload (pc' := 215) Y72 hx (hb hby at_213) rfl rfl ?_
  refine o_iconst (pc' := 216) (x := (2 : Int32)) Y72 hx (hb hby at_215) (by decide) rfl ?_
  refine o_callP (W := 2) (pc' := 219) (argsL := [(.long q2), (.int (2 : Int32))]) (rest := [(.int (18 : Int32)), (.ref b36)]) (st' := [(.int (f1_0 q2 (2 : Int32))), (.int (18 : Int32)), (.ref b36)]) Y72 hx hZ e72 hown (hw _ (List.mem_of_getElem? (i := 2) rfl)) (hw _ (List.mem_of_getElem? (i := 3) rfl)) (hw _ (List.mem_of_getElem? (i := 4) rfl)) (hw _ (List.mem_of_getElem? (i := 5) rfl)) (by decide) (rm1 l Z ag hw [] q2 (2 : Int32) h72) (by decide) (by decide) (by rw [hml]; rfl) pd_1 rfl rfl rfl rfl (hb hby at_216) rfl rfl rfl (by decide) (by decide) rfl fun T73 X73 e73 => ?_
  refine o_bastore (pc' := 220) (vs' := [(own_i2b (f1_0 q0 (0 : Int32))), (own_i2b (f1_0 q0 (1 : Int32))), (own_i2b (f1_0 q0 (2 : Int32))), (own_i2b (f1_0 q0 (3 : Int32))), (own_i2b (f1_0 q0 (4 : Int32))), (own_i2b (f1_0 q0 (5 : Int32))), (own_i2b (f1_0 q0 (6 : Int32))), (own_i2b (f1_0 q0 (7 : Int32))), (own_i2b (f1_0 q1 (0 : Int32))), (own_i2b (f1_0 q1 (1 : Int32))), (own_i2b (f1_0 q1 (2 : Int32))), (own_i2b (f1_0 q1 (3 : Int32))), (own_i2b (f1_0 q1 (4 : Int32))), (own_i2b (f1_0 q1 (5 : Int32))), (own_i2b (f1_0 q1 (6 : Int32))), (own_i2b (f1_0 q1 (7 : Int32))), (own_i2b (f1_0 q2 (0 : Int32))), (own_i2b (f1_0 q2 (1 : Int32))), (own_i2b (f1_0 q2 (2 : Int32))), (0 : Int32), (0 : Int32), (0 : Int32), (0 : Int32), (0 : Int32)]) X73 hx hZ e73 A72 ⟨by decide, Nat.le_of_ble_eq_true rfl⟩ (hb hby at_219) rfl rfl fun T74 h74 X74 e74 W74 A74 => ?_
  have Y74 := own_drop X74 g36
  refine o_aload (pc' := 222) Y74 hx (hb hby at_220) rfl rfl rfl ?_
  refine o_bipush (pc' := 224) (x := (19 : Int32)) Y74 hx (hb hby at_222) (by decide) rfl ?_
  refine o_lload (pc' := 226) Y74 hx (hb hby at_224) rfl rfl ?_
  refine o_iconst (pc' := 227) (x := (3 : Int32)) Y74 hx (hb hby at_226) (by decide) rfl ?_
  refine o_callP (W := 2) (pc' := 230) (argsL := [(.long q2), (.int (3 : Int32))]) (rest := [(.int (19 : Int32)), (.ref b36)]) (st' := [(.int (f1_0 q2 (3 : Int32))), (.int (19 : Int32)), (.ref b36)]) Y74 hx hZ e74 hown (hw _ (List.mem_of_getElem? (i := 2) rfl)) (hw _ (List.mem_of_getElem? (i := 3) rfl)) (hw _ (List.mem_of_getElem? (i := 4) rfl)) (hw _ (List.mem_of_getElem? (i := 5) rfl)) (by decide) (rm1 l Z ag hw [] q2 (3 : Int32) h74) (by decide) (by decide) (by rw [hml]; rfl) pd_1 rfl rfl rfl rfl (hb hby at_227) rfl rfl rfl (by decide) (by decide) rfl fun T75 X75 e75 => ?_
  refine o_bastore (pc' := 231) (vs' := [(own_i2b (f1_0 q0 (0 : Int32))), (own_i2b (f1_0 q0 (1 : Int32))), (own_i2b (f1_0 q0 (2 : Int32))), (own_i2b (f1_0 q0 (3 : Int32))), (own_i2b (f1_0 q0 (4 : Int32))), (own_i2b (f1_0 q0 (5 : Int32))), (own_i2b (f1_0 q0 (6 : Int32))), (own_i2b (f1_0 q0 (7 : Int32))), (own_i2b (f1_0 q1 (0 : Int32))), (own_i2b (f1_0 q1 (1 : Int32))), (own_i2b (f1_0 q1 (2 : Int32))), (own_i2b (f1_0 q1 (3 : Int32))), (own_i2b (f1_0 q1 (4 : Int32))), (own_i2b (f1_0 q1 (5 : Int32))), (own_i2b (f1_0 q1 (6 : Int32))), (own_i2b (f1_0 q1 (7 : Int32))), (own_i2b (f1_0 q2 (0 : Int32))), (own_i2b (f1_0 q2 (1 : Int32))), (own_i2b (f1_0 q2 (2 : Int32))), (own_i2b (f1_0 q2 (3 : Int32))), (0 : Int32), (0 : Int32), (0 : Int32), (0 : Int32)]) X75 hx hZ e75 A74 ⟨by decide, Nat.le_of_ble_eq_true rfl⟩ (hb hby at_230) rfl rfl fun T76 h76 X76 e76 W76 A76 => ?_
  have Y76 := own_drop X76 g36
  refine o_aload (pc' := 233) Y76 hx (hb hby at_231) rfl rfl rfl ?_
  refine o_bipush (pc' := 235) (x := (20 : Int32)) Y76 hx (hb hby at_233) (by decide) rfl ?_
  refine o_lload (pc' := 237) Y76 hx (hb hby at_235) rfl rfl ?_
  refine o_iconst (pc' := 238) (x := (4 : Int32)) Y76 hx (hb hby at_237) (by decide) rfl ?_
  refine o_callP (W := 2) (pc' := 241) (argsL := [(.long q2), (.int (4 : Int32))]) (rest := [(.int (20 : Int32)), (.ref b36)]) (st' := [(.int (f1_0 q2 (4 : Int32))), (.int (20 : Int32)), (.ref b36)]) Y76 hx hZ e76 hown (hw _ (List.mem_of_getElem? (i := 2) rfl)) (hw _ (List.mem_of_getElem? (i := 3) rfl)) (hw _ (List.mem_of_getElem? (i := 4) rfl)) (hw _ (List.mem_of_getElem? (i := 5) rfl)) (by decide) (rm1 l Z ag hw [] q2 (4 : Int32) h76) (by decide) (by decide) (by rw [hml]; rfl) pd_1 rfl rfl rfl rfl (hb hby at_238) rfl rfl rfl (by decide) (by decide) rfl fun T77 X77 e77 => ?_
  refine o_bastore (pc' := 242) (vs' := [(own_i2b (f1_0 q0 (0 : Int32))), (own_i2b (f1_0 q0 (1 : Int32))), (own_i2b (f1_0 q0 (2 : Int32))), (own_i2b (f1_0 q0 (3 : Int32))), (own_i2b (f1_0 q0 (4 : Int32))), (own_i2b (f1_0 q0 (5 : Int32))), (own_i2b (f1_0 q0 (6 : Int32))), (own_i2b (f1_0 q0 (7 : Int32))), (own_i2b (f1_0 q1 (0 : Int32))), (own_i2b (f1_0 q1 (1 : Int32))), (own_i2b (f1_0 q1 (2 : Int32))), (own_i2b (f1_0 q1 (3 : Int32))), (own_i2b (f1_0 q1 (4 : Int32))), (own_i2b (f1_0 q1 (5 : Int32))), (own_i2b (f1_0 q1 (6 : Int32))), (own_i2b (f1_0 q1 (7 : Int32))), (own_i2b (f1_0 q2 (0 : Int32))), (own_i2b (f1_0 q2 (1 : Int32))), (own_i2b (f1_0 q2 (2 : Int32))), (own_i2b (f1_0 q2 (3 : Int32))), (own_i2b (f1_0 q2 (4 : Int32))), (0 : Int32), (0 : Int32), (0 : Int32)]) X77 hx hZ e77 A76 ⟨by decide, Nat.le_of_ble_eq_true rfl⟩ (hb hby at_241) rfl rfl fun T78 h78 X78 e78 W78 A78 => ?_
  have Y78 := own_drop X78 g36
  refine o_aload (pc' := 244) Y78 hx (hb hby at_242) rfl rfl rfl ?_
  refine o_bipush (pc' := 246) (x := (21 : Int32)) Y78 hx (hb hby at_244) (by decide) rfl ?_
  refine o_lload (pc' := 248) Y78 hx (hb hby at_246) rfl rfl ?_
  refine o_iconst (pc' := 249) (x := (5 : Int32)) Y78 hx (hb hby at_248) (by decide) rfl ?_
  refine o_callP (W := 2) (pc' := 252) (argsL := [(.long q2), (.int (5 : Int32))]) (rest := [(.int (21 : Int32)), (.ref b36)]) (st' := [(.int (f1_0 q2 (5 : Int32))), (.int (21 : Int32)), (.ref b36)]) Y78 hx hZ e78 hown (hw _ (List.mem_of_getElem? (i := 2) rfl)) (hw _ (List.mem_of_getElem? (i := 3) rfl)) (hw _ (List.mem_of_getElem? (i := 4) rfl)) (hw _ (List.mem_of_getElem? (i := 5) rfl)) (by decide) (rm1 l Z ag hw [] q2 (5 : Int32) h78) (by decide) (by decide) (by rw [hml]; rfl) pd_1 rfl rfl rfl rfl (hb hby at_249) rfl rfl rfl (by decide) (by decide) rfl fun T79 X79 e79 => ?_
  refine o_bastore (pc' := 253) (vs' := [(own_i2b (f1_0 q0 (0 : Int32))), (own_i2b (f1_0 q0 (1 : Int32))), (own_i2b (f1_0 q0 (2 : Int32))), (own_i2b (f1_0 q0 (3 : Int32))), (own_i2b (f1_0 q0 (4 : Int32))), (own_i2b (f1_0 q0 (5 : Int32))), (own_i2b (f1_0 q0 (6 : Int32))), (own_i2b (f1_0 q0 (7 : Int32))), (own_i2b (f1_0 q1 (0 : Int32))), (own_i2b (f1_0 q1 (1 : Int32))), (own_i2b (f1_0 q1 (2 : Int32))), (own_i2b (f1_0 q1 (3 : Int32))), (own_i2b (f1_0 q1 (4 : Int32))), (own_i2b (f1_0 q1 (5 : Int32))), (own_i2b (f1_0 q1 (6 : Int32))), (own_i2b (f1_0 q1 (7 : Int32))), (own_i2b (f1_0 q2 (0 : Int32))), (own_i2b (f1_0 q2 (1 : Int32))), (own_i2b (f1_0 q2 (2 : Int32))), (own_i2b (f1_0 q2 (3 : Int32))), (own_i2b (f1_0 q2 (4 : Int32))), (own_i2b (f1_0 q2 (5 : Int32))), (0 : Int32), (0 : Int32)]) X79 hx hZ e79 A78 ⟨by decide, Nat.le_of_ble_eq_true rfl⟩ (hb hby at_252) rfl rfl fun T80 h80 X80 e80 W80 A80 => ?_
  have Y80 := own_drop X80 g36
  refine o_aload (pc' := 255) Y80 hx (hb hby at_253) rfl rfl rfl ?_
  refine o_bipush (pc' := 257) (x := (22 : Int32)) Y80 hx (hb hby at_255) (by decide) rfl ?_
  refine o_lload (pc' := 259) Y80 hx (hb hby at_257) rfl rfl ?_
  refine o_bipush (pc' := 261) (x := (6 : Int32)) Y80 hx (hb hby at_259) (by decide) rfl ?_
  refine o_callP (W := 2) (pc' := 264) (argsL := [(.long q2), (.int (6 : Int32))]) (rest := [(.int (22 : Int32)), (.ref b36)]) (st' := [(.int (f1_0 q2 (6 : Int32))), (.int (22 : Int32)), (.ref b36)]) Y80 hx hZ e80 hown (hw _ (List.mem_of_getElem? (i := 2) rfl)) (hw _ (List.mem_of_getElem? (i := 3) rfl)) (hw _ (List.mem_of_getElem? (i := 4) rfl)) (hw _ (List.mem_of_getElem? (i := 5) rfl)) (by decide) (rm1 l Z ag hw [] q2 (6 : Int32) h80) (by decide) (by decide) (by rw [hml]; rfl) pd_1 rfl rfl rfl rfl (hb hby at_261) rfl rfl rfl (by decide) (by decide) rfl fun T81 X81 e81 => ?_
  refine o_bastore (pc' := 265) (vs' := [(own_i2b (f1_0 q0 (0 : Int32))), (own_i2b (f1_0 q0 (1 : Int32))), (own_i2b (f1_0 q0 (2 : Int32))), (own_i2b (f1_0 q0 (3 : Int32))), (own_i2b (f1_0 q0 (4 : Int32))), (own_i2b (f1_0 q0 (5 : Int32))), (own_i2b (f1_0 q0 (6 : Int32))), (own_i2b (f1_0 q0 (7 : Int32))), (own_i2b (f1_0 q1 (0 : Int32))), (own_i2b (f1_0 q1 (1 : Int32))), (own_i2b (f1_0 q1 (2 : Int32))), (own_i2b (f1_0 q1 (3 : Int32))), (own_i2b (f1_0 q1 (4 : Int32))), (own_i2b (f1_0 q1 (5 : Int32))), (own_i2b (f1_0 q1 (6 : Int32))), (own_i2b (f1_0 q1 (7 : Int32))), (own_i2b (f1_0 q2 (0 : Int32))), (own_i2b (f1_0 q2 (1 : Int32))), (own_i2b (f1_0 q2 (2 : Int32))), (own_i2b (f1_0 q2 (3 : Int32))), (own_i2b (f1_0 q2 (4 : Int32))), (own_i2b (f1_0 q2 (5 : Int32))), (own_i2b (f1_0 q2 (6 : Int32))), (0 : Int32)]) X81 hx hZ e81 A80 ⟨by decide, Nat.le_of_ble_eq_true rfl⟩ (hb hby at_264) rfl rfl fun T82 h82 X82 e82 W82 A82 => ?_
  have Y82 := own_drop X82 g36
  refine o_aload (pc' := 267) Y82 hx (hb hby at_265) rfl rfl rfl ?_
  refine o_bipush (pc' := 269) (x := (23 : Int32)) Y82 hx (hb hby at_267) (by decide) rfl ?_
  refine o_lload (pc' := 271) Y82 hx (hb hby at_269) rfl rfl ?_
  refine o_bipush (pc' := 273) (x := (7 : Int32)) Y82 hx (hb hby at_271) (by decide) rfl ?_
  refine o_callP (W := 2) (pc' := 276) (argsL := [(.long q2), (.int (7 : Int32))]) (rest := [(.int (23 : Int32)), (.ref b36)]) (st' := [(.int (f1_0 q2 (7 : Int32))), (.int (23 : Int32)), (.ref b36)]) Y82 hx hZ e82 hown (hw _ (List.mem_of_getElem? (i := 2) rfl)) (hw _ (List.mem_of_getElem? (i := 3) rfl)) (hw _ (List.mem_of_getElem? (i := 4) rfl)) (hw _ (List.mem_of_getElem? (i := 5) rfl)) (by decide) (rm1 l Z ag hw [] q2 (7 : Int32) h82) (by decide) (by decide) (by rw [hml]; rfl) pd_1 rfl rfl rfl rfl (hb hby at_273) rfl rfl rfl (by decide) (by decide) rfl fun T83 X83 e83 => ?_
  refine o_bastore (pc' := 277) (vs' := [(own_i2b (f1_0 q0 (0 : Int32))), (own_i2b (f1_0 q0 (1 : Int32))), (own_i2b (f1_0 q0 (2 : Int32))), (own_i2b (f1_0 q0 (3 : Int32))), (own_i2b (f1_0 q0 (4 : Int32))), (own_i2b (f1_0 q0 (5 : Int32))), (own_i2b (f1_0 q0 (6 : Int32))), (own_i2b (f1_0 q0 (7 : Int32))), (own_i2b (f1_0 q1 (0 : Int32))), (own_i2b (f1_0 q1 (1 : Int32))), (own_i2b (f1_0 q1 (2 : Int32))), (own_i2b (f1_0 q1 (3 : Int32))), (own_i2b (f1_0 q1 (4 : Int32))), (own_i2b (f1_0 q1 (5 : Int32))), (own_i2b (f1_0 q1 (6 : Int32))), (own_i2b (f1_0 q1 (7 : Int32))), (own_i2b (f1_0 q2 (0 : Int32))), (own_i2b (f1_0 q2 (1 : Int32))), (own_i2b (f1_0 q2 (2 : Int32))), (own_i2b (f1_0 q2 (3 : Int32))), (own_i2b (f1_0 q2 (4 : Int32))), (own_i2b (f1_0 q2 (5 : Int32))), (own_i2b (f1_0 q2 (6 : Int32))), (own_i2b (f1_0 q2 (7 : Int32)))]) X83 hx hZ e83 A82 ⟨by decide, Nat.le_of_ble_eq_true rfl⟩ (hb hby at_276) rfl rfl fun T84 h84 X84 e84 W84 A84 => ?_
  have Y84 := own_drop X84 g36
  exact b0_277 C (own_rem (p3 &&& (2147483647 : Int32)) (24 : Int32)) (own_rem (p4 &&& (2147483647 : Int32)) ((25 : Int32) - (own_rem (p3 &&& (2147483647 : Int32)) (24 : Int32)))) b36 [(own_i2b (f1_0 q0 (0 : Int32))), (own_i2b (f1_0 q0 (1 : Int32))), (own_i2b (f1_0 q0 (2 : Int32))), (own_i2b (f1_0 q0 (3 : Int32))), (own_i2b (f1_0 q0 (4 : Int32))), (own_i2b (f1_0 q0 (5 : Int32))), (own_i2b (f1_0 q0 (6 : Int32))), (own_i2b (f1_0 q0 (7 : Int32))), (own_i2b (f1_0 q1 (0 : Int32))), (own_i2b (f1_0 q1 (1 : Int32))), (own_i2b (f1_0 q1 (2 : Int32))), (own_i2b (f1_0 q1 (3 : Int32))), (own_i2b (f1_0 q1 (4 : Int32))), (own_i2b (f1_0 q1 (5 : Int32))), (own_i2b (f1_0 q1 (6 : Int32))), (own_i2b (f1_0 q1 (7 : Int32))), (own_i2b (f1_0 q2 (0 : Int32))), (own_i2b (f1_0 q2 (1 : Int32))), (own_i2b (f1_0 q2 (2 : Int32))), (own_i2b (f1_0 q2 (3 : Int32))), (own_i2b (f1_0 q2 (4 : Int32))), (own_i2b (f1_0 q2 (5 : Int32))), (own_i2b (f1_0 q2 (6 : Int32))), (own_i2b (f1_0 q2 (7 : Int32)))] Y84 e84 A84 g36 (One.val rfl) (One.val rfl) One.u One.u One.u One.u hs.2 hK

end Body0
theorem ef_0 (m : MethodId) (q0 : Int64) (q1 : Int64) (q2 : Int64) (p3 : Int32) (p4 : Int32) : entryFrame m #[(.long q0), (.long q1), (.long q2), (.int p3), (.int p4)] maxLocals = mkF m 0 #[.val (.long q0), .second, .val (.long q1), .second, .val (.long q2), .second, .val (.int p3), .val (.int p4), .unset, .unset, .unset, .unset, .unset, .unset, .unset, .unset, .unset] [] := by first | (simp [entryFrame, mkF, argsToLocals, Value.category, maxLocals]; done) | rfl
set_option maxRecDepth 65536 in
set_option maxHeartbeats 40000000 in
theorem rm0 (l : Launch) (Z : State) (ag : Array Value) (hw : ∀ d ∈ tables_1, d.before ag Z = true) (ws : List Jvm.Cond) (q0 : Int64) (q1 : Int64) (q2 : Int64) (p3 : Int32) (p4 : Int32) (h0 : Heap) (hs : s0_0 q0 q1 q2 p3 p4) :
    MetFree l x (head1 (Jvm.Cond.code x code maxLocals ret :: ws) R0) (fun a U => a = #[(.long q0), (.long q1), (.long q2), (.int p3), (.int p4)] ∧ Z.Warmed39 U.vm ∧ U.heap = h0) (fun _ _ _ _ _ => True) (fun _ U o U' => ∃ v L, o = .returned v ∧ own_KL (some (.int (f0_0 q0 q1 q2 p3 p4))) v U'.heap L ∧ FrameEnd U o U' L cc0 ss0) := by
  refine MetFree.of_bodySF (plainFor_of_name pn_TextKeysSlotPinLaw) hisR ?_
  intro p e s m args below meth c s₁ Bd hml0 hP hK
  obtain ⟨rfl, hZ, hh⟩ := hP
  have C : own_Cx p s m meth c Z ag code maxLocals "com/example/plumbline/plumbline/core/TextKeysSlotPinLaw" ret "law" := ⟨Bd.exec, hZ, hw, Bd.bytes, hml0, findClass_of_methodNamed Bd.named, Bd.returns, Bd.notSynchronized, (name_of_methodNamed Bd.named Bd.method).1⟩
  have X0 : Stand p l e R0 s m #[(.long q0), (.long q1), (.long q2), (.int p3), (.int p4)] below meth c s₁ [] 0 0 := Stand.of_body Bd
  have e0 : s₁.heap = h0 := by rw [← hh, Bd.state]; rfl
  rw [ef_0]
  exact b0_0 (K := own_KL (some (.int (f0_0 q0 q1 q2 p3 p4)))) C q0 q1 q2 p3 p4 X0 e0 hs (fun _ => ⟨rfl, rfl⟩)

def own_mix (x : Int32) : Int32 := own_ushr (x * (-1640531527 : Int32)) (22 : Int32)
theorem own_loop (v : List Int32) (o : Nat) : ∀ (c fuel : Nat) (h : Int32) (i : Nat), c < fuel → o + i + c < 2 ^ 31 → f2_5 fuel v (Int32.ofNat o) (Int32.ofNat (i + c)) h (Int32.ofNat i) = own_mix (own_h v h (o + i) c) ∧ (o + i + c ≤ v.length → s2_5 fuel v (Int32.ofNat o) (Int32.ofNat (i + c)) h (Int32.ofNat i)) := by
  intro c
  induction c with
  | zero =>
    intro fuel h i hf hi
    obtain ⟨n, rfl⟩ : ∃ n, fuel = n + 1 := ⟨fuel - 1, by omega⟩
    have q : ¬ Int32.ofNat i < Int32.ofNat (i + 0) := by rw [own_nat_lt (by omega) (by omega)]; omega
    constructor
    · rw [f2_5, if_neg q]; rfl
    · intro _; rw [s2_5]; exact ⟨fun q' => absurd q' q, fun _ => trivial⟩
  | succ c ih =>
    intro fuel h i hf hi
    obtain ⟨n, rfl⟩ : ∃ n, fuel = n + 1 := ⟨fuel - 1, by omega⟩
    have q : Int32.ofNat i < Int32.ofNat (i + (c + 1)) := by rw [own_nat_lt (by omega) (by omega)]; omega
    have e : i + (c + 1) = (i + 1) + c := by omega
    have k := ih n (31 * h + v.getD (o + i) 0) (i + 1) (by omega) (by omega)
    constructor
    · rw [f2_5, if_pos q, own_nat_one, ← Int32.ofNat_add, own_nat_get v (by omega), e, k.1]; rfl
    · intro hl
      rw [s2_5]
      refine ⟨fun _ => ⟨by rw [← Int32.ofNat_add]; exact own_nat_in (by omega) (by omega), ?_⟩, fun q' => absurd q q'⟩
      rw [own_nat_one, ← Int32.ofNat_add, own_nat_get v (by omega), e]
      exact k.2 (by omega)
theorem own_pow : ∀ e : Fin 32, f4_0 (Int32.ofNat e.val) = own_p e.val := by decide
/-- one term of the sum -/
theorem own_term (v : List Int32) (o n k : Nat) (h : o + n ≤ 24) (hk : k < 24) : f3_0 v (Int32.ofNat k) (Int32.ofNat o) (Int32.ofNat n) = if o ≤ k ∧ k < o + n then v.getD k 0 * own_p (o + n - 1 - k) else 0 := by
  unfold f3_0 f3_12
  by_cases q : k < o
  · rw [if_pos ((own_nat_lt (by omega) (by omega)).mpr q), if_neg (by omega)]
  · rw [if_neg (fun w => q ((own_nat_lt (by omega) (by omega)).mp w)), ← Int32.ofNat_add]
    by_cases q2 : k < o + n
    · rw [if_pos ((own_nat_lt (by omega) (by omega)).mpr q2), if_pos (by omega), own_nat_get v (by omega)]
      rw [show (Int32.ofNat (o + n) - (1 : Int32)) = Int32.ofNat (o + n - 1) from own_nat_sub (b := 1) (by omega) (by omega), own_nat_sub (by omega) (by omega), own_pow ⟨o + n - 1 - k, by omega⟩]
    · rw [if_neg (fun w => q2 ((own_nat_lt (by omega) (by omega)).mp w)), if_neg (by omega)]
theorem own_terms (v : List Int32) (o n k : Nat) (hv : v.length = 24) (h : o + n ≤ 24) (hk : k < 24) : s3_0 v (Int32.ofNat k) (Int32.ofNat o) (Int32.ofNat n) :=
  ⟨fun _ => trivial, fun _ => ⟨fun _ => ⟨own_nat_in (by omega) (by omega), trivial⟩, fun _ => trivial⟩⟩
/-- the sum so far -/
def own_T (v : List Int32) (o n : Nat) : Nat → Int32
  | 0 => 0
  | k + 1 => own_T v o n k + (if o ≤ k ∧ k < o + n then v.getD k 0 * own_p (o + n - 1 - k) else 0)
theorem own_T_low (v : List Int32) (o n : Nat) : ∀ j, j ≤ o → own_T v o n j = 0 := by
  intro j
  induction j with
  | zero => intro _; rfl
  | succ j ih => intro hj; rw [own_T, ih (by omega), if_neg (by omega), Int32.add_zero]
theorem own_T_mid (v : List Int32) (o n : Nat) : ∀ c, c ≤ n → own_T v o n (o + c) + own_sum v (o + c) (n - c) = own_sum v o n := by
  intro c
  induction c with
  | zero => intro _; rw [Nat.add_zero, own_T_low v o n o (Nat.le_refl _), Int32.zero_add]; rfl
  | succ c ih =>
    intro hc
    have k := ih (by omega)
    obtain ⟨d, hd⟩ : ∃ d, n - c = d + 1 := ⟨n - c - 1, by omega⟩
    rw [hd, own_sum] at k
    rw [← k, show o + (c + 1) = (o + c) + 1 by omega, own_T, if_pos (by omega), show o + n - 1 - (o + c) = d by omega, show n - (c + 1) = d by omega, Int32.add_assoc]
theorem own_T_all (v : List Int32) (o n : Nat) : ∀ j, o + n ≤ j → own_T v o n j = own_sum v o n := by
  intro j
  induction j with
  | zero =>
    intro hj
    have k := own_T_mid v o n n (Nat.le_refl _)
    rw [Nat.sub_self, own_sum, Int32.add_zero] at k
    rw [← k, show o + n = 0 by omega]
  | succ j ih =>
    intro hj
    by_cases q : o + n ≤ j
    · rw [own_T, ih q, if_neg (by omega), Int32.add_zero]
    · have k := own_T_mid v o n n (Nat.le_refl _)
      rw [Nat.sub_self, own_sum, Int32.add_zero] at k
      rw [← k, show o + n = j + 1 by omega]
theorem own_m22 (h : Int32) : (own_lushr (((h.toInt64 &&& (4294967295 : Int64)) * (2654435769 : Int64)) &&& (4294967295 : Int64)) (22 : Int32)).toInt32 = own_mix h := by
  have e1 : (h.toInt64 &&& (4294967295 : Int64)).toInt = h.toInt % 2 ^ 32 := by rw [Jvm.Kit.i64_mask h.toInt64 4294967295 (k := 32) (by decide) (by decide), Int32.toInt_toInt64]
  have e2 : (((h.toInt64 &&& (4294967295 : Int64)) * (2654435769 : Int64)) &&& (4294967295 : Int64)).toInt = (h.toInt * 2654435769) % 2 ^ 32 := by
    rw [Jvm.Kit.i64_mask _ 4294967295 (k := 32) (by decide) (by decide), Int64.toInt_mul, e1, show (2654435769 : Int64).toInt = 2654435769 from rfl]
    rw [← Int.emod_emod_of_dvd (Int.bmod _ _) (show (2 ^ 32 : Int) ∣ ((2 ^ 64 : Nat) : Int) from ⟨2 ^ 32, by decide⟩), Int.bmod_emod, Int.emod_emod_of_dvd _ (show (2 ^ 32 : Int) ∣ ((2 ^ 64 : Nat) : Int) from ⟨2 ^ 32, by decide⟩)]
    omega
  generalize hx : ((h.toInt64 &&& (4294967295 : Int64)) * (2654435769 : Int64)) &&& (4294967295 : Int64) = x at *
  have b1 := Int.emod_nonneg (h.toInt * 2654435769) (show (2 ^ 32 : Int) ≠ 0 by decide)
  have b2 := Int.emod_lt_of_pos (h.toInt * 2654435769) (show (0 : Int) < 2 ^ 32 by decide)
  have e3 : (own_lushr x 22).toInt = x.toInt / 2 ^ 22 := Jvm.Kit.i64_lushr (by rw [Jvm.Kit.i64_nonneg]; omega) (by decide) (by decide)
  rw [own_eq, Jvm.Kit.i32_of_i64 (by omega) (by omega), e3, e2]
  have e4 := own_ushr_toInt (h * (-1640531527 : Int32)) 22 (k := 22) (by decide) (by decide) (by decide)
  have e5 := own_toNat (h * (-1640531527 : Int32))
  have e7 (z : Int) : z.bmod (2 ^ 32) % 2 ^ 32 = z % 2 ^ 32 := by rw [Int.bmod_def]; omega
  rw [Int32.toInt_mul, e7, show (-1640531527 : Int32).toInt = -1640531527 from rfl] at e5
  have e6 : (h.toInt * -1640531527) % 2 ^ 32 = (h.toInt * 2654435769) % 2 ^ 32 := by omega
  show _ = (own_ushr (h * (-1640531527 : Int32)) 22).toInt
  rw [e4, Int.natCast_ediv, Int.natCast_pow]
  have e5' : (((h * (-1640531527 : Int32)).toBitVec.toNat : Nat) : Int) = (h.toInt * 2654435769) % 2 ^ 32 := by rw [e5]; exact e6
  rw [e5']
  rfl
theorem own_key (v : List Int32) (o n : Nat) (hv : v.length = 24) (h : o + n ≤ 24) (hn : n ≤ 23) : s0_277 (Int32.ofNat n) (Int32.ofNat o) v ∧ f0_277 (Int32.ofNat n) (Int32.ofNat o) v = 1 := by
  have L := own_loop v o n 64 (Int32.ofNat n) 0 (by omega) (by omega)
  rw [Nat.zero_add, Nat.add_zero] at L
  constructor
  · exact ⟨L.2 (by omega), own_terms v o n 0 hv h (by omega), own_terms v o n 1 hv h (by omega), own_terms v o n 2 hv h (by omega), own_terms v o n 3 hv h (by omega), own_terms v o n 4 hv h (by omega), own_terms v o n 5 hv h (by omega), own_terms v o n 6 hv h (by omega), own_terms v o n 7 hv h (by omega), own_terms v o n 8 hv h (by omega), own_terms v o n 9 hv h (by omega), own_terms v o n 10 hv h (by omega), own_terms v o n 11 hv h (by omega), own_terms v o n 12 hv h (by omega), own_terms v o n 13 hv h (by omega), own_terms v o n 14 hv h (by omega), own_terms v o n 15 hv h (by omega), own_terms v o n 16 hv h (by omega), own_terms v o n 17 hv h (by omega), own_terms v o n 18 hv h (by omega), own_terms v o n 19 hv h (by omega), own_terms v o n 20 hv h (by omega), own_terms v o n 21 hv h (by omega), own_terms v o n 22 hv h (by omega), own_terms v o n 23 hv h (by omega), trivial⟩
  · have T : (((((((((((((((((((((((f3_0 v (0 : Int32) (Int32.ofNat o) (Int32.ofNat n) + f3_0 v (1 : Int32) (Int32.ofNat o) (Int32.ofNat n)) + f3_0 v (2 : Int32) (Int32.ofNat o) (Int32.ofNat n)) + f3_0 v (3 : Int32) (Int32.ofNat o) (Int32.ofNat n)) + f3_0 v (4 : Int32) (Int32.ofNat o) (Int32.ofNat n)) + f3_0 v (5 : Int32) (Int32.ofNat o) (Int32.ofNat n)) + f3_0 v (6 : Int32) (Int32.ofNat o) (Int32.ofNat n)) + f3_0 v (7 : Int32) (Int32.ofNat o) (Int32.ofNat n)) + f3_0 v (8 : Int32) (Int32.ofNat o) (Int32.ofNat n)) + f3_0 v (9 : Int32) (Int32.ofNat o) (Int32.ofNat n)) + f3_0 v (10 : Int32) (Int32.ofNat o) (Int32.ofNat n)) + f3_0 v (11 : Int32) (Int32.ofNat o) (Int32.ofNat n)) + f3_0 v (12 : Int32) (Int32.ofNat o) (Int32.ofNat n)) + f3_0 v (13 : Int32) (Int32.ofNat o) (Int32.ofNat n)) + f3_0 v (14 : Int32) (Int32.ofNat o) (Int32.ofNat n)) + f3_0 v (15 : Int32) (Int32.ofNat o) (Int32.ofNat n)) + f3_0 v (16 : Int32) (Int32.ofNat o) (Int32.ofNat n)) + f3_0 v (17 : Int32) (Int32.ofNat o) (Int32.ofNat n)) + f3_0 v (18 : Int32) (Int32.ofNat o) (Int32.ofNat n)) + f3_0 v (19 : Int32) (Int32.ofNat o) (Int32.ofNat n)) + f3_0 v (20 : Int32) (Int32.ofNat o) (Int32.ofNat n)) + f3_0 v (21 : Int32) (Int32.ofNat o) (Int32.ofNat n)) + f3_0 v (22 : Int32) (Int32.ofNat o) (Int32.ofNat n)) + f3_0 v (23 : Int32) (Int32.ofNat o) (Int32.ofNat n)) = own_sum v o n := by
      have k0 := own_T_all v o n 24 h
      simp only [own_T, Int32.zero_add] at k0
      rw [← k0]
      rw [show f3_0 v (0 : Int32) (Int32.ofNat o) (Int32.ofNat n) = _ from own_term v o n 0 h (by omega), show f3_0 v (1 : Int32) (Int32.ofNat o) (Int32.ofNat n) = _ from own_term v o n 1 h (by omega), show f3_0 v (2 : Int32) (Int32.ofNat o) (Int32.ofNat n) = _ from own_term v o n 2 h (by omega), show f3_0 v (3 : Int32) (Int32.ofNat o) (Int32.ofNat n) = _ from own_term v o n 3 h (by omega), show f3_0 v (4 : Int32) (Int32.ofNat o) (Int32.ofNat n) = _ from own_term v o n 4 h (by omega), show f3_0 v (5 : Int32) (Int32.ofNat o) (Int32.ofNat n) = _ from own_term v o n 5 h (by omega), show f3_0 v (6 : Int32) (Int32.ofNat o) (Int32.ofNat n) = _ from own_term v o n 6 h (by omega), show f3_0 v (7 : Int32) (Int32.ofNat o) (Int32.ofNat n) = _ from own_term v o n 7 h (by omega), show f3_0 v (8 : Int32) (Int32.ofNat o) (Int32.ofNat n) = _ from own_term v o n 8 h (by omega), show f3_0 v (9 : Int32) (Int32.ofNat o) (Int32.ofNat n) = _ from own_term v o n 9 h (by omega), show f3_0 v (10 : Int32) (Int32.ofNat o) (Int32.ofNat n) = _ from own_term v o n 10 h (by omega), show f3_0 v (11 : Int32) (Int32.ofNat o) (Int32.ofNat n) = _ from own_term v o n 11 h (by omega), show f3_0 v (12 : Int32) (Int32.ofNat o) (Int32.ofNat n) = _ from own_term v o n 12 h (by omega), show f3_0 v (13 : Int32) (Int32.ofNat o) (Int32.ofNat n) = _ from own_term v o n 13 h (by omega), show f3_0 v (14 : Int32) (Int32.ofNat o) (Int32.ofNat n) = _ from own_term v o n 14 h (by omega), show f3_0 v (15 : Int32) (Int32.ofNat o) (Int32.ofNat n) = _ from own_term v o n 15 h (by omega), show f3_0 v (16 : Int32) (Int32.ofNat o) (Int32.ofNat n) = _ from own_term v o n 16 h (by omega), show f3_0 v (17 : Int32) (Int32.ofNat o) (Int32.ofNat n) = _ from own_term v o n 17 h (by omega), show f3_0 v (18 : Int32) (Int32.ofNat o) (Int32.ofNat n) = _ from own_term v o n 18 h (by omega), show f3_0 v (19 : Int32) (Int32.ofNat o) (Int32.ofNat n) = _ from own_term v o n 19 h (by omega), show f3_0 v (20 : Int32) (Int32.ofNat o) (Int32.ofNat n) = _ from own_term v o n 20 h (by omega), show f3_0 v (21 : Int32) (Int32.ofNat o) (Int32.ofNat n) = _ from own_term v o n 21 h (by omega), show f3_0 v (22 : Int32) (Int32.ofNat o) (Int32.ofNat n) = _ from own_term v o n 22 h (by omega), show f3_0 v (23 : Int32) (Int32.ofNat o) (Int32.ofNat n) = _ from own_term v o n 23 h (by omega)]
    unfold f0_277
    rw [if_pos]
    · rfl
    · rw [T, show f4_0 (Int32.ofNat n) = own_p n from own_pow ⟨n, by omega⟩, own_m22, ← own_h_eq]
      exact L.1
theorem own_both (q0 q1 q2 : Int64) (p3 p4 : Int32) : s0_0 q0 q1 q2 p3 p4 ∧ f0_0 q0 q1 q2 p3 p4 = 1 := by
  have m3 := own_max p3; have m4 := own_max p4
  have e3 := own_emod (x := p3 &&& 2147483647) (y := 24) (by omega)
  rw [show (24 : Int32).toInt = 24 from rfl] at e3
  obtain ⟨n, hn, hn', -⟩ := own_nat_of (x := own_rem (p3 &&& 2147483647) 24) (by omega)
  have hn23 : n ≤ 23 := by omega
  have s25 : (25 : Int32) - Int32.ofNat n = Int32.ofNat (25 - n) := own_nat_sub (a := 25) (by omega) (by omega)
  have e4 := own_emod (x := p4 &&& 2147483647) (y := Int32.ofNat (25 - n)) (by omega)
  rw [own_nat_toInt (by omega)] at e4
  have b1 := Int.emod_nonneg (p4 &&& 2147483647).toInt (show ((25 - n : Nat) : Int) ≠ 0 by omega)
  have b2 := Int.emod_lt_of_pos (p4 &&& 2147483647).toInt (show (0 : Int) < ((25 - n : Nat) : Int) by omega)
  obtain ⟨o, ho, ho', -⟩ := own_nat_of (x := own_rem (p4 &&& 2147483647) (Int32.ofNat (25 - n))) (by omega)
  unfold s0_0 f0_0
  rw [hn, s25, ho]
  refine ⟨⟨fun q => ?_, (own_key _ o n rfl (by omega) hn23).1⟩, (own_key _ o n rfl (by omega) hn23).2⟩
  rw [own_eq, own_nat_toInt (by omega), show (0 : Int32).toInt = 0 from rfl] at q
  omega
theorem own_law (q0 q1 q2 : Int64) (p3 p4 : Int32) : f0_0 q0 q1 q2 p3 p4 = 1 := (own_both q0 q1 q2 p3 p4).2
theorem own_safe (q0 q1 q2 : Int64) (p3 p4 : Int32) : s0_0 q0 q1 q2 p3 p4 := (own_both q0 q1 q2 p3 p4).1

set_option maxRecDepth 65536 in
set_option maxHeartbeats 40000000 in
theorem comes_1 {Post : Tables → Env → Array Value → State → Outcome → State → Prop} (hpost : ∀ tb e args s v u, (limb_1_1.after args s (.returned v) u = true ∧ limb_1_2.after args s (.returned v) u = true) → FrameEnd s (.returned v) u (Jvm.fieldLocs frame_1_writes args s ++ Jvm.arrayLocs frame_1_arrays args s ++ Jvm.staticLocs frame_1_statics s) 16 128 → Post tb e args s (.returned v) u) :
    ArmFor flags0 classFile x code maxLocals ret World_1 tables_1 room_1 Calls_1 rest_1 Pre_1 Post := by
  intro l hfl _ _ p e ha hc hk s m args below hf hA hF happ hP
  obtain ⟨hcalls, hrest, hpre⟩ := hP
  obtain ⟨-, -, -, hnamed, -, -, -, hat⟩ := (Spec.applies_iff hf).mp happ
  obtain ⟨hg, hn⟩ := and_e (Cond.before_iff.mp (show (Jvm.Cond.and given_1 narrow_1).before args s = true from hpre))
  obtain ⟨g1a, g1b⟩ := and_e hg
  obtain ⟨g2a, g2b⟩ := and_e g1b
  obtain ⟨g3a, g3b⟩ := and_e g2b
  obtain ⟨g4a, g4b⟩ := and_e g3b
  obtain ⟨g5a, g5b⟩ := and_e g4b
  obtain ⟨w0, w1, w2, w3, w4, rfl⟩ : ∃ w0 w1 w2 w3 w4 : Value, args = #[w0, w1, w2, w3, w4] := by
    have hs : args.size = 5 := by simpa [Cond.value, given_1] using g1a
    obtain ⟨L⟩ := args
    match L, hs with
    | [w0, w1, w2, w3, w4], _ => exact ⟨w0, w1, w2, w3, w4, rfl⟩
  have hw := fun d (hd : d ∈ tables_1) => atoms_spec (ws := Jvm.Cond.code x code maxLocals ret :: tables_1) hat d (List.mem_cons_of_mem _ hd)
  obtain ⟨i0, ei0⟩ := isL_v g2a
  obtain rfl : w0 = (.long i0) := Option.some.inj ei0
  obtain ⟨i1, ei1⟩ := isL_v g3a
  obtain rfl : w1 = (.long i1) := Option.some.inj ei1
  obtain ⟨i2, ei2⟩ := isL_v g4a
  obtain rfl : w2 = (.long i2) := Option.some.inj ei2
  obtain ⟨i3, ei3⟩ := is_v g5a
  obtain rfl : w3 = (.int i3) := Option.some.inj ei3
  obtain ⟨i4, ei4⟩ := is_v g5b
  obtain rfl : w4 = (.int i4) := Option.some.inj ei4
  obtain ⟨n, o, h1, h2, h3, v, L, rfl, ⟨rfl, rfl⟩, hq⟩ := rm0 l s _ hw tables_1 i0 i1 i2 i3 i4 s.heap (own_safe i0 i1 i2 i3 i4) p e ha hc hk s m _ below hf ((Spec.applies_iff_loose hf).mp happ).1 ⟨rfl, State.Warmed39.refl s, rfl⟩ trivial
  have hv1 := own_law i0 i1 i2 i3 i4
  refine ⟨n, _, h1, h2, h3, hpost _ _ _ _ _ _ ⟨Cond.after_iff.mpr rfl, Cond.after_iff.mpr (eq_i res_at (Term.int_eval (1)) (by rw [hv1]) rfl)⟩ ⟨hq.1, hq.2.1, (hq.2.2.sift fun y hy => nomatch hy).mono (by decide) (by decide)⟩⟩
theorem main_1_1 : Claimed_1_1 := comes_1 fun _ _ _ _ _ _ h hF => ⟨h.1, hF⟩
theorem main_1_2 : Claimed_1_2 := comes_1 fun _ _ _ _ _ _ h hF => ⟨h.2, hF⟩
end Jvm.Pilot.@@N@@
namespace Jvm.Pilot.@@N@@
open Jvm Jvm.ClassFile Sem Op Lib Jvm.Free Jvm.Stand Jvm.Pilot.@@N@@.Jvm.D
/-! MADE BY PROGRAM (witnessworld.py) out of the Statement's table words and the real class files: 9 classes; the members and pool entries that the words name. The judged class is class 1, her method 1. -/
namespace start1
open Jvm.ClassFile
def u (s : String) : CpInfo := .utf8 (stringToUtf16 s)
/-- a pool by its gaps: so many unusable entries, then the entry; so many at the end -/
def gap : Nat → List CpInfo → List CpInfo
  | 0, r => r
  | n + 1, r => .unusable :: gap n r
def poolList (es : List (Nat × CpInfo)) (last : Nat) : List CpInfo := es.foldr (fun e r => gap e.1 (e.2 :: r)) (gap last [])
def pool (es : List (Nat × CpInfo)) (last : Nat) : Array CpInfo := ⟨poolList es last⟩
def fileOf (pool : Array CpInfo) (this : Nat) (attrs : Array Attribute := #[]) (ms : Array MethodInfo := #[]) (fl : Nat := 33) (sup : Nat := 0) (ifs : Array Nat := #[]) (fds : Array FieldInfo := #[]) : ClassFile where
  minorVersion := 0
  majorVersion := 65
  constantPool := pool
  accessFlags := fl
  thisClass := this
  superClass := sup
  interfaces := ifs
  fields := fds
  methods := ms
  attributes := attrs
def plain (name : String) (sup : Option ClassId) : Class where
  name := name
  kind := .ordinary
  loader := none
  accessFlags := 33
  super := sup
  interfaces := #[]
  cf := none
  fields := #[]
  methods := #[]
  instanceTypes := #[]
  staticTypes := #[]
  resolved := #[]
  callSites := []
  init := .initialized
  statics := none
  mirror := none

def pool0 : Array CpInfo := pool [(5, u "<init>"), (0, u "()V"), (1, .class_ 10), (1, u "java/lang/Object")] 113

def k0m0 : Method := { name := "<init>", desc := "()V", sig := { parameters := [], returnType := none }, accessFlags := 1, code := none }
/-- java/lang/Object -/
def k0 : Class := { plain "java/lang/Object" none with
  accessFlags := 33
  interfaces := #[]
  cf := some (fileOf pool0 8 #[] #[{ accessFlags := 1, nameIndex := 5, descriptorIndex := 6, attributes := #[] }] 33 0 #[] #[])
  fields := #[]
  methods := #[k0m0]
  instanceTypes := #[]
  staticTypes := #[]
  resolved := Array.replicate 124 none
  statics := none }

def pool1 : Array CpInfo := pool [(2, .class_ 4), (1, u "java/lang/Object"), (0, u "<init>"), (0, u "()V"), (0, .integer 2147483647), (0, .methodref 9 10), (0, .class_ 11), (0, .nameAndType 12 13), (0, u "com/example/plumbline/plumbline/core/TextKeysSlotPinLaw"), (0, u "at"), (0, u "(JI)B"), (0, .methodref 15 16), (0, .class_ 17), (0, .nameAndType 18 19), (0, u "com/example/plumbline/plumbline/core/TextKeys"), (0, u "slot"), (0, u "([BII)I"), (0, .methodref 9 21), (0, .nameAndType 22 23), (0, u "t"), (0, u "([BIII)I"), (0, .methodref 9 25), (0, .nameAndType 26 27), (0, u "pow31"), (0, u "(I)I"), (0, .long 4294967295), (1, .long 2654435769), (3, u "law"), (0, u "(JJJII)Z")] 5

def k1m0 : Method := { name := "<init>", desc := "()V", sig := { parameters := [], returnType := none }, accessFlags := 2, code := none }
def k1c1 : Code := { maxStack := 5, maxLocals := 17, code := code, exceptionTable := #[], attributes := #[] }
def k1m1 : Method := { name := "law", desc := "(JJJII)Z", sig := { parameters := [.long, .long, .long, .int, .int], returnType := some .boolean }, accessFlags := 9, code := some k1c1 }
def k1c2 : Code := { maxStack := 5, maxLocals := 3, code := method_3_code, exceptionTable := #[], attributes := #[] }
def k1m2 : Method := { name := "at", desc := "(JI)B", sig := { parameters := [.long, .int], returnType := some .byte }, accessFlags := 10, code := some k1c2 }
def k1c3 : Code := { maxStack := 3, maxLocals := 4, code := method_4_code, exceptionTable := #[], attributes := #[] }
def k1m3 : Method := { name := "t", desc := "([BIII)I", sig := { parameters := [(.array .byte), .int, .int, .int], returnType := some .int }, accessFlags := 10, code := some k1c3 }
def k1c4 : Code := { maxStack := 2, maxLocals := 7, code := method_5_code, exceptionTable := #[], attributes := #[] }
def k1m4 : Method := { name := "pow31", desc := "(I)I", sig := { parameters := [.int], returnType := some .int }, accessFlags := 10, code := some k1c4 }
/-- com/example/plumbline/plumbline/core/TextKeysSlotPinLaw -/
def k1 : Class := { plain "com/example/plumbline/plumbline/core/TextKeysSlotPinLaw" (some 0) with
  accessFlags := 49
  interfaces := #[]
  cf := some (fileOf pool1 9 #[] #[{ accessFlags := 2, nameIndex := 5, descriptorIndex := 6, attributes := #[] }, { accessFlags := 9, nameIndex := 34, descriptorIndex := 35, attributes := #[] }, { accessFlags := 10, nameIndex := 12, descriptorIndex := 13, attributes := #[] }, { accessFlags := 10, nameIndex := 22, descriptorIndex := 23, attributes := #[] }, { accessFlags := 10, nameIndex := 26, descriptorIndex := 27, attributes := #[] }] 49 2 #[] #[])
  fields := #[]
  methods := #[k1m0, k1m1, k1m2, k1m3, k1m4]
  instanceTypes := #[]
  staticTypes := #[]
  resolved := Array.replicate 41 none
  statics := none }

def pool2 : Array CpInfo := pool [(1, .class_ 2), (0, u "com/example/plumbline/plumbline/core/TextKeys"), (1, .class_ 6), (1, u "java/lang/Object"), (0, u "<init>"), (0, u "()V"), (2, u "TABLE"), (0, u "[Lcom/example/plumbline/plumbline/core/TextItem;"), (2, u "slot"), (0, u "([BII)I"), (16, .integer 2654435769), (2, u "MAX_LENGTH"), (0, u "I"), (2, u "SLOT_BITS"), (1, u "SLOTS")] 11

def k2m0 : Method := { name := "<init>", desc := "()V", sig := { parameters := [], returnType := none }, accessFlags := 2, code := none }
def k2c1 : Code := { maxStack := 4, maxLocals := 5, code := prog_57_method_4_code, exceptionTable := #[], attributes := #[] }
def k2m1 : Method := { name := "slot", desc := "([BII)I", sig := { parameters := [(.array .byte), .int, .int], returnType := some .int }, accessFlags := 8, code := some k2c1 }
/-- com/example/plumbline/plumbline/core/TextKeys -/
def k2 : Class := { plain "com/example/plumbline/plumbline/core/TextKeys" (some 0) with
  accessFlags := 48
  interfaces := #[]
  cf := some (fileOf pool2 1 #[] #[{ accessFlags := 2, nameIndex := 7, descriptorIndex := 8, attributes := #[] }, { accessFlags := 8, nameIndex := 15, descriptorIndex := 16, attributes := #[] }] 48 4 #[] #[{ accessFlags := 24, nameIndex := 36, descriptorIndex := 37, attributes := #[] }, { accessFlags := 26, nameIndex := 40, descriptorIndex := 37, attributes := #[] }, { accessFlags := 26, nameIndex := 42, descriptorIndex := 37, attributes := #[] }, { accessFlags := 26, nameIndex := 11, descriptorIndex := 12, attributes := #[] }])
  fields := #[{ name := "MAX_LENGTH", type := .int, accessFlags := 24, slot := 0, constantValue := 0 }, { name := "SLOT_BITS", type := .int, accessFlags := 26, slot := 1, constantValue := 0 }, { name := "SLOTS", type := .int, accessFlags := 26, slot := 2, constantValue := 0 }, { name := "TABLE", type := (.array (.object "com/example/plumbline/plumbline/core/TextItem")), accessFlags := 26, slot := 3, constantValue := 0 }]
  methods := #[k2m0, k2m1]
  instanceTypes := #[]
  staticTypes := #[.int, .int, .int, (.array (.object "com/example/plumbline/plumbline/core/TextItem"))]
  resolved := Array.replicate 54 none
  statics := none }

def pool3 : Array CpInfo := pool [(1, u "java/lang/Cloneable"), (0, .class_ 1), (0, u "java/lang/Object"), (0, .class_ 3)] 3

/-- java/lang/Cloneable -/
def k3 : Class := { plain "java/lang/Cloneable" (some 0) with
  accessFlags := 1537
  interfaces := #[]
  cf := some (fileOf pool3 2 #[] #[] 1537 4 #[] #[])
  fields := #[]
  methods := #[]
  instanceTypes := #[]
  staticTypes := #[]
  resolved := Array.replicate 8 none
  statics := none }

def pool4 : Array CpInfo := pool [(1, u "java/io/Serializable"), (0, .class_ 1), (0, u "java/lang/Object"), (0, .class_ 3)] 3

/-- java/io/Serializable -/
def k4 : Class := { plain "java/io/Serializable" (some 0) with
  accessFlags := 1537
  interfaces := #[]
  cf := some (fileOf pool4 2 #[] #[] 1537 4 #[] #[])
  fields := #[]
  methods := #[]
  instanceTypes := #[]
  staticTypes := #[]
  resolved := Array.replicate 8 none
  statics := none }

/-- the primitive byte -/
def k5 : Class := { plain "byte" none with kind := .primitive 'B', accessFlags := 0x411 }
/-- [B -/
def k6 : Class := { plain "[B" (some 0) with kind := .array 5 .byte, interfaces := #[3, 4], accessFlags := 1041 }

/-- the primitive int -/
def k7 : Class := { plain "int" none with kind := .primitive 'I', accessFlags := 0x411 }
/-- [I -/
def k8 : Class := { plain "[I" (some 0) with kind := .array 7 .int, interfaces := #[3, 4], accessFlags := 1041 }

def heap : Heap := #[]
def classes : Array Class := #[k0, k1, k2, k3, k4, k5, k6, k7, k8]
def interned : List (Array UInt16 × Addr) := []
def slotsUsed : Nat := 0
def theMethod : MethodId := ⟨1, 1⟩
def args0 : Array Value := #[.long 5, .long 5, .long 5, .int 5, .int 5]
def aboutOver (below : List Frame) : State where
  vm := { classes := classes, interned := interned.toArray }
  heap := heap
  slotsUsed := slotsUsed
  threads := #[{ frames := .invoking theMethod args0 :: below }]
def below0 : List Frame := [.native { method := ⟨0, 0⟩, args := #[] }]
def about1 : State := aboutOver below0
def p0 : Program := .bare "" "" ""
def e0 : Env := launch0.env 0 0 0
theorem w_frames : about1.frames = Frame.invoking theMethod args0 :: below0 := rfl
set_option maxRecDepth 65536 in
theorem w_args : argsFit about1.vm theMethod args0 = true := by decide +kernel
set_option maxRecDepth 65536 in
theorem w_heap : heapFits about1 = true := by decide +kernel
set_option maxRecDepth 65536 in
theorem w_runnable : about1.curStatus? = some .runnable := by decide +kernel
set_option maxRecDepth 65536 in
theorem w_alone : about1.alone = true := by decide +kernel
set_option maxRecDepth 65536 in
theorem w_named : about1.methodNamed? x = some theMethod := by decide +kernel
set_option maxRecDepth 65536 in
theorem w_hears : about1.hears theMethod below0 = true := by decide +kernel
set_option maxRecDepth 65536 in
theorem w_ripe : about1.ripe theMethod args0 below0 = true := by decide +kernel
theorem w_running : about1.status = .running := rfl
set_option maxRecDepth 65536 in
theorem w_room : about1.hasRoom e0.platform room_1 = true :=
  launch0.hasRoom_least _ room_1 (by decide +kernel) (by decide +kernel) (by decide +kernel) (by decide +kernel) (by decide +kernel) (by decide +kernel)
theorem allAtoms_all (ts : List Jvm.Cond) (a : Array Jvm.Value) (st : Jvm.State) : (allAtoms ts).before a st = ts.all (fun c => c.before a st) := by
  induction ts with
  | nil => rfl
  | cons c t ih =>
    show (Jvm.Cond.and c (allAtoms t)).before a st = _
    rw [Jvm.Cond.before_and, ih, List.all_cons]
def words1 : List Jvm.Cond := Jvm.Cond.code x code maxLocals ret :: tables_1
/-- a 'code' word, met by the world's own term for the bytes: nothing is compared byte by byte -/
theorem code_word {y : MethodName} {bytes : ByteArray} {mx : Nat} {rt : Option FieldType} {a : Array Value} {s : State} {m : MethodId} {meth : Method} {c : Code} (h1 : s.methodNamed? y = some m) (h2 : s.vm.method? m = some meth) (h3 : meth.code = some c) (h4 : c.code = bytes)
    (h5 : (c.maxLocals == mx && c.exceptionTable.isEmpty && decide (c.maxStack ≤ mostOperands) && decide (meth.sig.returnType = rt) && !meth.locks && decide (parseMethodDescriptor y.desc = some meth.sig)) = true) : (Jvm.Cond.code y bytes mx rt).before a s = true := by
  simp only [Bool.and_eq_true, beq_iff_eq, Bool.not_eq_true', decide_eq_true_eq] at h5
  obtain ⟨⟨⟨⟨⟨g1, g2⟩, g3⟩, g4⟩, g5⟩, g6⟩ := h5
  simp [Cond.before, Cond.holds, Cond.value, h1, h2, h3, h4, g1, g2, g3, g4, g5, g6]
def isCode : Jvm.Cond → Bool
  | .code _ _ _ _ => true
  | _ => false
theorem all_split {L : List Jvm.Cond} {P : Jvm.Cond → Bool} (h1 : L.all (fun c => isCode c || P c) = true) (h2 : ∀ c ∈ L.filter isCode, P c = true) : L.all P = true := by
  refine List.all_eq_true.mpr fun c hc => ?_
  have h := List.all_eq_true.mp h1 c hc
  rcases Bool.eq_false_or_eq_true (isCode c) with hi | hi
  · exact h2 c (List.mem_filter.mpr ⟨hc, hi⟩)
  · simpa [hi] using h
set_option maxRecDepth 65536 in
theorem w_c0 : (Jvm.Cond.code x code maxLocals ret).before args0 about1 = true := code_word (m := ⟨1, 1⟩) (meth := k1m1) (c := k1c1) (by decide +kernel) rfl rfl rfl (by decide +kernel)
set_option maxRecDepth 65536 in
theorem w_c1 : (Jvm.Cond.code ({ cls := "com/example/plumbline/plumbline/core/TextKeysSlotPinLaw", name := "at", desc := "(JI)B" } : Jvm.MethodName) method_3_code (3 : Nat) (Option.some Jvm.ClassFile.FieldType.byte)).before args0 about1 = true := code_word (m := ⟨1, 2⟩) (meth := k1m2) (c := k1c2) (by decide +kernel) rfl rfl rfl (by decide +kernel)
set_option maxRecDepth 65536 in
theorem w_c2 : (Jvm.Cond.code ({ cls := "com/example/plumbline/plumbline/core/TextKeys", name := "slot", desc := "([BII)I" } : Jvm.MethodName) prog_57_method_4_code (5 : Nat) (Option.some Jvm.ClassFile.FieldType.int)).before args0 about1 = true := code_word (m := ⟨2, 1⟩) (meth := k2m1) (c := k2c1) (by decide +kernel) rfl rfl rfl (by decide +kernel)
set_option maxRecDepth 65536 in
theorem w_c3 : (Jvm.Cond.code ({ cls := "com/example/plumbline/plumbline/core/TextKeysSlotPinLaw", name := "t", desc := "([BIII)I" } : Jvm.MethodName) method_4_code (4 : Nat) (Option.some Jvm.ClassFile.FieldType.int)).before args0 about1 = true := code_word (m := ⟨1, 3⟩) (meth := k1m3) (c := k1c3) (by decide +kernel) rfl rfl rfl (by decide +kernel)
set_option maxRecDepth 65536 in
theorem w_c4 : (Jvm.Cond.code ({ cls := "com/example/plumbline/plumbline/core/TextKeysSlotPinLaw", name := "pow31", desc := "(I)I" } : Jvm.MethodName) method_5_code (7 : Nat) (Option.some Jvm.ClassFile.FieldType.int)).before args0 about1 = true := code_word (m := ⟨1, 4⟩) (meth := k1m4) (c := k1c4) (by decide +kernel) rfl rfl rfl (by decide +kernel)
def codes1 : List Jvm.Cond := [Jvm.Cond.code x code maxLocals ret, Jvm.Cond.code ({ cls := "com/example/plumbline/plumbline/core/TextKeysSlotPinLaw", name := "at", desc := "(JI)B" } : Jvm.MethodName) method_3_code (3 : Nat) (Option.some Jvm.ClassFile.FieldType.byte), Jvm.Cond.code ({ cls := "com/example/plumbline/plumbline/core/TextKeys", name := "slot", desc := "([BII)I" } : Jvm.MethodName) prog_57_method_4_code (5 : Nat) (Option.some Jvm.ClassFile.FieldType.int), Jvm.Cond.code ({ cls := "com/example/plumbline/plumbline/core/TextKeysSlotPinLaw", name := "t", desc := "([BIII)I" } : Jvm.MethodName) method_4_code (4 : Nat) (Option.some Jvm.ClassFile.FieldType.int), Jvm.Cond.code ({ cls := "com/example/plumbline/plumbline/core/TextKeysSlotPinLaw", name := "pow31", desc := "(I)I" } : Jvm.MethodName) method_5_code (7 : Nat) (Option.some Jvm.ClassFile.FieldType.int)]
set_option maxRecDepth 65536 in
theorem codes_eq : words1.filter isCode = codes1 := rfl
theorem w_codes : ∀ c ∈ words1.filter isCode, c.before args0 about1 = true := by
  rw [codes_eq]
  intro c hc
  simp only [codes1, List.mem_cons, List.not_mem_nil, or_false] at hc
  rcases hc with rfl | rfl | rfl | rfl | rfl
  · exact w_c0
  · exact w_c1
  · exact w_c2
  · exact w_c3
  · exact w_c4
set_option maxRecDepth 65536 in
theorem w_t1 : words1.all (fun c => isCode c || c.before args0 about1) = true := by decide +kernel
theorem w_tables : (allAtoms (Jvm.Cond.code x code maxLocals ret :: tables_1)).before args0 about1 = true := by
  rw [allAtoms_all]
  show words1.all (fun c => c.before args0 about1) = true
  refine all_split ?_ w_codes
  rw [w_t1]
set_option maxRecDepth 65536 in
theorem w_case : (Jvm.Cond.and given_1 narrow_1).before args0 about1 = true := by decide +kernel
theorem w_applies : (headSpec (Jvm.Cond.code x code maxLocals ret :: tables_1) room_1).applies x e0.platform about1 = true :=
  (Spec.applies_iff w_frames).mpr ⟨w_running, w_runnable, w_alone, w_named, w_hears, w_ripe, w_room, w_tables⟩
theorem atStart : AtStart classFile x code maxLocals ret World_1 tables_1 room_1 Calls_1 rest_1 Pre_1 launch0 p0 e0 about1 theMethod args0 below0 :=
  ⟨lists_1, trivial, launch0.admits_env _ _ _, launch0.least_env, fairChoices_fair.cas, fairChoices_fair.clock, w_frames, w_args, w_heap, w_applies, trivial, trivial, w_case⟩
end start1
theorem witness_1 : WitnessClaimed_1 := ⟨start1.p0, start1.e0, start1.about1, start1.theMethod, start1.args0, start1.below0, start1.atStart⟩
end Jvm.Pilot.@@N@@
